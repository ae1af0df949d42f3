import JvmDerived
import JvmDerived.Pilot.@@N@@Statement
import JvmDerived.Pilot.@@N@@Code
set_option linter.unusedVariables false
set_option linter.unusedSimpArgs false
namespace Jvm.Pilot.@@N@@
open Jvm Jvm.ClassFile Sem Op Lib Jvm.Free Jvm.Stand Jvm.LawKit Jvm.RoadKit Bundle Jvm.Pilot.@@N@@.Jvm.D
/-! the walk in the form of what is still to be run: own_Go T g says that the run from the frame g on T ends as promised -/
section OwnKit
variable {p : Program} {l : Launch} {e : Env} {R : Room} {s : State} {m : MethodId} {args : Array Value} {below : List Frame} {meth : Method} {c : Code} {T : State} {locs : List Loc} {cells slots : Nat} {Z : State} {h : Heap} {a0 : Array Value} {Q : Option Value → Heap → List Loc → Prop} {cm sm : Nat}
def own_Go (p : Program) (e : Env) (s : State) (below : List Frame) (Q : Option Value → Heap → List Loc → Prop) (cm sm : Nat) (T : State) (g : JFrame) : Prop :=
  ∃ (U : State) (o : Outcome), Steps p.tables e below (T.setTop g) U ∧ U.status = .running ∧ Ended U below o ∧ ∃ v L, o = .returned v ∧ Q v U.heap L ∧ FrameEnd s o U L cm sm
theorem own_st {T' : State} {g g' : JFrame} (h : ∀ t, Steps p.tables e below (T'.setTop g') t → Steps p.tables e below (T.setTop g) t) (k : own_Go p e s below Q cm sm T' g') : own_Go p e s below Q cm sm T g := by
  obtain ⟨U, o, h1, h2⟩ := k
  exact ⟨U, o, h U h1, h2⟩
abbrev own_Met (l : Launch) (Z : State) (y : MethodName) (bytes : ByteArray) (ml : Nat) (ret : Option FieldType) (rm : Room) (ws : List Jvm.Cond) (as : Array Value) (h : Heap) (Q : Option Value → Heap → List Loc → Prop) (cm sm : Nat) : Prop :=
  MetFree l y (head1 (Jvm.Cond.code y bytes ml ret :: ws) rm) (fun a U => a = as ∧ Z.Warmed39 U.vm ∧ U.heap = h) (fun _ _ _ _ _ => True) (fun _ U o U' => ∃ v L, o = .returned v ∧ Q v U'.heap L ∧ FrameEnd U o U' L cm sm)
theorem own_enter {y : MethodName} {bytes : ByteArray} {ml : Nat} {ret : Option FieldType} {rm : Room} {ws : List Jvm.Cond} {as : Array Value} {Ls : Array Slot}
    (hp : plainFor y = true) (hef : ∀ m, entryFrame m as ml = mkF m 0 Ls [])
    (body : ∀ (p : Program) (e : Env) (s : State) (m : MethodId) (below : List Frame) (meth : Method) (c : Code) (T : State), p.tables.exec = Jvm.exec → c.code = bytes → c.maxLocals = ml → s.vm.findClass y.cls = some m.cls → meth.name = y.name → meth.sig.returnType = ret → meth.locks = false → Z.Warmed39 s.vm →
      Stand p l e rm s m as below meth c T [] 0 0 → T.heap = h → own_Go p e s below Q cm sm T (mkF m 0 Ls [])) :
    own_Met l Z y bytes ml ret rm ws as h Q cm sm := by
  refine MetFree.of_bodySF hp hisR ?_
  intro p e s m args below meth c s₁ Bd hml0 hP hK
  obtain ⟨rfl, hZ, hh⟩ := hP
  obtain ⟨U, o, h1, h2⟩ := body p e s m below meth c s₁ Bd.exec Bd.bytes hml0 (findClass_of_methodNamed Bd.named) (name_of_methodNamed Bd.named Bd.method).1 Bd.returns (BodyLoose.notSynchronized Bd) hZ (Stand.of_body Bd) (by rw [← hh, Bd.state]; rfl)
  exact ⟨U, o, castTop (hef m) h1, h2⟩
/-! returns -/
theorem own_retN (X : Stand p l e R s m args below meth c T locs cells slots) (hx : p.tables.exec = Jvm.exec) (hlk : meth.locks = false) {t : FieldType} (hret : meth.sig.returnType = some t) (ht : t = .boolean ∨ t = .byte ∨ t = .char ∨ t = .short) {pc : Nat} {Ls : Array Slot} {z z' : Int32} {rest : List Value}
    (hd : decode c.code pc = .ok (.ireturn, 1)) (hz : nar t z = z') (hc : cells ≤ cm) (hs : slots ≤ sm) (hQ : Q (some (.int z')) T.heap locs) : own_Go p e s below Q cm sm T (mkF m pc Ls (.int z :: rest)) := by
  subst hz
  obtain ⟨fs, hr, hrun, hended, hW, hsame⟩ := X.leave (v := some (.int (nar t z))) (fun h => by rw [hret] at h; cases h) hlk
  exact ⟨_, _, retN X hx hret ht hd hr, hrun, hended, _, _, rfl, hQ, ⟨_, rfl⟩, hW, hsame.mono hc hs⟩
theorem own_retI (X : Stand p l e R s m args below meth c T locs cells slots) (hx : p.tables.exec = Jvm.exec) (hlk : meth.locks = false) (hret : meth.sig.returnType = some .int) {pc : Nat} {Ls : Array Slot} {z : Int32} {rest : List Value}
    (hd : decode c.code pc = .ok (.ireturn, 1)) (hc : cells ≤ cm) (hs : slots ≤ sm) (hQ : Q (some (.int z)) T.heap locs) : own_Go p e s below Q cm sm T (mkF m pc Ls (.int z :: rest)) := by
  obtain ⟨fs, hr, hrun, hended, hW, hsame⟩ := X.leave (v := some (.int z)) (fun h => by rw [hret] at h; cases h) hlk
  exact ⟨_, _, retOut X hx hret rfl (Or.inl ⟨rfl, Or.inl rfl, _, rfl⟩) hd hr, hrun, hended, _, _, rfl, hQ, ⟨_, rfl⟩, hW, hsame.mono hc hs⟩
theorem own_retJ (X : Stand p l e R s m args below meth c T locs cells slots) (hx : p.tables.exec = Jvm.exec) (hlk : meth.locks = false) (hret : meth.sig.returnType = some .long) {pc : Nat} {Ls : Array Slot} {z : Int64} {rest : List Value}
    (hd : decode c.code pc = .ok (.lreturn, 1)) (hc : cells ≤ cm) (hs : slots ≤ sm) (hQ : Q (some (.long z)) T.heap locs) : own_Go p e s below Q cm sm T (mkF m pc Ls (.long z :: rest)) := by
  obtain ⟨fs, hr, hrun, hended, hW, hsame⟩ := X.leave (v := some (.long z)) (fun h => by rw [hret] at h; cases h) hlk
  exact ⟨_, _, retOut X hx hret rfl (Or.inr (Or.inl ⟨rfl, rfl, _, rfl⟩)) hd hr, hrun, hended, _, _, rfl, hQ, ⟨_, rfl⟩, hW, hsame.mono hc hs⟩
theorem own_retR (X : Stand p l e R s m args below meth c T locs cells slots) (hx : p.tables.exec = Jvm.exec) (hlk : meth.locks = false) {t : FieldType} (hret : meth.sig.returnType = some t) (ht : t.isReference = true) {pc : Nat} {Ls : Array Slot} {w : Value} (hw : w.isRef = true) (hn : narrow t w = w) {rest : List Value}
    (hd : decode c.code pc = .ok (.areturn, 1)) (hc : cells ≤ cm) (hs : slots ≤ sm) (hQ : Q (some w) T.heap locs) : own_Go p e s below Q cm sm T (mkF m pc Ls (w :: rest)) := by
  obtain ⟨fs, hr, hrun, hended, hW, hsame⟩ := X.leave (v := some w) (fun h => by rw [hret] at h; cases h) hlk
  exact ⟨_, _, retOut X hx hret hn (Or.inr (Or.inr (Or.inr (Or.inr ⟨rfl, ht, hw⟩)))) hd hr, hrun, hended, _, _, rfl, hQ, ⟨_, rfl⟩, hW, hsame.mono hc hs⟩
theorem own_ret0 (X : Stand p l e R s m args below meth c T locs cells slots) (hx : p.tables.exec = Jvm.exec) (hlk : meth.locks = false) (hret : meth.sig.returnType = none) {pc : Nat} {Ls : Array Slot}
    (hd : decode c.code pc = .ok (.return_, 1)) (hc : cells ≤ cm) (hs : slots ≤ sm) (hQ : Q none T.heap locs) : own_Go p e s below Q cm sm T (mkF m pc Ls []) := by
  obtain ⟨fs, hr, hrun, hended, hW, hsame⟩ := X.leave (v := none) (fun _ => rfl) hlk
  exact ⟨_, _, X.returnOut hx hret hd hr, hrun, hended, _, _, rfl, hQ, ⟨_, rfl⟩, hW, hsame.mono hc hs⟩
/-! calls by the callee's contract -/
theorem own_callS (X : Stand p l e R s m args below meth c T locs cells slots) (hx : p.tables.exec = Jvm.exec) (hZ : Z.Warmed39 s.vm) {own : String} {index : Nat} {y : MethodName} {bytes : ByteArray} {maxL : Nat} {ret : Option FieldType} (hown : s.vm.findClass own = some m.cls)
    (w1 : (Jvm.Cond.methodLink own index y).before a0 Z = true) (w2 : (Jvm.Cond.static y).before a0 Z = true) (w3 : (Jvm.Cond.initialized y.cls).before a0 Z = true) (w4 : (Jvm.Cond.code y bytes maxL ret).before a0 Z = true)
    (hy : y.cls ≠ "java/lang/invoke/MethodHandle" ∧ y.cls ≠ "java/lang/invoke/VarHandle") {rm : Room} {as : Array Value} {Qc : Option Value → Heap → List Loc → Prop} (eT : T.heap = h)
    (hM : own_Met l Z y bytes maxL ret rm [] as h Qc rm.cells rm.slots) (W : Nat) (hf : rm.frames + 1 ≤ R.frames) (hl : W + (maxL + 11) + rm.locals ≤ R.locals)
    {g : JFrame} (hg : g.method = m) (hsize : g.locals.size = c.maxLocals) {argsL rest : List Value} {ps : List FieldType} {r : Option FieldType} (hpd : parseMethodDescriptor y.desc = some ⟨ps, r⟩) (hlen : argsL.length = ps.length) (has : argsL.toArray = as)
    (hstack : g.stack = argsL.reverse ++ rest) (hW : 2 * g.monitorRoom + (rest.map fun v => v.category).sum ≤ W) (hdg : decode c.code g.pc = .ok (.invokestatic index, 3)) (hc : cells + rm.cells ≤ R.cells) (hs : slots + rm.slots ≤ R.slots)
    (k : ∀ (T' : State) (v : Option Value) (Lc : List Loc), Stand p l e R s m args below meth c T' (locs ++ Lc) (cells + rm.cells) (slots + rm.slots) → Qc v T'.heap Lc → own_Go p e s below Q cm sm T' { g with pc := g.pc + 3, stack := v.toList ++ rest }) :
    own_Go p e s below Q cm sm T g := by
  obtain ⟨v, _, ⟨T', L', k', n'⟩, -, X', ⟨Lc, hQ, l1, y1, z1⟩, st⟩ := Jvm.LawKit.callS X hx (y := y) hown (mvT hZ w1) (mvT hZ w2) (mvT hZ w3) (mvT hZ w4) hy (backOf (W := W) hM hZ w4 w3 hf hl) hg hsize (argsL := argsL) (rest := rest) (lenOf hpd hlen) hstack hW hdg (fun _ _ => ⟨has, eT, hc, hs⟩)
  dsimp only [Pt.U, Pt.locs, Pt.cells, Pt.slots] at X' l1 y1 z1 st hQ
  subst l1 y1 z1
  exact own_st st (k T' v Lc X' hQ)
theorem own_callN (X : Stand p l e R s m args below meth c T locs cells slots) (hx : p.tables.exec = Jvm.exec) (hZ : Z.Warmed39 s.vm) {own : String} {index : Nat} {y : MethodName} {bytes : ByteArray} {maxL : Nat} (hy1 : y.name = "<init>") (hown : s.vm.findClass own = some m.cls)
    (w1 : (Jvm.Cond.methodLink own index y).before a0 Z = true) (w2 : (Jvm.Cond.instanceMethod y).before a0 Z = true) (w3 : (Jvm.Cond.initialized y.cls).before a0 Z = true) (w4 : (Jvm.Cond.code y bytes maxL none).before a0 Z = true)
    (hy : y.cls ≠ "java/lang/invoke/MethodHandle" ∧ y.cls ≠ "java/lang/invoke/VarHandle") {rm : Room} {as : Array Value} {Qc : Option Value → Heap → List Loc → Prop} (eT : T.heap = h)
    (hM : own_Met l Z y bytes maxL none rm [] as h Qc rm.cells rm.slots) (W : Nat) (hf : rm.frames + 1 ≤ R.frames) (hl : W + (maxL + 11) + rm.locals ≤ R.locals)
    {g : JFrame} (hg : g.method = m) (hsize : g.locals.size = c.maxLocals) {a : Addr} {argsL rest : List Value} {ps : List FieldType} {r : Option FieldType} (hpd : parseMethodDescriptor y.desc = some ⟨ps, r⟩) (hlen : argsL.length = ps.length) (has : (Value.ref a :: argsL).toArray = as)
    (hstack : g.stack = argsL.reverse ++ .ref a :: rest) (hW : 2 * g.monitorRoom + (rest.map fun v => v.category).sum ≤ W) (hdg : decode c.code g.pc = .ok (.invokespecial index, 3)) (hc : cells + rm.cells ≤ R.cells) (hs : slots + rm.slots ≤ R.slots)
    (k : ∀ (T' : State) (v : Option Value) (Lc : List Loc), Stand p l e R s m args below meth c T' (locs ++ Lc) (cells + rm.cells) (slots + rm.slots) → Qc v T'.heap Lc → own_Go p e s below Q cm sm T' { g with pc := g.pc + 3, stack := v.toList ++ rest }) :
    own_Go p e s below Q cm sm T g := by
  obtain ⟨v, _, ⟨T', L', k', n'⟩, -, X', ⟨Lc, hQ, l1, y1, z1⟩, st⟩ := X.specialBack hx (y := y) hy1 hown (mvT hZ w1) (mvT hZ w2) (mvT hZ w4) hy (backOf (W := W) hM hZ w4 w3 hf hl) hg hsize (Steps.refl _) (a := a) (argsL := argsL) (rest := rest) (lenOf hpd hlen) hstack hW hdg (fun _ _ => ⟨has, eT, hc, hs⟩)
  dsimp only [Pt.U, Pt.locs, Pt.cells, Pt.slots] at X' l1 y1 z1 st hQ
  subst l1 y1 z1
  exact own_st (fun _ q => st.trans q) (k T' v Lc X' hQ)
theorem own_callV (X : Stand p l e R s m args below meth c T locs cells slots) (hx : p.tables.exec = Jvm.exec) (hZ : Z.Warmed39 s.vm) {own C : String} {index : Nat} {y : MethodName} {bytes : ByteArray} {maxL : Nat} {ret : Option FieldType} (hown : s.vm.findClass own = some m.cls)
    (w1 : (Jvm.Cond.methodLink own index y).before a0 Z = true) (w2 : (Jvm.Cond.declares y).before a0 Z = true) (w5 : (Jvm.Cond.selects C y y).before a0 Z = true) (w6 : (Jvm.Cond.instanceMethod y).before a0 Z = true) (w3 : (Jvm.Cond.initialized y.cls).before a0 Z = true) (w4 : (Jvm.Cond.code y bytes maxL ret).before a0 Z = true)
    (hy : y.cls ≠ "java/lang/invoke/MethodHandle" ∧ y.cls ≠ "java/lang/invoke/VarHandle") {rm : Room} {as : Array Value} {Qc : Option Value → Heap → List Loc → Prop} (eT : T.heap = h)
    (hM : own_Met l Z y bytes maxL ret rm [] as h Qc rm.cells rm.slots) (W : Nat) (hf : rm.frames + 1 ≤ R.frames) (hl : W + (maxL + 11) + rm.locals ≤ R.locals) {a : Addr} (E : Exa Z h a C)
    {g : JFrame} (hg : g.method = m) (hsize : g.locals.size = c.maxLocals) {argsL rest : List Value} {ps : List FieldType} {r : Option FieldType} (hpd : parseMethodDescriptor y.desc = some ⟨ps, r⟩) (hlen : argsL.length = ps.length) (has : (Value.ref a :: argsL).toArray = as)
    (hstack : g.stack = argsL.reverse ++ .ref a :: rest) (hW : 2 * g.monitorRoom + (rest.map fun v => v.category).sum ≤ W) (hdg : decode c.code g.pc = .ok (.invokevirtual index, 3)) (hc : cells + rm.cells ≤ R.cells) (hs : slots + rm.slots ≤ R.slots)
    (k : ∀ (T' : State) (v : Option Value) (Lc : List Loc), Stand p l e R s m args below meth c T' (locs ++ Lc) (cells + rm.cells) (slots + rm.slots) → Qc v T'.heap Lc → own_Go p e s below Q cm sm T' { g with pc := g.pc + 3, stack := v.toList ++ rest }) :
    own_Go p e s below Q cm sm T g := by
  obtain ⟨cq, kq, qa, qb, qc⟩ := isOf hZ eT E
  obtain ⟨v, _, ⟨T', L', k', n'⟩, -, X', ⟨Lc, hQ, l1, y1, z1⟩, st⟩ := X.virtualBack hx (y := y) (z := y) hown (mvT hZ w1) (mvT hZ w2) (notFace_of_selects (args := #[]) (mvT hZ w5)) (mvT hZ w5) (mvT hZ w6) hy (backOf (W := W) hM hZ w4 w3 hf hl) qa qc hg hsize (Steps.refl _) (argsL := argsL) (rest := rest) (lenOf hpd hlen) hstack hW hdg (fun _ _ => ⟨has, eT, hc, hs⟩)
  dsimp only [Pt.U, Pt.locs, Pt.cells, Pt.slots] at X' l1 y1 z1 st hQ
  subst l1 y1 z1
  exact own_st (fun _ q => st.trans q) (k T' v Lc X' hQ)
/-! arrays by the list of their values -/
theorem own_ix {n j : Int32} {vs : List Value} {d : Value} {a : Addr} {k : ClassId} {ty : FieldType} (V : Arv Z h a k ty n vs d) (hj : ¬ j < 0 ∧ j < n) : ∃ cl : Cell, Arr Z h a cl ty ∧ ¬ (j < 0 ∨ cl.slots.size ≤ j.toNatClampNeg) ∧ cl.slots[j.toNatClampNeg]? = some (vs.getD j.toNatClampNeg d) := by
  obtain ⟨cl, A, -, S, N, H, -⟩ := V
  have q := inb_of S hj
  exact ⟨cl, A, q, H _ (Nat.lt_of_not_le fun y => q (Or.inr y))⟩
theorem own_len (X : Stand p l e R s m args below meth c T locs cells slots) (hx : p.tables.exec = Jvm.exec) (hZ : Z.Warmed39 s.vm) (eT : T.heap = h) {a : Addr} {k : ClassId} {ty : FieldType} {n : Int32} {vs : List Value} {d : Value} (V : Arv Z h a k ty n vs d)
    {g : JFrame} (hg : g.method = m) {rest : List Value} (hs : g.stack = .ref a :: rest) (hd : decode c.code g.pc = .ok (.arraylength, 1)) :
    ∀ t, Steps p.tables e below (T.setTop { g with pc := g.pc + 1, stack := .int n :: rest }) t → Steps p.tables e below (T.setTop g) t := by
  obtain ⟨cl, A, -, S, N, -, -⟩ := V
  intro t k
  refine X.arraylength hx (by rw [eT]; exact A.1) (State.isArrayOf_alike hZ.alike A.2.1) hg hs hd t ?_
  rw [len_of S N]; exact k
theorem own_ldI (X : Stand p l e R s m args below meth c T locs cells slots) (hx : p.tables.exec = Jvm.exec) (hZ : Z.Warmed39 s.vm) (eT : T.heap = h) {a : Addr} {k : ClassId} {n : Int32} {vs : List Value} {d : Value} (V : Arv Z h a k .int n vs d) {j x : Int32} (hj : ¬ j < 0 ∧ j < n) (hv : vs.getD j.toNatClampNeg d = .int x)
    {g : JFrame} (hg : g.method = m) {rest : List Value} (hs : g.stack = .int j :: .ref a :: rest) (hd : decode c.code g.pc = .ok (.iaload, 1)) :
    ∀ t, Steps p.tables e below (T.setTop { g with pc := g.pc + 1, stack := .int x :: rest }) t → Steps p.tables e below (T.setTop g) t := by
  obtain ⟨cl, A, q, H⟩ := own_ix V hj
  exact X.iaload hx (j := j) (v := .int x) (by rw [eT]; exact A.1) (State.isArrayOf_alike hZ.alike A.2.1) A.2.2 q (hv ▸ H) hg hs hd
theorem own_ldB (X : Stand p l e R s m args below meth c T locs cells slots) (hx : p.tables.exec = Jvm.exec) (hZ : Z.Warmed39 s.vm) (eT : T.heap = h) {a : Addr} {k : ClassId} {n : Int32} {vs : List Value} {d : Value} (V : Arv Z h a k .byte n vs d) {j x : Int32} (hj : ¬ j < 0 ∧ j < n) (hv : vs.getD j.toNatClampNeg d = .int x)
    {g : JFrame} (hg : g.method = m) {rest : List Value} (hs : g.stack = .int j :: .ref a :: rest) (hd : decode c.code g.pc = .ok (.baload, 1)) :
    ∀ t, Steps p.tables e below (T.setTop { g with pc := g.pc + 1, stack := .int x :: rest }) t → Steps p.tables e below (T.setTop g) t := by
  obtain ⟨cl, A, q, H⟩ := own_ix V hj
  exact X.baloadBytes hx (j := j) (v := .int x) (by rw [eT]; exact A.1) (State.isArrayOf_alike hZ.alike A.2.1) A.2.2 q (hv ▸ H) hg hs hd
theorem own_ldJ (X : Stand p l e R s m args below meth c T locs cells slots) (hx : p.tables.exec = Jvm.exec) (hZ : Z.Warmed39 s.vm) (eT : T.heap = h) {a : Addr} {k : ClassId} {n : Int32} {vs : List Value} {d : Value} (V : Arv Z h a k .long n vs d) {j : Int32} {x : Int64} (hj : ¬ j < 0 ∧ j < n) (hv : vs.getD j.toNatClampNeg d = .long x)
    {g : JFrame} (hg : g.method = m) {rest : List Value} (hs : g.stack = .int j :: .ref a :: rest) (hd : decode c.code g.pc = .ok (.laload, 1)) :
    ∀ t, Steps p.tables e below (T.setTop { g with pc := g.pc + 1, stack := .long x :: rest }) t → Steps p.tables e below (T.setTop g) t := by
  obtain ⟨cl, A, q, H⟩ := own_ix V hj
  exact X.laload hx (j := j) (v := .long x) (by rw [eT]; exact A.1) (State.isArrayOf_alike hZ.alike A.2.1) A.2.2 q (hv ▸ H) hg hs hd
theorem own_stI (X : Stand p l e R s m args below meth c T locs cells slots) (hx : p.tables.exec = Jvm.exec) (hZ : Z.Warmed39 s.vm) (eT : T.heap = h) {a : Addr} {k : ClassId} {n : Int32} {vs : List Value} {d : Value} (V : Arv Z h a k .int n vs d) {j x : Int32} (hj : ¬ j < 0 ∧ j < n) (hl : j.toNatClampNeg < vs.length)
    {g : JFrame} (hg : g.method = m) {rest : List Value} (hs : g.stack = .int x :: .int j :: .ref a :: rest) (hd : decode c.code g.pc = .ok (.iastore, 1)) :
    ∃ T' h', Stand p l e R s m args below meth c T' (locs ++ [⟨a, j.toNatClampNeg⟩]) cells slots ∧ T'.heap = h' ∧ Wr h h' a j.toNatClampNeg (.int x) ∧ Arv Z h' a k .int n (vs.set j.toNatClampNeg (.int x)) d ∧ ∀ t, Steps p.tables e below (T'.setTop { g with pc := g.pc + 1, stack := rest }) t → Steps p.tables e below (T.setTop g) t := by
  obtain ⟨cl, A, q1, S, N, H, G⟩ := V
  obtain ⟨T', h', X', e', W, st⟩ := stI X hx hZ eT A (j := j) (inb_of S hj) hg hs hd
  exact ⟨T', h', X', e', W, Arv.set A q1 S N H G rfl W _ rfl hl, st⟩
theorem own_stJ (X : Stand p l e R s m args below meth c T locs cells slots) (hx : p.tables.exec = Jvm.exec) (hZ : Z.Warmed39 s.vm) (eT : T.heap = h) {a : Addr} {k : ClassId} {n : Int32} {vs : List Value} {d : Value} (V : Arv Z h a k .long n vs d) {j : Int32} {x : Int64} (hj : ¬ j < 0 ∧ j < n) (hl : j.toNatClampNeg < vs.length)
    {g : JFrame} (hg : g.method = m) {rest : List Value} (hs : g.stack = .long x :: .int j :: .ref a :: rest) (hd : decode c.code g.pc = .ok (.lastore, 1)) :
    ∃ T' h', Stand p l e R s m args below meth c T' (locs ++ [⟨a, j.toNatClampNeg⟩]) cells slots ∧ T'.heap = h' ∧ Wr h h' a j.toNatClampNeg (.long x) ∧ Arv Z h' a k .long n (vs.set j.toNatClampNeg (.long x)) d ∧ ∀ t, Steps p.tables e below (T'.setTop { g with pc := g.pc + 1, stack := rest }) t → Steps p.tables e below (T.setTop g) t := by
  obtain ⟨cl, A, q1, S, N, H, G⟩ := V
  obtain ⟨T', h', X', e', W, st⟩ := stJ X hx hZ eT A (j := j) (inb_of S hj) hg hs hd
  exact ⟨T', h', X', e', W, Arv.set A q1 S N H G rfl W _ rfl hl, st⟩
theorem own_stB (X : Stand p l e R s m args below meth c T locs cells slots) (hx : p.tables.exec = Jvm.exec) (hZ : Z.Warmed39 s.vm) (eT : T.heap = h) {a : Addr} {k : ClassId} {n : Int32} {vs : List Value} {d : Value} (V : Arv Z h a k .byte n vs d) {j x x' : Int32} (hj : ¬ j < 0 ∧ j < n) (hl : j.toNatClampNeg < vs.length) (hn : x.toInt8.toInt32 = x')
    {g : JFrame} (hg : g.method = m) {rest : List Value} (hs : g.stack = .int x :: .int j :: .ref a :: rest) (hd : decode c.code g.pc = .ok (.bastore, 1)) :
    ∃ T' h', Stand p l e R s m args below meth c T' (locs ++ [⟨a, j.toNatClampNeg⟩]) cells slots ∧ T'.heap = h' ∧ Wr h h' a j.toNatClampNeg (.int x') ∧ Arv Z h' a k .byte n (vs.set j.toNatClampNeg (.int x')) d ∧ ∀ t, Steps p.tables e below (T'.setTop { g with pc := g.pc + 1, stack := rest }) t → Steps p.tables e below (T.setTop g) t := by
  subst hn
  obtain ⟨cl, A, q1, S, N, H, G⟩ := V
  obtain ⟨T', h', X', e', W, st⟩ := stB X hx hZ eT A (j := j) (inb_of S hj) hg hs hd
  exact ⟨T', h', X', e', W, Arv.set A q1 S N H G (fits_nar_byte _) W _ rfl hl, st⟩
theorem own_ldR (X : Stand p l e R s m args below meth c T locs cells slots) (hx : p.tables.exec = Jvm.exec) (hZ : Z.Warmed39 s.vm) (eT : T.heap = h) {a : Addr} {k : ClassId} {ty : FieldType} {n : Int32} {vs : List Value} {d : Value} (V : Arv Z h a k ty n vs d) (hty : ty.isReference = true) {j : Int32} {v : Value} (hj : ¬ j < 0 ∧ j < n) (hv : vs.getD j.toNatClampNeg d = v)
    {g : JFrame} (hg : g.method = m) {rest : List Value} (hs : g.stack = .int j :: .ref a :: rest) (hd : decode c.code g.pc = .ok (.aaload, 1)) :
    ∀ t, Steps p.tables e below (T.setTop { g with pc := g.pc + 1, stack := v :: rest }) t → Steps p.tables e below (T.setTop g) t := by
  obtain ⟨cl, A, q, H⟩ := own_ix V hj
  exact X.aaload hx (j := j) (v := v) (by rw [eT]; exact A.1) (State.isArrayOf_alike hZ.alike A.2.1) hty A.2.2 q (hv ▸ H) hg hs hd
theorem own_stR (X : Stand p l e R s m args below meth c T locs cells slots) (hx : p.tables.exec = Jvm.exec) (hZ : Z.Warmed39 s.vm) (eT : T.heap = h) {a : Addr} {k : ClassId} {ty : FieldType} {n : Int32} {vs : List Value} {d : Value} (V : Arv Z h a k ty n vs d) (hty : ty.isReference = true) {v : Value} (F : ∀ cl : Cell, Arr Z h a cl ty → cl.cls = k → Sto Z h a v) (hf : fits ty v = true) {j : Int32} (hj : ¬ j < 0 ∧ j < n) (hl : j.toNatClampNeg < vs.length)
    {g : JFrame} (hg : g.method = m) {rest : List Value} (hs : g.stack = v :: .int j :: .ref a :: rest) (hd : decode c.code g.pc = .ok (.aastore, 1)) :
    ∃ T' h', Stand p l e R s m args below meth c T' (locs ++ [⟨a, j.toNatClampNeg⟩]) cells slots ∧ T'.heap = h' ∧ Wr h h' a j.toNatClampNeg v ∧ Arv Z h' a k ty n (vs.set j.toNatClampNeg v) d ∧ ∀ t, Steps p.tables e below (T'.setTop { g with pc := g.pc + 1, stack := rest }) t → Steps p.tables e below (T.setTop g) t := by
  obtain ⟨cl, A, q1, S, N, H, G⟩ := V
  obtain ⟨T', h', X', e', W, st⟩ := stR X hx hZ eT A (j := j) (inb_of S hj) hty (F cl A q1) hg hs hd
  exact ⟨T', h', X', e', W, Arv.set A q1 S N H G hf W _ rfl hl, st⟩
/-! booleans -/
def own_b (P : Prop) [Decidable P] : Int32 := if P then 1 else 0
theorem own_bt {P : Prop} [Decidable P] (q : P) : own_b P = 1 := if_pos q
theorem own_bf {P : Prop} [Decidable P] (q : ¬ P) : own_b P = 0 := if_neg q
theorem own_bnar {P : Prop} [Decidable P] : nar .boolean (own_b P) = own_b P := by
  by_cases q : P
  · rw [own_bt q]; decide
  · rw [own_bf q]; decide
theorem own_bnw {P : Prop} [Decidable P] : narrow .boolean (.int (own_b P)) = .int (own_b P) := congrArg Value.int (own_bnar (P := P))
theorem own_by {P : Prop} [Decidable P] (q : P) : ifCond.holds .ne (own_b P) = true ∧ ifCond.holds .eq (own_b P) = false := by rw [own_bt q]; decide
theorem own_bn {P : Prop} [Decidable P] (q : ¬ P) : ifCond.holds .eq (own_b P) = true ∧ ifCond.holds .ne (own_b P) = false := by rw [own_bf q]; decide
theorem own_beq {P P' : Prop} [Decidable P] [Decidable P'] (q : P ↔ P') : own_b P = own_b P' := by
  by_cases r : P
  · rw [own_bt r, own_bt (q.mp r)]
  · rw [own_bf r, own_bf fun x => r (q.mpr x)]
end OwnKit

abbrev own_E (f l : Int64) (A : Prop) : Prop := (A ∧ ¬ f < l) ∨ (¬ A ∧ l < f)
abbrev own_H (f l : Int64) (A : Prop) : Prop := f < l ∨ (f = l ∧ ¬ A)
def own_min (a b : Int64) : Int64 := if b < a then b else a
theorem own_EH (f l : Int64) (A : Prop) : own_E f l A ↔ ¬ own_H f l A := by
  have h1 := Int64.lt_iff_toInt_lt (x := f) (y := l)
  have h2 := Int64.lt_iff_toInt_lt (x := l) (y := f)
  have h3 := Int64.toInt_inj (x := f) (y := l)
  by_cases q : A <;> simp only [own_E, own_H, q, h1, h2, ← h3, not_true, not_false_iff, true_and, and_true, false_and, and_false, or_false, false_or] <;> omega
theorem own_bfit {A : Prop} [Decidable A] : fits .boolean (.int (own_b A)) = true := by
  by_cases q : A
  · rw [own_bt q]; rfl
  · rw [own_bf q]; rfl
theorem d1_0 : decode prog_65_method_1_code 0 = .ok (.aload_n 0, 1) := by decide +kernel
theorem d1_1 : decode prog_65_method_1_code 1 = .ok (.invokespecial 1, 3) := by decide +kernel
theorem d1_4 : decode prog_65_method_1_code 4 = .ok (.aload_n 0, 1) := by decide +kernel
theorem d1_5 : decode prog_65_method_1_code 5 = .ok (.lload_n 1, 1) := by decide +kernel
theorem d1_6 : decode prog_65_method_1_code 6 = .ok (.putfield 7, 3) := by decide +kernel
theorem d1_9 : decode prog_65_method_1_code 9 = .ok (.aload_n 0, 1) := by decide +kernel
theorem d1_10 : decode prog_65_method_1_code 10 = .ok (.iload_n 3, 1) := by decide +kernel
theorem d1_11 : decode prog_65_method_1_code 11 = .ok (.putfield 13, 3) := by decide +kernel
theorem d1_14 : decode prog_65_method_1_code 14 = .ok (.aload_n 0, 1) := by decide +kernel
theorem d1_15 : decode prog_65_method_1_code 15 = .ok (.lload 4, 2) := by decide +kernel
theorem d1_17 : decode prog_65_method_1_code 17 = .ok (.putfield 17, 3) := by decide +kernel
theorem d1_20 : decode prog_65_method_1_code 20 = .ok (.return_, 1) := by decide +kernel
theorem pf1 : plainFor (⟨"com/example/chronotope/chronotope/TimeCondition", "<init>", "(JZJ)V"⟩ : MethodName) = true := by first | (exact plainFor_of_name (by first | (simp [plainName, overriddenIn]; done) | decide +kernel)) | decide +kernel
theorem d2_0 : decode jdk_30_method_1_code 0 = .ok (.aload_n 0, 1) := by decide +kernel
theorem d2_1 : decode jdk_30_method_1_code 1 = .ok (.invokespecial 1, 3) := by decide +kernel
theorem d2_4 : decode jdk_30_method_1_code 4 = .ok (.return_, 1) := by decide +kernel
theorem pf2 : plainFor (⟨"java/lang/Record", "<init>", "()V"⟩ : MethodName) = true := by first | (exact plainFor_of_name (by first | (simp [plainName, overriddenIn]; done) | decide +kernel)) | decide +kernel
theorem d4_0 : decode prog_65_method_7_code 0 = .ok (.aload_n 0, 1) := by decide +kernel
theorem d4_1 : decode prog_65_method_7_code 1 = .ok (.getfield 13, 3) := by decide +kernel
theorem d4_4 : decode prog_65_method_7_code 4 = .ok (.ifCond .eq 23, 3) := by decide +kernel
theorem d4_7 : decode prog_65_method_7_code 7 = .ok (.aload_n 0, 1) := by decide +kernel
theorem d4_8 : decode prog_65_method_7_code 8 = .ok (.getfield 7, 3) := by decide +kernel
theorem d4_11 : decode prog_65_method_7_code 11 = .ok (.aload_n 0, 1) := by decide +kernel
theorem d4_12 : decode prog_65_method_7_code 12 = .ok (.getfield 17, 3) := by decide +kernel
theorem d4_15 : decode prog_65_method_7_code 15 = .ok (.lcmp, 1) := by decide +kernel
theorem d4_16 : decode prog_65_method_7_code 16 = .ok (.ifCond .lt 7, 3) := by decide +kernel
theorem d4_19 : decode prog_65_method_7_code 19 = .ok (.iconst 1, 1) := by decide +kernel
theorem d4_20 : decode prog_65_method_7_code 20 = .ok (.goto 24, 3) := by decide +kernel
theorem d4_23 : decode prog_65_method_7_code 23 = .ok (.iconst 0, 1) := by decide +kernel
theorem d4_24 : decode prog_65_method_7_code 24 = .ok (.goto 20, 3) := by decide +kernel
theorem d4_27 : decode prog_65_method_7_code 27 = .ok (.aload_n 0, 1) := by decide +kernel
theorem d4_28 : decode prog_65_method_7_code 28 = .ok (.getfield 7, 3) := by decide +kernel
theorem d4_31 : decode prog_65_method_7_code 31 = .ok (.aload_n 0, 1) := by decide +kernel
theorem d4_32 : decode prog_65_method_7_code 32 = .ok (.getfield 17, 3) := by decide +kernel
theorem d4_35 : decode prog_65_method_7_code 35 = .ok (.lcmp, 1) := by decide +kernel
theorem d4_36 : decode prog_65_method_7_code 36 = .ok (.ifCond .le 7, 3) := by decide +kernel
theorem d4_39 : decode prog_65_method_7_code 39 = .ok (.iconst 1, 1) := by decide +kernel
theorem d4_40 : decode prog_65_method_7_code 40 = .ok (.goto 4, 3) := by decide +kernel
theorem d4_43 : decode prog_65_method_7_code 43 = .ok (.iconst 0, 1) := by decide +kernel
theorem d4_44 : decode prog_65_method_7_code 44 = .ok (.ireturn, 1) := by decide +kernel
theorem pf4 : plainFor (⟨"com/example/chronotope/chronotope/TimeCondition", "isEmpty", "()Z"⟩ : MethodName) = true := by first | (exact plainFor_of_name (by first | (simp [plainName, overriddenIn]; done) | decide +kernel)) | decide +kernel
theorem d5_0 : decode method_2_code 0 = .ok (.lload_n 0, 1) := by decide +kernel
theorem d5_1 : decode method_2_code 1 = .ok (.lload_n 3, 1) := by decide +kernel
theorem d5_2 : decode method_2_code 2 = .ok (.lcmp, 1) := by decide +kernel
theorem d5_3 : decode method_2_code 3 = .ok (.ifCond .ge 5, 3) := by decide +kernel
theorem d5_6 : decode method_2_code 6 = .ok (.iconst 1, 1) := by decide +kernel
theorem d5_7 : decode method_2_code 7 = .ok (.ireturn, 1) := by decide +kernel
theorem d5_8 : decode method_2_code 8 = .ok (.lload_n 0, 1) := by decide +kernel
theorem d5_9 : decode method_2_code 9 = .ok (.lload_n 3, 1) := by decide +kernel
theorem d5_10 : decode method_2_code 10 = .ok (.lcmp, 1) := by decide +kernel
theorem d5_11 : decode method_2_code 11 = .ok (.ifCond .ne 13, 3) := by decide +kernel
theorem d5_14 : decode method_2_code 14 = .ok (.iload_n 2, 1) := by decide +kernel
theorem d5_15 : decode method_2_code 15 = .ok (.ifCond .ne 7, 3) := by decide +kernel
theorem d5_18 : decode method_2_code 18 = .ok (.iconst 1, 1) := by decide +kernel
theorem d5_19 : decode method_2_code 19 = .ok (.goto 4, 3) := by decide +kernel
theorem d5_22 : decode method_2_code 22 = .ok (.iconst 0, 1) := by decide +kernel
theorem d5_23 : decode method_2_code 23 = .ok (.ireturn, 1) := by decide +kernel
theorem d5_24 : decode method_2_code 24 = .ok (.iconst 0, 1) := by decide +kernel
theorem d5_25 : decode method_2_code 25 = .ok (.ireturn, 1) := by decide +kernel
theorem pf5 : plainFor (⟨"com/example/chronotope/chronotope/TimeConditionIsEmptyPinLaw", "hasInstant", "(JZJ)Z"⟩ : MethodName) = true := by first | (exact plainFor_of_name (by first | (simp [plainName, overriddenIn]; done) | decide +kernel)) | decide +kernel
theorem d6_0 : decode jdk_29_method_70_code 0 = .ok (.lload_n 0, 1) := by decide +kernel
theorem d6_1 : decode jdk_29_method_70_code 1 = .ok (.lload_n 2, 1) := by decide +kernel
theorem d6_2 : decode jdk_29_method_70_code 2 = .ok (.lcmp, 1) := by decide +kernel
theorem d6_3 : decode jdk_29_method_70_code 3 = .ok (.ifCond .gt 7, 3) := by decide +kernel
theorem d6_6 : decode jdk_29_method_70_code 6 = .ok (.lload_n 0, 1) := by decide +kernel
theorem d6_7 : decode jdk_29_method_70_code 7 = .ok (.goto 4, 3) := by decide +kernel
theorem d6_10 : decode jdk_29_method_70_code 10 = .ok (.lload_n 2, 1) := by decide +kernel
theorem d6_11 : decode jdk_29_method_70_code 11 = .ok (.lreturn, 1) := by decide +kernel
theorem pf6 : plainFor (⟨"java/lang/Math", "min", "(JJ)J"⟩ : MethodName) = true := by first | (exact plainFor_of_name (by first | (simp [plainName, overriddenIn]; done) | decide +kernel)) | decide +kernel
theorem d7_0 : decode prog_65_method_6_code 0 = .ok (.new 8, 3) := by decide +kernel
theorem d7_3 : decode prog_65_method_6_code 3 = .ok (.dup, 1) := by decide +kernel
theorem d7_4 : decode prog_65_method_6_code 4 = .ok (.aload_n 0, 1) := by decide +kernel
theorem d7_5 : decode prog_65_method_6_code 5 = .ok (.getfield 7, 3) := by decide +kernel
theorem d7_8 : decode prog_65_method_6_code 8 = .ok (.aload_n 0, 1) := by decide +kernel
theorem d7_9 : decode prog_65_method_6_code 9 = .ok (.getfield 13, 3) := by decide +kernel
theorem d7_12 : decode prog_65_method_6_code 12 = .ok (.aload_n 0, 1) := by decide +kernel
theorem d7_13 : decode prog_65_method_6_code 13 = .ok (.getfield 17, 3) := by decide +kernel
theorem d7_16 : decode prog_65_method_6_code 16 = .ok (.lload_n 1, 1) := by decide +kernel
theorem d7_17 : decode prog_65_method_6_code 17 = .ok (.invokestatic 29, 3) := by decide +kernel
theorem d7_20 : decode prog_65_method_6_code 20 = .ok (.invokespecial 20, 3) := by decide +kernel
theorem d7_23 : decode prog_65_method_6_code 23 = .ok (.areturn, 1) := by decide +kernel
theorem pf7 : plainFor (⟨"com/example/chronotope/chronotope/TimeCondition", "upTo", "(J)Lcom/example/chronotope/chronotope/TimeCondition;"⟩ : MethodName) = true := by first | (exact plainFor_of_name (by first | (simp [plainName, overriddenIn]; done) | decide +kernel)) | decide +kernel
theorem pf0 : plainFor x = true := plainFor_of_name (by first | (simp [x, plainName, overriddenIn]; done) | decide +kernel)
theorem pd0 : parseMethodDescriptor "()V" = some ⟨[], none⟩ := by decide +kernel
theorem pd1 : parseMethodDescriptor "(JZJ)V" = some ⟨[.long, .boolean, .long], none⟩ := by decide +kernel
theorem pd2 : parseMethodDescriptor "()Z" = some ⟨[], some .boolean⟩ := by decide +kernel
theorem pd3 : parseMethodDescriptor "(JZJ)Z" = some ⟨[.long, .boolean, .long], some .boolean⟩ := by decide +kernel
theorem pd4 : parseMethodDescriptor "(JJ)J" = some ⟨[.long, .long], some .long⟩ := by decide +kernel
theorem pd5 : parseMethodDescriptor "(J)Lcom/example/chronotope/chronotope/TimeCondition;" = some ⟨[.long], some (.object "com/example/chronotope/chronotope/TimeCondition")⟩ := by decide +kernel
theorem ef_rm2 (m : MethodId) (z0 : Addr) : entryFrame m #[(.ref z0)] 1 = mkF m 0 #[.val (.ref z0)] [] := by first | (simp [entryFrame, mkF, argsToLocals, Value.category]; done) | rfl
set_option maxRecDepth 65536 in
set_option maxHeartbeats 40000000 in
theorem rm2 (l : Launch) (Z : State) (a0 : Array Value) (hw : ∀ d ∈ tables_1, d.before a0 Z = true) (ws : List Jvm.Cond) (a : Addr) (h0 : Heap) (n0 : Nat) (Z0 : n0 ≤ h0.size)  :
    own_Met l Z (⟨"java/lang/Record", "<init>", "()V"⟩ : MethodName) jdk_30_method_1_code 1 none ({ frames := 1, cells := 0, slots := 0, locals := 12 } : Room) ws #[(.ref a)] h0 (fun v h L => v = none ∧ Fr n0 L ∧ h = h0) 0 0 := by
  refine own_enter pf2 (fun m => ef_rm2 m a) ?_
  intro p e s m below meth c T0 hx hby hml hown hnm hret hlk hZ X0 e0
  have N0 := Fr.nil n0
  show own_Go p e s below _ _ _ T0 (mkF m 0 #[.val (.ref a)] [])
  refine own_st (fun _ k => XS.aloadN X0.here hx rfl (hb hby d2_0) rfl rfl k) ?_
  show own_Go p e s below _ _ _ T0 (mkF m 1 #[.val (.ref a)] [(.ref a)])
  obtain ⟨T1, X1, e1, st1⟩ := initO X0 hx hZ hown (hw _ (List.mem_of_getElem? (i := 11) rfl)) (hw _ (List.mem_of_getElem? (i := 12) rfl)) (hw _ (List.mem_of_getElem? (i := 13) rfl)) e0 (g := (mkF m 1 #[.val (.ref a)] [(.ref a)])) rfl (by rw [hml]; rfl) rfl (hb hby d2_1) (by decide) (W := 0) (by show 2 * 0 + _ ≤ _; exact Nat.le_of_eq rfl) (by decide)
  refine own_st st1 ?_
  show own_Go p e s below _ _ _ T1 (mkF m 4 #[.val (.ref a)] [])
  exact own_ret0 X1 hx hlk hret (hb hby d2_4) (by decide) (by decide) ⟨rfl, N0, e1⟩
theorem ef_rm1 (m : MethodId) (z0 : Addr) (z1 : Int64) (z2 : Int32) (z3 : Int64) : entryFrame m #[(.ref z0), (.long z1), (.int z2), (.long z3)] 6 = mkF m 0 #[.val (.ref z0), .val (.long z1), .second, .val (.int z2), .val (.long z3), .second] [] := by first | (simp [entryFrame, mkF, argsToLocals, Value.category]; done) | rfl
set_option maxRecDepth 65536 in
set_option maxHeartbeats 40000000 in
theorem rm1 (l : Launch) (Z : State) (a0 : Array Value) (hw : ∀ d ∈ tables_1, d.before a0 Z = true) (ws : List Jvm.Cond) (a : Addr) (q1 : Int64) (A : Prop) [Decidable A] (q3 : Int64) (h0 : Heap) (n0 : Nat) (Z0 : n0 ≤ h0.size) (E_a : Exa Z h0 a "com/example/chronotope/chronotope/TimeCondition") (F_first_a : Fld Z h0 a "com/example/chronotope/chronotope/TimeCondition" "first" "J" (.long (0 : Int64))) (F_afterFirst_a : Fld Z h0 a "com/example/chronotope/chronotope/TimeCondition" "afterFirst" "Z" (.int (0 : Int32))) (F_last_a : Fld Z h0 a "com/example/chronotope/chronotope/TimeCondition" "last" "J" (.long (0 : Int64))) (g_a : n0 ≤ a) :
    own_Met l Z (⟨"com/example/chronotope/chronotope/TimeCondition", "<init>", "(JZJ)V"⟩ : MethodName) prog_65_method_1_code 6 none ({ frames := 2, cells := 0, slots := 0, locals := 24 } : Room) ws #[(.ref a), (.long q1), (.int (own_b A)), (.long q3)] h0 (fun v h L => v = none ∧ Fr n0 L ∧ Keep h0 h [a] ∧ (Exa Z h a "com/example/chronotope/chronotope/TimeCondition") ∧ (Fld Z h a "com/example/chronotope/chronotope/TimeCondition" "first" "J" (.long q1)) ∧ (Fld Z h a "com/example/chronotope/chronotope/TimeCondition" "afterFirst" "Z" (.int (own_b A))) ∧ (Fld Z h a "com/example/chronotope/chronotope/TimeCondition" "last" "J" (.long q3))) 0 0 := by
  refine own_enter pf1 (fun m => ef_rm1 m a q1 (own_b A) q3) ?_
  intro p e s m below meth c T0 hx hby hml hown hnm hret hlk hZ X0 e0
  have N0 := Fr.nil n0
  show own_Go p e s below _ _ _ T0 (mkF m 0 #[.val (.ref a), .val (.long q1), .second, .val (.int (own_b A)), .val (.long q3), .second] [])
  have K_0 := Keep.refl h0 [a]
  refine own_st (fun _ k => XS.aloadN X0.here hx rfl (hb hby d1_0) rfl rfl k) ?_
  show own_Go p e s below _ _ _ T0 (mkF m 1 #[.val (.ref a), .val (.long q1), .second, .val (.int (own_b A)), .val (.long q3), .second] [(.ref a)])
  refine own_callN X0 hx hZ (y := (⟨"java/lang/Record", "<init>", "()V"⟩ : MethodName)) rfl hown (hw _ (List.mem_of_getElem? (i := 6) rfl)) (hw _ (List.mem_of_getElem? (i := 7) rfl)) (hw _ (List.mem_of_getElem? (i := 9) rfl)) (hw _ (List.mem_of_getElem? (i := 10) rfl)) (by decide) e0 (rm2 l Z a0 hw [] a h0 n0 Z0) 0 (by decide) (by decide) (g := (mkF m 1 #[.val (.ref a), .val (.long q1), .second, .val (.int (own_b A)), .val (.long q3), .second] [(.ref a)])) rfl (by rw [hml]; rfl) (a := a) (argsL := []) (rest := []) pd0 rfl rfl rfl (by show 2 * 0 + _ ≤ _; exact Nat.le_of_eq rfl) (hb hby d1_1) (by decide) (by decide) ?_
  intro T2 v2 L2 X2 hQ2
  obtain ⟨rfl, N2q, e2⟩ := hQ2
  have N2 := Fr.app N0 N2q
  show own_Go p e s below _ _ _ T2 (mkF m 4 #[.val (.ref a), .val (.long q1), .second, .val (.int (own_b A)), .val (.long q3), .second] [])
  refine own_st (fun _ k => XS.aloadN X2.here hx rfl (hb hby d1_4) rfl rfl k) ?_
  show own_Go p e s below _ _ _ T2 (mkF m 5 #[.val (.ref a), .val (.long q1), .second, .val (.int (own_b A)), .val (.long q3), .second] [(.ref a)])
  refine own_st (fun _ k => XS.lloadN X2.here hx rfl (hb hby d1_5) rfl k) ?_
  show own_Go p e s below _ _ _ T2 (mkF m 6 #[.val (.ref a), .val (.long q1), .second, .val (.int (own_b A)), .val (.long q3), .second] [(.long q1), (.ref a)])
  obtain ⟨T3, h3, X3, e3, W3, st3⟩ := putF X2 hx hZ hown (host := "") (Or.inl (hw _ (List.mem_of_getElem? (i := 14) rfl))) Via.refl e2 F_first_a E_a (Or.inr ⟨hw _ (List.mem_of_getElem? (i := 15) rfl), rfl, hnm⟩) (hw _ (List.mem_of_getElem? (i := 1) rfl)) (ty := .long) (by decide) rfl rfl (g := (mkF m 6 #[.val (.ref a), .val (.long q1), .second, .val (.int (own_b A)), .val (.long q3), .second] [(.long q1), (.ref a)])) rfl rfl (hb hby d1_6)
  refine own_st st3 ?_
  replace F_first_a := F_first_a.same W3
  replace E_a := E_a.wr W3
  replace F_afterFirst_a := F_afterFirst_a.other W3 (Or.inr (slot_ne (Or.inr (hw _ (List.mem_of_getElem? (i := 17) rfl))) (Or.inr (hw _ (List.mem_of_getElem? (i := 15) rfl))) (by decide) (t := .boolean) (t' := .long) (by decide) (by decide)))
  replace F_last_a := F_last_a.other W3 (Or.inr (slot_ne (Or.inr (hw _ (List.mem_of_getElem? (i := 19) rfl))) (Or.inr (hw _ (List.mem_of_getElem? (i := 15) rfl))) (by decide) (t := .long) (t' := .long) (by decide) (by decide)))
  have Z4 := Nat.le_trans Z0 (Keep.of_wr W3).1
  have K5 := K_0.wr W3 (Or.inl (List.mem_of_getElem? (i := 0) rfl))
  have N3 := Fr.snoc X3 N2 g_a
  show own_Go p e s below _ _ _ T3 (mkF m 9 #[.val (.ref a), .val (.long q1), .second, .val (.int (own_b A)), .val (.long q3), .second] [])
  refine own_st (fun _ k => XS.aloadN X3.here hx rfl (hb hby d1_9) rfl rfl k) ?_
  show own_Go p e s below _ _ _ T3 (mkF m 10 #[.val (.ref a), .val (.long q1), .second, .val (.int (own_b A)), .val (.long q3), .second] [(.ref a)])
  refine own_st (fun _ k => XS.iloadN X3.here hx rfl (hb hby d1_10) rfl k) ?_
  show own_Go p e s below _ _ _ T3 (mkF m 11 #[.val (.ref a), .val (.long q1), .second, .val (.int (own_b A)), .val (.long q3), .second] [(.int (own_b A)), (.ref a)])
  obtain ⟨T6, h6, X6, e6, W6, st6⟩ := putFN X3 hx hZ hown (hw _ (List.mem_of_getElem? (i := 16) rfl)) Via.refl e3 F_afterFirst_a E_a (Or.inr ⟨hw _ (List.mem_of_getElem? (i := 17) rfl), rfl, hnm⟩) (hw _ (List.mem_of_getElem? (i := 1) rfl)) (ty := .boolean) (v := (.int (own_b A))) (v' := (.int (own_b A))) (by decide) own_bnw own_bfit (g := (mkF m 11 #[.val (.ref a), .val (.long q1), .second, .val (.int (own_b A)), .val (.long q3), .second] [(.int (own_b A)), (.ref a)])) rfl rfl (hb hby d1_11)
  refine own_st st6 ?_
  replace F_afterFirst_a := F_afterFirst_a.same W6
  replace E_a := E_a.wr W6
  replace F_last_a := F_last_a.other W6 (Or.inr (slot_ne (Or.inr (hw _ (List.mem_of_getElem? (i := 19) rfl))) (Or.inr (hw _ (List.mem_of_getElem? (i := 17) rfl))) (by decide) (t := .long) (t' := .boolean) (by decide) (by decide)))
  replace F_first_a := F_first_a.other W6 (Or.inr (slot_ne (Or.inr (hw _ (List.mem_of_getElem? (i := 15) rfl))) (Or.inr (hw _ (List.mem_of_getElem? (i := 17) rfl))) (by decide) (t := .long) (t' := .boolean) (by decide) (by decide)))
  have Z7 := Nat.le_trans Z4 (Keep.of_wr W6).1
  have K8 := K5.wr W6 (Or.inl (List.mem_of_getElem? (i := 0) rfl))
  have N6 := Fr.snoc X6 N3 g_a
  show own_Go p e s below _ _ _ T6 (mkF m 14 #[.val (.ref a), .val (.long q1), .second, .val (.int (own_b A)), .val (.long q3), .second] [])
  refine own_st (fun _ k => XS.aloadN X6.here hx rfl (hb hby d1_14) rfl rfl k) ?_
  show own_Go p e s below _ _ _ T6 (mkF m 15 #[.val (.ref a), .val (.long q1), .second, .val (.int (own_b A)), .val (.long q3), .second] [(.ref a)])
  refine own_st (fun _ k => XS.lload X6.here hx rfl (hb hby d1_15) rfl k) ?_
  show own_Go p e s below _ _ _ T6 (mkF m 17 #[.val (.ref a), .val (.long q1), .second, .val (.int (own_b A)), .val (.long q3), .second] [(.long q3), (.ref a)])
  obtain ⟨T9, h9, X9, e9, W9, st9⟩ := putF X6 hx hZ hown (host := "") (Or.inl (hw _ (List.mem_of_getElem? (i := 18) rfl))) Via.refl e6 F_last_a E_a (Or.inr ⟨hw _ (List.mem_of_getElem? (i := 19) rfl), rfl, hnm⟩) (hw _ (List.mem_of_getElem? (i := 1) rfl)) (ty := .long) (by decide) rfl rfl (g := (mkF m 17 #[.val (.ref a), .val (.long q1), .second, .val (.int (own_b A)), .val (.long q3), .second] [(.long q3), (.ref a)])) rfl rfl (hb hby d1_17)
  refine own_st st9 ?_
  replace F_last_a := F_last_a.same W9
  replace E_a := E_a.wr W9
  replace F_first_a := F_first_a.other W9 (Or.inr (slot_ne (Or.inr (hw _ (List.mem_of_getElem? (i := 15) rfl))) (Or.inr (hw _ (List.mem_of_getElem? (i := 19) rfl))) (by decide) (t := .long) (t' := .long) (by decide) (by decide)))
  replace F_afterFirst_a := F_afterFirst_a.other W9 (Or.inr (slot_ne (Or.inr (hw _ (List.mem_of_getElem? (i := 17) rfl))) (Or.inr (hw _ (List.mem_of_getElem? (i := 19) rfl))) (by decide) (t := .boolean) (t' := .long) (by decide) (by decide)))
  have Z10 := Nat.le_trans Z7 (Keep.of_wr W9).1
  have K11 := K8.wr W9 (Or.inl (List.mem_of_getElem? (i := 0) rfl))
  have N9 := Fr.snoc X9 N6 g_a
  show own_Go p e s below _ _ _ T9 (mkF m 20 #[.val (.ref a), .val (.long q1), .second, .val (.int (own_b A)), .val (.long q3), .second] [])
  subst e9
  exact own_ret0 X9 hx hlk hret (hb hby d1_20) (by decide) (by decide) ⟨rfl, N9, K11, E_a, F_first_a, F_afterFirst_a, F_last_a⟩
theorem ef_rm4 (m : MethodId) (z0 : Addr) : entryFrame m #[(.ref z0)] 1 = mkF m 0 #[.val (.ref z0)] [] := by first | (simp [entryFrame, mkF, argsToLocals, Value.category]; done) | rfl
set_option maxRecDepth 65536 in
set_option maxHeartbeats 40000000 in
theorem rm4 (l : Launch) (Z : State) (a0 : Array Value) (hw : ∀ d ∈ tables_1, d.before a0 Z = true) (ws : List Jvm.Cond) (a : Addr) (q1 : Int64) (A : Prop) [Decidable A] (q3 : Int64) (h0 : Heap) (n0 : Nat) (Z0 : n0 ≤ h0.size) (E_a : Exa Z h0 a "com/example/chronotope/chronotope/TimeCondition") (F_first_a : Fld Z h0 a "com/example/chronotope/chronotope/TimeCondition" "first" "J" (.long q1)) (F_afterFirst_a : Fld Z h0 a "com/example/chronotope/chronotope/TimeCondition" "afterFirst" "Z" (.int (own_b A))) (F_last_a : Fld Z h0 a "com/example/chronotope/chronotope/TimeCondition" "last" "J" (.long q3)) :
    own_Met l Z (⟨"com/example/chronotope/chronotope/TimeCondition", "isEmpty", "()Z"⟩ : MethodName) prog_65_method_7_code 1 (some .boolean) ({ frames := 0, cells := 0, slots := 0, locals := 0 } : Room) ws #[(.ref a)] h0 (fun v h L => v = some (.int (own_b (own_E q1 q3 A))) ∧ Fr n0 L ∧ h = h0) 0 0 := by
  refine own_enter pf4 (fun m => ef_rm4 m a) ?_
  intro p e s m below meth c T0 hx hby hml hown hnm hret hlk hZ X0 e0
  have N0 := Fr.nil n0
  show own_Go p e s below _ _ _ T0 (mkF m 0 #[.val (.ref a)] [])
  refine own_st (fun _ k => XS.aloadN X0.here hx rfl (hb hby d4_0) rfl rfl k) ?_
  show own_Go p e s below _ _ _ T0 (mkF m 1 #[.val (.ref a)] [(.ref a)])
  obtain ⟨T12, X12, e12, st12⟩ := getF X0 hx hZ hown (host := "") (Or.inl (hw _ (List.mem_of_getElem? (i := 16) rfl))) Via.refl e0 F_afterFirst_a (g := (mkF m 1 #[.val (.ref a)] [(.ref a)])) rfl rfl (hb hby d4_1)
  refine own_st st12 ?_
  show own_Go p e s below _ _ _ T12 (mkF m 4 #[.val (.ref a)] [(.int (own_b A))])
  by_cases c4_13 : A
  · refine own_st (fun _ k => XS.ifNo X12.here hx rfl (hb hby d4_4) rfl (own_by c4_13).2 k) ?_
    show own_Go p e s below _ _ _ T12 (mkF m 7 #[.val (.ref a)] [])
    refine own_st (fun _ k => XS.aloadN X12.here hx rfl (hb hby d4_7) rfl rfl k) ?_
    show own_Go p e s below _ _ _ T12 (mkF m 8 #[.val (.ref a)] [(.ref a)])
    obtain ⟨T14, X14, e14, st14⟩ := getF X12 hx hZ hown (host := "") (Or.inl (hw _ (List.mem_of_getElem? (i := 14) rfl))) Via.refl e12 F_first_a (g := (mkF m 8 #[.val (.ref a)] [(.ref a)])) rfl rfl (hb hby d4_8)
    refine own_st st14 ?_
    show own_Go p e s below _ _ _ T14 (mkF m 11 #[.val (.ref a)] [(.long q1)])
    refine own_st (fun _ k => XS.aloadN X14.here hx rfl (hb hby d4_11) rfl rfl k) ?_
    show own_Go p e s below _ _ _ T14 (mkF m 12 #[.val (.ref a)] [(.ref a), (.long q1)])
    obtain ⟨T15, X15, e15, st15⟩ := getF X14 hx hZ hown (host := "") (Or.inl (hw _ (List.mem_of_getElem? (i := 18) rfl))) Via.refl e14 F_last_a (g := (mkF m 12 #[.val (.ref a)] [(.ref a), (.long q1)])) rfl rfl (hb hby d4_12)
    refine own_st st15 ?_
    show own_Go p e s below _ _ _ T15 (mkF m 15 #[.val (.ref a)] [(.long q3), (.long q1)])
    refine own_st (fun _ k => XS.lcmp X15.here hx rfl (hb hby d4_15) rfl k) ?_
    show own_Go p e s below _ _ _ T15 (mkF m 16 #[.val (.ref a)] [(.int (lcmpW q1 q3))])
    by_cases c16_16 : q1 < q3
    · refine own_st (fun _ k => XS.ifYes X15.here hx rfl (pc0 := 16) (pc' := 23) rfl (hb hby d4_16) rfl ((if0 _ _).trans (tlt ((lw_lt _ _).mpr c16_16)).1) (by decide) (by decide) k) ?_
      show own_Go p e s below _ _ _ T15 (mkF m 23 #[.val (.ref a)] [])
      refine own_st (fun _ k => XS.iconst X15.here hx rfl (hb hby d4_23) k) ?_
      show own_Go p e s below _ _ _ T15 (mkF m 24 #[.val (.ref a)] [(.int (0 : Int32))])
      refine own_st (fun _ k => XS.goto X15.here hx rfl (pc0 := 24) (pc' := 44) rfl (hb hby d4_24) (by decide) (by decide) k) ?_
      show own_Go p e s below _ _ _ T15 (mkF m 44 #[.val (.ref a)] [(.int (0 : Int32))])
      exact own_retN X15 hx hlk (t := .boolean) hret (by simp) (hb hby d4_44) (z' := (0 : Int32)) rfl (by decide) (by decide) ⟨by rw [own_bf (by simp [own_E, c4_13, c16_16])], N0, e15⟩
    · refine own_st (fun _ k => XS.ifNo X15.here hx rfl (hb hby d4_16) rfl ((if0 _ _).trans (flt (fun q => c16_16 ((lw_lt _ _).mp q))).1) k) ?_
      show own_Go p e s below _ _ _ T15 (mkF m 19 #[.val (.ref a)] [])
      refine own_st (fun _ k => XS.iconst X15.here hx rfl (hb hby d4_19) k) ?_
      show own_Go p e s below _ _ _ T15 (mkF m 20 #[.val (.ref a)] [(.int (1 : Int32))])
      refine own_st (fun _ k => XS.goto X15.here hx rfl (pc0 := 20) (pc' := 44) rfl (hb hby d4_20) (by decide) (by decide) k) ?_
      show own_Go p e s below _ _ _ T15 (mkF m 44 #[.val (.ref a)] [(.int (1 : Int32))])
      exact own_retN X15 hx hlk (t := .boolean) hret (by simp) (hb hby d4_44) (z' := (1 : Int32)) rfl (by decide) (by decide) ⟨by rw [own_bt (by simp [own_E, c4_13, c16_16])], N0, e15⟩
  · refine own_st (fun _ k => XS.ifYes X12.here hx rfl (pc0 := 4) (pc' := 27) rfl (hb hby d4_4) rfl (own_bn c4_13).1 (by decide) (by decide) k) ?_
    show own_Go p e s below _ _ _ T12 (mkF m 27 #[.val (.ref a)] [])
    refine own_st (fun _ k => XS.aloadN X12.here hx rfl (hb hby d4_27) rfl rfl k) ?_
    show own_Go p e s below _ _ _ T12 (mkF m 28 #[.val (.ref a)] [(.ref a)])
    obtain ⟨T17, X17, e17, st17⟩ := getF X12 hx hZ hown (host := "") (Or.inl (hw _ (List.mem_of_getElem? (i := 14) rfl))) Via.refl e12 F_first_a (g := (mkF m 28 #[.val (.ref a)] [(.ref a)])) rfl rfl (hb hby d4_28)
    refine own_st st17 ?_
    show own_Go p e s below _ _ _ T17 (mkF m 31 #[.val (.ref a)] [(.long q1)])
    refine own_st (fun _ k => XS.aloadN X17.here hx rfl (hb hby d4_31) rfl rfl k) ?_
    show own_Go p e s below _ _ _ T17 (mkF m 32 #[.val (.ref a)] [(.ref a), (.long q1)])
    obtain ⟨T18, X18, e18, st18⟩ := getF X17 hx hZ hown (host := "") (Or.inl (hw _ (List.mem_of_getElem? (i := 18) rfl))) Via.refl e17 F_last_a (g := (mkF m 32 #[.val (.ref a)] [(.ref a), (.long q1)])) rfl rfl (hb hby d4_32)
    refine own_st st18 ?_
    show own_Go p e s below _ _ _ T18 (mkF m 35 #[.val (.ref a)] [(.long q3), (.long q1)])
    refine own_st (fun _ k => XS.lcmp X18.here hx rfl (hb hby d4_35) rfl k) ?_
    show own_Go p e s below _ _ _ T18 (mkF m 36 #[.val (.ref a)] [(.int (lcmpW q1 q3))])
    by_cases c36_19 : q3 < q1
    · refine own_st (fun _ k => XS.ifNo X18.here hx rfl (hb hby d4_36) rfl ((if0 _ _).trans (tlt ((lw_gt _ _).mpr c36_19)).2.2.2) k) ?_
      show own_Go p e s below _ _ _ T18 (mkF m 39 #[.val (.ref a)] [])
      refine own_st (fun _ k => XS.iconst X18.here hx rfl (hb hby d4_39) k) ?_
      show own_Go p e s below _ _ _ T18 (mkF m 40 #[.val (.ref a)] [(.int (1 : Int32))])
      refine own_st (fun _ k => XS.goto X18.here hx rfl (pc0 := 40) (pc' := 44) rfl (hb hby d4_40) (by decide) (by decide) k) ?_
      show own_Go p e s below _ _ _ T18 (mkF m 44 #[.val (.ref a)] [(.int (1 : Int32))])
      exact own_retN X18 hx hlk (t := .boolean) hret (by simp) (hb hby d4_44) (z' := (1 : Int32)) rfl (by decide) (by decide) ⟨by rw [own_bt (by simp [own_E, c4_13, c36_19])], N0, e18⟩
    · refine own_st (fun _ k => XS.ifYes X18.here hx rfl (pc0 := 36) (pc' := 43) rfl (hb hby d4_36) rfl ((if0 _ _).trans (flt (fun q => c36_19 ((lw_gt _ _).mp q))).2.2.2) (by decide) (by decide) k) ?_
      show own_Go p e s below _ _ _ T18 (mkF m 43 #[.val (.ref a)] [])
      refine own_st (fun _ k => XS.iconst X18.here hx rfl (hb hby d4_43) k) ?_
      show own_Go p e s below _ _ _ T18 (mkF m 44 #[.val (.ref a)] [(.int (0 : Int32))])
      exact own_retN X18 hx hlk (t := .boolean) hret (by simp) (hb hby d4_44) (z' := (0 : Int32)) rfl (by decide) (by decide) ⟨by rw [own_bf (by simp [own_E, c4_13, c36_19])], N0, e18⟩
theorem ef_rm5 (m : MethodId) (z0 : Int64) (z1 : Int32) (z2 : Int64) : entryFrame m #[(.long z0), (.int z1), (.long z2)] 5 = mkF m 0 #[.val (.long z0), .second, .val (.int z1), .val (.long z2), .second] [] := by first | (simp [entryFrame, mkF, argsToLocals, Value.category]; done) | rfl
set_option maxRecDepth 65536 in
set_option maxHeartbeats 40000000 in
theorem rm5 (l : Launch) (Z : State) (a0 : Array Value) (hw : ∀ d ∈ tables_1, d.before a0 Z = true) (ws : List Jvm.Cond) (q1 : Int64) (A : Prop) [Decidable A] (q3 : Int64) (h0 : Heap) (n0 : Nat) (Z0 : n0 ≤ h0.size)  :
    own_Met l Z (⟨"com/example/chronotope/chronotope/TimeConditionIsEmptyPinLaw", "hasInstant", "(JZJ)Z"⟩ : MethodName) method_2_code 5 (some .boolean) ({ frames := 0, cells := 0, slots := 0, locals := 0 } : Room) ws #[(.long q1), (.int (own_b A)), (.long q3)] h0 (fun v h L => v = some (.int (own_b (own_H q1 q3 A))) ∧ Fr n0 L ∧ h = h0) 0 0 := by
  refine own_enter pf5 (fun m => ef_rm5 m q1 (own_b A) q3) ?_
  intro p e s m below meth c T0 hx hby hml hown hnm hret hlk hZ X0 e0
  have N0 := Fr.nil n0
  show own_Go p e s below _ _ _ T0 (mkF m 0 #[.val (.long q1), .second, .val (.int (own_b A)), .val (.long q3), .second] [])
  refine own_st (fun _ k => XS.lloadN X0.here hx rfl (hb hby d5_0) rfl k) ?_
  show own_Go p e s below _ _ _ T0 (mkF m 1 #[.val (.long q1), .second, .val (.int (own_b A)), .val (.long q3), .second] [(.long q1)])
  refine own_st (fun _ k => XS.lloadN X0.here hx rfl (hb hby d5_1) rfl k) ?_
  show own_Go p e s below _ _ _ T0 (mkF m 2 #[.val (.long q1), .second, .val (.int (own_b A)), .val (.long q3), .second] [(.long q3), (.long q1)])
  refine own_st (fun _ k => XS.lcmp X0.here hx rfl (hb hby d5_2) rfl k) ?_
  show own_Go p e s below _ _ _ T0 (mkF m 3 #[.val (.long q1), .second, .val (.int (own_b A)), .val (.long q3), .second] [(.int (lcmpW q1 q3))])
  by_cases c3_20 : q1 < q3
  · refine own_st (fun _ k => XS.ifNo X0.here hx rfl (hb hby d5_3) rfl ((if0 _ _).trans (tlt ((lw_lt _ _).mpr c3_20)).2.1) k) ?_
    show own_Go p e s below _ _ _ T0 (mkF m 6 #[.val (.long q1), .second, .val (.int (own_b A)), .val (.long q3), .second] [])
    refine own_st (fun _ k => XS.iconst X0.here hx rfl (hb hby d5_6) k) ?_
    show own_Go p e s below _ _ _ T0 (mkF m 7 #[.val (.long q1), .second, .val (.int (own_b A)), .val (.long q3), .second] [(.int (1 : Int32))])
    exact own_retN X0 hx hlk (t := .boolean) hret (by simp) (hb hby d5_7) (z' := (1 : Int32)) rfl (by decide) (by decide) ⟨by rw [own_bt (by simp [own_H, c3_20])], N0, e0⟩
  · refine own_st (fun _ k => XS.ifYes X0.here hx rfl (pc0 := 3) (pc' := 8) rfl (hb hby d5_3) rfl ((if0 _ _).trans (flt (fun q => c3_20 ((lw_lt _ _).mp q))).2.1) (by decide) (by decide) k) ?_
    show own_Go p e s below _ _ _ T0 (mkF m 8 #[.val (.long q1), .second, .val (.int (own_b A)), .val (.long q3), .second] [])
    refine own_st (fun _ k => XS.lloadN X0.here hx rfl (hb hby d5_8) rfl k) ?_
    show own_Go p e s below _ _ _ T0 (mkF m 9 #[.val (.long q1), .second, .val (.int (own_b A)), .val (.long q3), .second] [(.long q1)])
    refine own_st (fun _ k => XS.lloadN X0.here hx rfl (hb hby d5_9) rfl k) ?_
    show own_Go p e s below _ _ _ T0 (mkF m 10 #[.val (.long q1), .second, .val (.int (own_b A)), .val (.long q3), .second] [(.long q3), (.long q1)])
    refine own_st (fun _ k => XS.lcmp X0.here hx rfl (hb hby d5_10) rfl k) ?_
    show own_Go p e s below _ _ _ T0 (mkF m 11 #[.val (.long q1), .second, .val (.int (own_b A)), .val (.long q3), .second] [(.int (lcmpW q1 q3))])
    by_cases c11_21 : q1 = q3
    · refine own_st (fun _ k => XS.ifNo X0.here hx rfl (hb hby d5_11) rfl ((if0 _ _).trans (teq ((lw_eq _ _).mpr c11_21)).2) k) ?_
      show own_Go p e s below _ _ _ T0 (mkF m 14 #[.val (.long q1), .second, .val (.int (own_b A)), .val (.long q3), .second] [])
      refine own_st (fun _ k => XS.iloadN X0.here hx rfl (hb hby d5_14) rfl k) ?_
      show own_Go p e s below _ _ _ T0 (mkF m 15 #[.val (.long q1), .second, .val (.int (own_b A)), .val (.long q3), .second] [(.int (own_b A))])
      by_cases c15_22 : A
      · refine own_st (fun _ k => XS.ifYes X0.here hx rfl (pc0 := 15) (pc' := 22) rfl (hb hby d5_15) rfl (own_by c15_22).1 (by decide) (by decide) k) ?_
        show own_Go p e s below _ _ _ T0 (mkF m 22 #[.val (.long q1), .second, .val (.int (own_b A)), .val (.long q3), .second] [])
        refine own_st (fun _ k => XS.iconst X0.here hx rfl (hb hby d5_22) k) ?_
        show own_Go p e s below _ _ _ T0 (mkF m 23 #[.val (.long q1), .second, .val (.int (own_b A)), .val (.long q3), .second] [(.int (0 : Int32))])
        exact own_retN X0 hx hlk (t := .boolean) hret (by simp) (hb hby d5_23) (z' := (0 : Int32)) rfl (by decide) (by decide) ⟨by rw [own_bf (by simp [own_H, c3_20, c11_21, c15_22])], N0, e0⟩
      · refine own_st (fun _ k => XS.ifNo X0.here hx rfl (hb hby d5_15) rfl (own_bn c15_22).2 k) ?_
        show own_Go p e s below _ _ _ T0 (mkF m 18 #[.val (.long q1), .second, .val (.int (own_b A)), .val (.long q3), .second] [])
        refine own_st (fun _ k => XS.iconst X0.here hx rfl (hb hby d5_18) k) ?_
        show own_Go p e s below _ _ _ T0 (mkF m 19 #[.val (.long q1), .second, .val (.int (own_b A)), .val (.long q3), .second] [(.int (1 : Int32))])
        refine own_st (fun _ k => XS.goto X0.here hx rfl (pc0 := 19) (pc' := 23) rfl (hb hby d5_19) (by decide) (by decide) k) ?_
        show own_Go p e s below _ _ _ T0 (mkF m 23 #[.val (.long q1), .second, .val (.int (own_b A)), .val (.long q3), .second] [(.int (1 : Int32))])
        exact own_retN X0 hx hlk (t := .boolean) hret (by simp) (hb hby d5_23) (z' := (1 : Int32)) rfl (by decide) (by decide) ⟨by rw [own_bt (by simp [own_H, c3_20, c11_21, c15_22])], N0, e0⟩
    · refine own_st (fun _ k => XS.ifYes X0.here hx rfl (pc0 := 11) (pc' := 24) rfl (hb hby d5_11) rfl ((if0 _ _).trans (feq (fun q => c11_21 ((lw_eq _ _).mp q))).2) (by decide) (by decide) k) ?_
      show own_Go p e s below _ _ _ T0 (mkF m 24 #[.val (.long q1), .second, .val (.int (own_b A)), .val (.long q3), .second] [])
      refine own_st (fun _ k => XS.iconst X0.here hx rfl (hb hby d5_24) k) ?_
      show own_Go p e s below _ _ _ T0 (mkF m 25 #[.val (.long q1), .second, .val (.int (own_b A)), .val (.long q3), .second] [(.int (0 : Int32))])
      exact own_retN X0 hx hlk (t := .boolean) hret (by simp) (hb hby d5_25) (z' := (0 : Int32)) rfl (by decide) (by decide) ⟨by rw [own_bf (by simp [own_H, c3_20, c11_21])], N0, e0⟩
theorem ef_rm6 (m : MethodId) (z0 : Int64) (z1 : Int64) : entryFrame m #[(.long z0), (.long z1)] 4 = mkF m 0 #[.val (.long z0), .second, .val (.long z1), .second] [] := by first | (simp [entryFrame, mkF, argsToLocals, Value.category]; done) | rfl
set_option maxRecDepth 65536 in
set_option maxHeartbeats 40000000 in
theorem rm6 (l : Launch) (Z : State) (a0 : Array Value) (hw : ∀ d ∈ tables_1, d.before a0 Z = true) (ws : List Jvm.Cond) (q0 q2 : Int64) (h0 : Heap) (n0 : Nat) (Z0 : n0 ≤ h0.size)  :
    own_Met l Z (⟨"java/lang/Math", "min", "(JJ)J"⟩ : MethodName) jdk_29_method_70_code 4 (some .long) ({ frames := 0, cells := 0, slots := 0, locals := 0 } : Room) ws #[(.long q0), (.long q2)] h0 (fun v h L => v = some (.long (own_min q0 q2)) ∧ Fr n0 L ∧ h = h0) 0 0 := by
  refine own_enter pf6 (fun m => ef_rm6 m q0 q2) ?_
  intro p e s m below meth c T0 hx hby hml hown hnm hret hlk hZ X0 e0
  have N0 := Fr.nil n0
  show own_Go p e s below _ _ _ T0 (mkF m 0 #[.val (.long q0), .second, .val (.long q2), .second] [])
  refine own_st (fun _ k => XS.lloadN X0.here hx rfl (hb hby d6_0) rfl k) ?_
  show own_Go p e s below _ _ _ T0 (mkF m 1 #[.val (.long q0), .second, .val (.long q2), .second] [(.long q0)])
  refine own_st (fun _ k => XS.lloadN X0.here hx rfl (hb hby d6_1) rfl k) ?_
  show own_Go p e s below _ _ _ T0 (mkF m 2 #[.val (.long q0), .second, .val (.long q2), .second] [(.long q2), (.long q0)])
  refine own_st (fun _ k => XS.lcmp X0.here hx rfl (hb hby d6_2) rfl k) ?_
  show own_Go p e s below _ _ _ T0 (mkF m 3 #[.val (.long q0), .second, .val (.long q2), .second] [(.int (lcmpW q0 q2))])
  by_cases c3_23 : q2 < q0
  · refine own_st (fun _ k => XS.ifYes X0.here hx rfl (pc0 := 3) (pc' := 10) rfl (hb hby d6_3) rfl ((if0 _ _).trans (tlt ((lw_gt _ _).mpr c3_23)).2.2.1) (by decide) (by decide) k) ?_
    show own_Go p e s below _ _ _ T0 (mkF m 10 #[.val (.long q0), .second, .val (.long q2), .second] [])
    refine own_st (fun _ k => XS.lloadN X0.here hx rfl (hb hby d6_10) rfl k) ?_
    show own_Go p e s below _ _ _ T0 (mkF m 11 #[.val (.long q0), .second, .val (.long q2), .second] [(.long q2)])
    exact own_retJ X0 hx hlk hret (hb hby d6_11) (by decide) (by decide) ⟨by simp [own_min, c3_23], N0, e0⟩
  · refine own_st (fun _ k => XS.ifNo X0.here hx rfl (hb hby d6_3) rfl ((if0 _ _).trans (flt (fun q => c3_23 ((lw_gt _ _).mp q))).2.2.1) k) ?_
    show own_Go p e s below _ _ _ T0 (mkF m 6 #[.val (.long q0), .second, .val (.long q2), .second] [])
    refine own_st (fun _ k => XS.lloadN X0.here hx rfl (hb hby d6_6) rfl k) ?_
    show own_Go p e s below _ _ _ T0 (mkF m 7 #[.val (.long q0), .second, .val (.long q2), .second] [(.long q0)])
    refine own_st (fun _ k => XS.goto X0.here hx rfl (pc0 := 7) (pc' := 11) rfl (hb hby d6_7) (by decide) (by decide) k) ?_
    show own_Go p e s below _ _ _ T0 (mkF m 11 #[.val (.long q0), .second, .val (.long q2), .second] [(.long q0)])
    exact own_retJ X0 hx hlk hret (hb hby d6_11) (by decide) (by decide) ⟨by simp [own_min, c3_23], N0, e0⟩
theorem ef_rm7 (m : MethodId) (z0 : Addr) (z1 : Int64) : entryFrame m #[(.ref z0), (.long z1)] 3 = mkF m 0 #[.val (.ref z0), .val (.long z1), .second] [] := by first | (simp [entryFrame, mkF, argsToLocals, Value.category]; done) | rfl
set_option maxRecDepth 65536 in
set_option maxHeartbeats 40000000 in
theorem rm7 (l : Launch) (Z : State) (a0 : Array Value) (hw : ∀ d ∈ tables_1, d.before a0 Z = true) (ws : List Jvm.Cond) (a : Addr) (q1 : Int64) (A : Prop) [Decidable A] (q3 r : Int64) (h0 : Heap) (n0 : Nat) (Z0 : n0 ≤ h0.size) (E_a : Exa Z h0 a "com/example/chronotope/chronotope/TimeCondition") (F_first_a : Fld Z h0 a "com/example/chronotope/chronotope/TimeCondition" "first" "J" (.long q1)) (F_afterFirst_a : Fld Z h0 a "com/example/chronotope/chronotope/TimeCondition" "afterFirst" "Z" (.int (own_b A))) (F_last_a : Fld Z h0 a "com/example/chronotope/chronotope/TimeCondition" "last" "J" (.long q3)) :
    own_Met l Z (⟨"com/example/chronotope/chronotope/TimeCondition", "upTo", "(J)Lcom/example/chronotope/chronotope/TimeCondition;"⟩ : MethodName) prog_65_method_6_code 3 (some (.object "com/example/chronotope/chronotope/TimeCondition")) ({ frames := 3, cells := 1, slots := 3, locals := 42 } : Room) ws #[(.ref a), (.long r)] h0 (fun v h L => ∃ b, v = some (.ref b) ∧ Fr n0 L ∧ Keep h0 h [] ∧ (Exa Z h b "com/example/chronotope/chronotope/TimeCondition") ∧ (Fld Z h b "com/example/chronotope/chronotope/TimeCondition" "first" "J" (.long q1)) ∧ (Fld Z h b "com/example/chronotope/chronotope/TimeCondition" "afterFirst" "Z" (.int (own_b A))) ∧ (Fld Z h b "com/example/chronotope/chronotope/TimeCondition" "last" "J" (.long (own_min q3 r)))) 1 3 := by
  refine own_enter pf7 (fun m => ef_rm7 m a r) ?_
  intro p e s m below meth c T0 hx hby hml hown hnm hret hlk hZ X0 e0
  have N0 := Fr.nil n0
  show own_Go p e s below _ _ _ T0 (mkF m 0 #[.val (.ref a), .val (.long r), .second] [])
  have K_0 := Keep.refl h0 []
  obtain ⟨T24, h24, X24, e24, E24, A24, D24, -, st24⟩ := newO X0 hx hZ hown (hw _ (List.mem_of_getElem? (i := 38) rfl)) (hw _ (List.mem_of_getElem? (i := 1) rfl)) (hw _ (List.mem_of_getElem? (i := 2) rfl)) e0 (g := (mkF m 0 #[.val (.ref a), .val (.long r), .second] [])) rfl (hb hby d7_0) (by decide) (by decide)
  obtain ⟨b, g24⟩ : ∃ z, z = h0.size := ⟨_, rfl⟩
  rw [← g24] at A24 D24 st24
  have g_b : n0 ≤ b := Nat.le_trans Z0 (Nat.le_of_eq g24.symm)
  have ne_a_b : a ≠ b := Nat.ne_of_lt (Nat.lt_of_lt_of_le E_a.lt (Nat.le_of_eq g24.symm))
  have ne_b_a := Ne.symm ne_a_b
  have sz_b := Nat.le_trans K_0.1 (Nat.le_of_eq g24.symm)
  replace E_a := E_a.ext E24
  replace F_first_a := F_first_a.ext E24
  replace F_afterFirst_a := F_afterFirst_a.ext E24
  replace F_last_a := F_last_a.ext E24
  have Z25 := Nat.le_trans Z0 E24.1
  have K26 := K_0.ext E24
  have E_b := A24
  have F_first_b : Fld Z h24 b "com/example/chronotope/chronotope/TimeCondition" "first" "J" (.long (0 : Int64)) := D24 (Or.inr (hw _ (List.mem_of_getElem? (i := 15) rfl))) (ty := .long) (by decide)
  have F_afterFirst_b : Fld Z h24 b "com/example/chronotope/chronotope/TimeCondition" "afterFirst" "Z" (.int (0 : Int32)) := D24 (Or.inr (hw _ (List.mem_of_getElem? (i := 17) rfl))) (ty := .boolean) (by decide)
  have F_last_b : Fld Z h24 b "com/example/chronotope/chronotope/TimeCondition" "last" "J" (.long (0 : Int64)) := D24 (Or.inr (hw _ (List.mem_of_getElem? (i := 19) rfl))) (ty := .long) (by decide)
  refine own_st st24 ?_
  show own_Go p e s below _ _ _ T24 (mkF m 3 #[.val (.ref a), .val (.long r), .second] [(.ref b)])
  refine own_st (fun _ k => XS.dup X24.here hx rfl (hb hby d7_3) rfl rfl k) ?_
  show own_Go p e s below _ _ _ T24 (mkF m 4 #[.val (.ref a), .val (.long r), .second] [(.ref b), (.ref b)])
  refine own_st (fun _ k => XS.aloadN X24.here hx rfl (hb hby d7_4) rfl rfl k) ?_
  show own_Go p e s below _ _ _ T24 (mkF m 5 #[.val (.ref a), .val (.long r), .second] [(.ref a), (.ref b), (.ref b)])
  obtain ⟨T27, X27, e27, st27⟩ := getF X24 hx hZ hown (host := "") (Or.inl (hw _ (List.mem_of_getElem? (i := 14) rfl))) Via.refl e24 F_first_a (g := (mkF m 5 #[.val (.ref a), .val (.long r), .second] [(.ref a), (.ref b), (.ref b)])) rfl rfl (hb hby d7_5)
  refine own_st st27 ?_
  show own_Go p e s below _ _ _ T27 (mkF m 8 #[.val (.ref a), .val (.long r), .second] [(.long q1), (.ref b), (.ref b)])
  refine own_st (fun _ k => XS.aloadN X27.here hx rfl (hb hby d7_8) rfl rfl k) ?_
  show own_Go p e s below _ _ _ T27 (mkF m 9 #[.val (.ref a), .val (.long r), .second] [(.ref a), (.long q1), (.ref b), (.ref b)])
  obtain ⟨T28, X28, e28, st28⟩ := getF X27 hx hZ hown (host := "") (Or.inl (hw _ (List.mem_of_getElem? (i := 16) rfl))) Via.refl e27 F_afterFirst_a (g := (mkF m 9 #[.val (.ref a), .val (.long r), .second] [(.ref a), (.long q1), (.ref b), (.ref b)])) rfl rfl (hb hby d7_9)
  refine own_st st28 ?_
  show own_Go p e s below _ _ _ T28 (mkF m 12 #[.val (.ref a), .val (.long r), .second] [(.int (own_b A)), (.long q1), (.ref b), (.ref b)])
  refine own_st (fun _ k => XS.aloadN X28.here hx rfl (hb hby d7_12) rfl rfl k) ?_
  show own_Go p e s below _ _ _ T28 (mkF m 13 #[.val (.ref a), .val (.long r), .second] [(.ref a), (.int (own_b A)), (.long q1), (.ref b), (.ref b)])
  obtain ⟨T29, X29, e29, st29⟩ := getF X28 hx hZ hown (host := "") (Or.inl (hw _ (List.mem_of_getElem? (i := 18) rfl))) Via.refl e28 F_last_a (g := (mkF m 13 #[.val (.ref a), .val (.long r), .second] [(.ref a), (.int (own_b A)), (.long q1), (.ref b), (.ref b)])) rfl rfl (hb hby d7_13)
  refine own_st st29 ?_
  show own_Go p e s below _ _ _ T29 (mkF m 16 #[.val (.ref a), .val (.long r), .second] [(.long q3), (.int (own_b A)), (.long q1), (.ref b), (.ref b)])
  refine own_st (fun _ k => XS.lloadN X29.here hx rfl (hb hby d7_16) rfl k) ?_
  show own_Go p e s below _ _ _ T29 (mkF m 17 #[.val (.ref a), .val (.long r), .second] [(.long r), (.long q3), (.int (own_b A)), (.long q1), (.ref b), (.ref b)])
  refine own_callS X29 hx hZ (y := (⟨"java/lang/Math", "min", "(JJ)J"⟩ : MethodName)) hown (hw _ (List.mem_of_getElem? (i := 39) rfl)) (hw _ (List.mem_of_getElem? (i := 30) rfl)) (hw _ (List.mem_of_getElem? (i := 31) rfl)) (hw _ (List.mem_of_getElem? (i := 32) rfl)) (by decide) e29 (rm6 l Z a0 hw [] q3 r h24 n0 Z25) 5 (by decide) (by decide) (g := (mkF m 17 #[.val (.ref a), .val (.long r), .second] [(.long r), (.long q3), (.int (own_b A)), (.long q1), (.ref b), (.ref b)])) rfl (by rw [hml]; rfl) (argsL := [(.long q3), (.long r)]) (rest := [(.int (own_b A)), (.long q1), (.ref b), (.ref b)]) pd4 rfl rfl rfl (by show 2 * 0 + _ ≤ _; exact Nat.le_of_eq rfl) (hb hby d7_17) (by decide) (by decide) ?_
  intro T30 v30 L30 X30 hQ30
  obtain ⟨rfl, N30q, e30⟩ := hQ30
  have N30 := Fr.app N0 N30q
  show own_Go p e s below _ _ _ T30 (mkF m 20 #[.val (.ref a), .val (.long r), .second] [(.long (own_min q3 r)), (.int (own_b A)), (.long q1), (.ref b), (.ref b)])
  refine own_callN X30 hx hZ (y := (⟨"com/example/chronotope/chronotope/TimeCondition", "<init>", "(JZJ)V"⟩ : MethodName)) rfl hown (hw _ (List.mem_of_getElem? (i := 40) rfl)) (hw _ (List.mem_of_getElem? (i := 4) rfl)) (hw _ (List.mem_of_getElem? (i := 2) rfl)) (hw _ (List.mem_of_getElem? (i := 5) rfl)) (by decide) e30 (rm1 l Z a0 hw [] b q1 A (own_min q3 r) h24 n0 Z25 E_b F_first_b F_afterFirst_b F_last_b g_b) 1 (by decide) (by decide) (g := (mkF m 20 #[.val (.ref a), .val (.long r), .second] [(.long (own_min q3 r)), (.int (own_b A)), (.long q1), (.ref b), (.ref b)])) rfl (by rw [hml]; rfl) (a := b) (argsL := [(.long q1), (.int (own_b A)), (.long (own_min q3 r))]) (rest := [(.ref b)]) pd1 rfl rfl rfl (by show 2 * 0 + _ ≤ _; exact Nat.le_of_eq rfl) (hb hby d7_20) (by decide) (by decide) ?_
  intro T31 v31 L31 X31 hQ31
  obtain ⟨rfl, N31q, K31q, y31_0, y31_1, y31_2, y31_3⟩ := hQ31
  have N31 := Fr.app N30 N31q
  replace E_a := E_a.keep K31q
  replace F_first_a := F_first_a.keep K31q (ninS ne_a_b nin0)
  replace F_afterFirst_a := F_afterFirst_a.keep K31q (ninS ne_a_b nin0)
  replace F_last_a := F_last_a.keep K31q (ninS ne_a_b nin0)
  replace E_b := E_b.keep K31q
  clear F_first_b
  clear F_afterFirst_b
  clear F_last_b
  have Z32 := Nat.le_trans Z25 K31q.1
  have K33 := K26.trans K31q (allS (Or.inr sz_b) all0)
  have E_b := y31_0
  have F_first_b := y31_1
  have F_afterFirst_b := y31_2
  have F_last_b := y31_3
  show own_Go p e s below _ _ _ T31 (mkF m 23 #[.val (.ref a), .val (.long r), .second] [(.ref b)])
  exact own_retR X31 hx hlk hret rfl rfl rfl (hb hby d7_23) (by decide) (by decide) ⟨b, rfl, N31, K33, E_b, F_first_b, F_afterFirst_b, F_last_b⟩
theorem own_so {x0 x1 x2 x3 x4 x5 x6 x7 x8 x9 x12 x13 x14 s10 s11 : Slot} {b : Addr} (h : (s10 = .unset ∧ s11 = .unset) ∨ ∃ z : Int64, s10 = .val (.long z) ∧ s11 = .second) : storeLocals #[x0, x1, x2, x3, x4, x5, x6, x7, x8, x9, s10, s11, x12, x13, x14] 10 (.ref b) = some #[x0, x1, x2, x3, x4, x5, x6, x7, x8, x9, .val (.ref b), .unset, x12, x13, x14] := by
  rcases h with ⟨rfl, rfl⟩ | ⟨z, rfl, rfl⟩ <;> rfl
theorem ef_rm0 (m : MethodId) (z0 : Int64) (z1 : Int32) (z2 : Int64) (z3 : Int64) : entryFrame m #[(.long z0), (.int z1), (.long z2), (.long z3)] maxLocals = mkF m 0 #[.val (.long z0), .second, .val (.int z1), .val (.long z2), .second, .val (.long z3), .second, .unset, .unset, .unset, .unset, .unset, .unset, .unset, .unset] [] := by first | (simp [entryFrame, mkF, argsToLocals, Value.category, maxLocals]; done) | rfl
set_option maxRecDepth 65536 in
set_option maxHeartbeats 40000000 in
theorem rm0 (l : Launch) (Z : State) (a0 : Array Value) (hw : ∀ d ∈ tables_1, d.before a0 Z = true) (ws : List Jvm.Cond) (q0 : Int64) (p2 : Int32) (q3 q5 : Int64) (h0 : Heap) (n0 : Nat) (Z0 : n0 ≤ h0.size)  :
    own_Met l Z x code maxLocals ret room_1 ws #[(.long q0), (.int p2), (.long q3), (.long q5)] h0 (fun v h L => v = some (.int 1) ∧ Fr n0 L) 16 128 := by
  refine own_enter pf0 (fun m => ef_rm0 m q0 p2 q3 q5) ?_
  intro p e s m below meth c T0 hx hby hml hown hnm hret hlk hZ X0 e0
  have N0 := Fr.nil n0
  show own_Go p e s below _ _ _ T0 (mkF m 0 #[.val (.long q0), .second, .val (.int p2), .val (.long q3), .second, .val (.long q5), .second, .unset, .unset, .unset, .unset, .unset, .unset, .unset, .unset] [])
  have J11 : ∀ (A : Prop) [Decidable A] (bz : Int32) (_ : bz = own_b A), own_Go p e s below (fun (v : Option Value) (h : Heap) (L : List Loc) => v = some (.int 1) ∧ Fr n0 L) 16 128 T0 (mkF m 11 #[.val (.long q0), .second, .val (.int p2), .val (.long q3), .second, .val (.long q5), .second, .unset, .unset, .unset, .unset, .unset, .unset, .unset, .unset] [(.int bz)]) := by
    intro A _; rintro _ rfl
    show own_Go p e s below _ _ _ T0 (mkF m 11 #[.val (.long q0), .second, .val (.int p2), .val (.long q3), .second, .val (.long q5), .second, .unset, .unset, .unset, .unset, .unset, .unset, .unset, .unset] [(.int (own_b A))])
    have J38 : ∀ (l2 : Int64) (s10 s11 : Slot) (hs : (s10 = .unset ∧ s11 = .unset) ∨ ∃ z : Int64, s10 = .val (.long z) ∧ s11 = .second), own_Go p e s below (fun (v : Option Value) (h : Heap) (L : List Loc) => v = some (.int 1) ∧ Fr n0 L) 16 128 T0 (mkF m 38 #[.val (.long q0), .second, .val (.int p2), .val (.long q3), .second, .val (.long q5), .second, .val (.int (own_b A)), .val (.long l2), .second, s10, s11, .unset, .unset, .unset] []) := by
      intro l2 s10 s11 hs
      show own_Go p e s below _ _ _ T0 (mkF m 38 #[.val (.long q0), .second, .val (.int p2), .val (.long q3), .second, .val (.long q5), .second, .val (.int (own_b A)), .val (.long l2), .second, s10, s11, .unset, .unset, .unset] [])
      obtain ⟨T34, h34, X34, e34, E34, A34, D34, -, st34⟩ := newO X0 hx hZ hown (hw _ (List.mem_of_getElem? (i := 0) rfl)) (hw _ (List.mem_of_getElem? (i := 1) rfl)) (hw _ (List.mem_of_getElem? (i := 2) rfl)) e0 (g := (mkF m 38 #[.val (.long q0), .second, .val (.int p2), .val (.long q3), .second, .val (.long q5), .second, .val (.int (own_b A)), .val (.long l2), .second, s10, s11, .unset, .unset, .unset] [])) rfl (hb hby at_38) (by decide) (by decide)
      obtain ⟨b, g34⟩ : ∃ z, z = h0.size := ⟨_, rfl⟩
      rw [← g34] at A34 D34 st34
      have g_b : n0 ≤ b := Nat.le_trans Z0 (Nat.le_of_eq g34.symm)
      have Z35 := Nat.le_trans Z0 E34.1
      have E_b := A34
      have F_first_b : Fld Z h34 b "com/example/chronotope/chronotope/TimeCondition" "first" "J" (.long (0 : Int64)) := D34 (Or.inr (hw _ (List.mem_of_getElem? (i := 15) rfl))) (ty := .long) (by decide)
      have F_afterFirst_b : Fld Z h34 b "com/example/chronotope/chronotope/TimeCondition" "afterFirst" "Z" (.int (0 : Int32)) := D34 (Or.inr (hw _ (List.mem_of_getElem? (i := 17) rfl))) (ty := .boolean) (by decide)
      have F_last_b : Fld Z h34 b "com/example/chronotope/chronotope/TimeCondition" "last" "J" (.long (0 : Int64)) := D34 (Or.inr (hw _ (List.mem_of_getElem? (i := 19) rfl))) (ty := .long) (by decide)
      refine own_st st34 ?_
      show own_Go p e s below _ _ _ T34 (mkF m 41 #[.val (.long q0), .second, .val (.int p2), .val (.long q3), .second, .val (.long q5), .second, .val (.int (own_b A)), .val (.long l2), .second, s10, s11, .unset, .unset, .unset] [(.ref b)])
      refine own_st (fun _ k => XS.dup X34.here hx rfl (hb hby at_41) rfl rfl k) ?_
      show own_Go p e s below _ _ _ T34 (mkF m 42 #[.val (.long q0), .second, .val (.int p2), .val (.long q3), .second, .val (.long q5), .second, .val (.int (own_b A)), .val (.long l2), .second, s10, s11, .unset, .unset, .unset] [(.ref b), (.ref b)])
      refine own_st (fun _ k => XS.lloadN X34.here hx rfl (hb hby at_42) rfl k) ?_
      show own_Go p e s below _ _ _ T34 (mkF m 43 #[.val (.long q0), .second, .val (.int p2), .val (.long q3), .second, .val (.long q5), .second, .val (.int (own_b A)), .val (.long l2), .second, s10, s11, .unset, .unset, .unset] [(.long q0), (.ref b), (.ref b)])
      refine own_st (fun _ k => XS.iload X34.here hx rfl (hb hby at_43) rfl k) ?_
      show own_Go p e s below _ _ _ T34 (mkF m 45 #[.val (.long q0), .second, .val (.int p2), .val (.long q3), .second, .val (.long q5), .second, .val (.int (own_b A)), .val (.long l2), .second, s10, s11, .unset, .unset, .unset] [(.int (own_b A)), (.long q0), (.ref b), (.ref b)])
      refine own_st (fun _ k => XS.lload X34.here hx rfl (hb hby at_45) rfl k) ?_
      show own_Go p e s below _ _ _ T34 (mkF m 47 #[.val (.long q0), .second, .val (.int p2), .val (.long q3), .second, .val (.long q5), .second, .val (.int (own_b A)), .val (.long l2), .second, s10, s11, .unset, .unset, .unset] [(.long l2), (.int (own_b A)), (.long q0), (.ref b), (.ref b)])
      refine own_callN X34 hx hZ (y := (⟨"com/example/chronotope/chronotope/TimeCondition", "<init>", "(JZJ)V"⟩ : MethodName)) rfl hown (hw _ (List.mem_of_getElem? (i := 3) rfl)) (hw _ (List.mem_of_getElem? (i := 4) rfl)) (hw _ (List.mem_of_getElem? (i := 2) rfl)) (hw _ (List.mem_of_getElem? (i := 5) rfl)) (by decide) e34 (rm1 l Z a0 hw [] b q0 A l2 h34 n0 Z35 E_b F_first_b F_afterFirst_b F_last_b g_b) 1 (by decide) (by decide) (g := (mkF m 47 #[.val (.long q0), .second, .val (.int p2), .val (.long q3), .second, .val (.long q5), .second, .val (.int (own_b A)), .val (.long l2), .second, s10, s11, .unset, .unset, .unset] [(.long l2), (.int (own_b A)), (.long q0), (.ref b), (.ref b)])) rfl (by rw [hml]; rfl) (a := b) (argsL := [(.long q0), (.int (own_b A)), (.long l2)]) (rest := [(.ref b)]) pd1 rfl rfl rfl (by show 2 * 0 + _ ≤ _; exact Nat.le_of_eq rfl) (hb hby at_47) (by decide) (by decide) ?_
      intro T36 v36 L36 X36 hQ36
      obtain ⟨rfl, N36q, K36q, y36_0, y36_1, y36_2, y36_3⟩ := hQ36
      have N36 := Fr.app N0 N36q
      replace E_b := E_b.keep K36q
      clear F_first_b
      clear F_afterFirst_b
      clear F_last_b
      have Z37 := Nat.le_trans Z35 K36q.1
      have E_b := y36_0
      have F_first_b := y36_1
      have F_afterFirst_b := y36_2
      have F_last_b := y36_3
      show own_Go p e s below _ _ _ T36 (mkF m 50 #[.val (.long q0), .second, .val (.int p2), .val (.long q3), .second, .val (.long q5), .second, .val (.int (own_b A)), .val (.long l2), .second, s10, s11, .unset, .unset, .unset] [(.ref b)])
      refine own_st (fun _ k => XS.astore X36.here hx rfl (hb hby at_50) rfl rfl (l' := #[.val (.long q0), .second, .val (.int p2), .val (.long q3), .second, .val (.long q5), .second, .val (.int (own_b A)), .val (.long l2), .second, .val (.ref b), .unset, .unset, .unset, .unset]) (own_so hs) k) ?_
      show own_Go p e s below _ _ _ T36 (mkF m 52 #[.val (.long q0), .second, .val (.int p2), .val (.long q3), .second, .val (.long q5), .second, .val (.int (own_b A)), .val (.long l2), .second, .val (.ref b), .unset, .unset, .unset, .unset] [])
      refine own_st (fun _ k => XS.aload X36.here hx rfl (hb hby at_52) rfl rfl k) ?_
      show own_Go p e s below _ _ _ T36 (mkF m 54 #[.val (.long q0), .second, .val (.int p2), .val (.long q3), .second, .val (.long q5), .second, .val (.int (own_b A)), .val (.long l2), .second, .val (.ref b), .unset, .unset, .unset, .unset] [(.ref b)])
      refine own_callV X36 hx hZ (y := (⟨"com/example/chronotope/chronotope/TimeCondition", "isEmpty", "()Z"⟩ : MethodName)) hown (hw _ (List.mem_of_getElem? (i := 20) rfl)) (hw _ (List.mem_of_getElem? (i := 21) rfl)) (hw _ (List.mem_of_getElem? (i := 23) rfl)) (hw _ (List.mem_of_getElem? (i := 22) rfl)) (hw _ (List.mem_of_getElem? (i := 2) rfl)) (hw _ (List.mem_of_getElem? (i := 24) rfl)) (by decide) rfl (rm4 l Z a0 hw [] b q0 A l2 T36.heap n0 Z37 E_b F_first_b F_afterFirst_b F_last_b) 0 (by decide) (by decide) E_b (g := (mkF m 54 #[.val (.long q0), .second, .val (.int p2), .val (.long q3), .second, .val (.long q5), .second, .val (.int (own_b A)), .val (.long l2), .second, .val (.ref b), .unset, .unset, .unset, .unset] [(.ref b)])) rfl (by rw [hml]; rfl) (argsL := []) (rest := []) pd2 rfl rfl rfl (by show 2 * 0 + _ ≤ _; exact Nat.le_of_eq rfl) (hb hby at_54) (by decide) (by decide) ?_
      intro T38 v38 L38 X38 hQ38
      obtain ⟨rfl, N38q, e38⟩ := hQ38
      have N38 := Fr.app N36 N38q
      show own_Go p e s below _ _ _ T38 (mkF m 57 #[.val (.long q0), .second, .val (.int p2), .val (.long q3), .second, .val (.long q5), .second, .val (.int (own_b A)), .val (.long l2), .second, .val (.ref b), .unset, .unset, .unset, .unset] [(.int (own_b (own_E q0 l2 A)))])
      refine own_st (fun _ k => XS.lloadN X38.here hx rfl (hb hby at_57) rfl k) ?_
      show own_Go p e s below _ _ _ T38 (mkF m 58 #[.val (.long q0), .second, .val (.int p2), .val (.long q3), .second, .val (.long q5), .second, .val (.int (own_b A)), .val (.long l2), .second, .val (.ref b), .unset, .unset, .unset, .unset] [(.long q0), (.int (own_b (own_E q0 l2 A)))])
      refine own_st (fun _ k => XS.iload X38.here hx rfl (hb hby at_58) rfl k) ?_
      show own_Go p e s below _ _ _ T38 (mkF m 60 #[.val (.long q0), .second, .val (.int p2), .val (.long q3), .second, .val (.long q5), .second, .val (.int (own_b A)), .val (.long l2), .second, .val (.ref b), .unset, .unset, .unset, .unset] [(.int (own_b A)), (.long q0), (.int (own_b (own_E q0 l2 A)))])
      refine own_st (fun _ k => XS.lload X38.here hx rfl (hb hby at_60) rfl k) ?_
      show own_Go p e s below _ _ _ T38 (mkF m 62 #[.val (.long q0), .second, .val (.int p2), .val (.long q3), .second, .val (.long q5), .second, .val (.int (own_b A)), .val (.long l2), .second, .val (.ref b), .unset, .unset, .unset, .unset] [(.long l2), (.int (own_b A)), (.long q0), (.int (own_b (own_E q0 l2 A)))])
      refine own_callS X38 hx hZ (y := (⟨"com/example/chronotope/chronotope/TimeConditionIsEmptyPinLaw", "hasInstant", "(JZJ)Z"⟩ : MethodName)) hown (hw _ (List.mem_of_getElem? (i := 25) rfl)) (hw _ (List.mem_of_getElem? (i := 26) rfl)) (hw _ (List.mem_of_getElem? (i := 27) rfl)) (hw _ (List.mem_of_getElem? (i := 28) rfl)) (by decide) e38 (rm5 l Z a0 hw [] q0 A l2 T36.heap n0 Z37) 1 (by decide) (by decide) (g := (mkF m 62 #[.val (.long q0), .second, .val (.int p2), .val (.long q3), .second, .val (.long q5), .second, .val (.int (own_b A)), .val (.long l2), .second, .val (.ref b), .unset, .unset, .unset, .unset] [(.long l2), (.int (own_b A)), (.long q0), (.int (own_b (own_E q0 l2 A)))])) rfl (by rw [hml]; rfl) (argsL := [(.long q0), (.int (own_b A)), (.long l2)]) (rest := [(.int (own_b (own_E q0 l2 A)))]) pd3 rfl rfl rfl (by show 2 * 0 + _ ≤ _; exact Nat.le_of_eq rfl) (hb hby at_62) (by decide) (by decide) ?_
      intro T39 v39 L39 X39 hQ39
      obtain ⟨rfl, N39q, e39⟩ := hQ39
      have N39 := Fr.app N38 N39q
      show own_Go p e s below _ _ _ T39 (mkF m 65 #[.val (.long q0), .second, .val (.int p2), .val (.long q3), .second, .val (.long q5), .second, .val (.int (own_b A)), .val (.long l2), .second, .val (.ref b), .unset, .unset, .unset, .unset] [(.int (own_b (own_H q0 l2 A))), (.int (own_b (own_E q0 l2 A)))])
      have J76 : own_Go p e s below (fun (v : Option Value) (h : Heap) (L : List Loc) => v = some (.int 1) ∧ Fr n0 L) 16 128 T39 (mkF m 76 #[.val (.long q0), .second, .val (.int p2), .val (.long q3), .second, .val (.long q5), .second, .val (.int (own_b A)), .val (.long l2), .second, .val (.ref b), .unset, .unset, .unset, .unset] []) := by
        show own_Go p e s below _ _ _ T39 (mkF m 76 #[.val (.long q0), .second, .val (.int p2), .val (.long q3), .second, .val (.long q5), .second, .val (.int (own_b A)), .val (.long l2), .second, .val (.ref b), .unset, .unset, .unset, .unset] [])
        refine own_st (fun _ k => XS.iconst X39.here hx rfl (hb hby at_76) k) ?_
        show own_Go p e s below _ _ _ T39 (mkF m 77 #[.val (.long q0), .second, .val (.int p2), .val (.long q3), .second, .val (.long q5), .second, .val (.int (own_b A)), .val (.long l2), .second, .val (.ref b), .unset, .unset, .unset, .unset] [(.int (1 : Int32))])
        refine own_st (fun _ k => XS.goto X39.here hx rfl (pc0 := 77) (pc' := 81) rfl (hb hby at_77) (by decide) (by decide) k) ?_
        show own_Go p e s below _ _ _ T39 (mkF m 81 #[.val (.long q0), .second, .val (.int p2), .val (.long q3), .second, .val (.long q5), .second, .val (.int (own_b A)), .val (.long l2), .second, .val (.ref b), .unset, .unset, .unset, .unset] [(.int (1 : Int32))])
        refine own_st (fun _ k => XS.istore X39.here hx rfl (hb hby at_81) rfl (l' := #[.val (.long q0), .second, .val (.int p2), .val (.long q3), .second, .val (.long q5), .second, .val (.int (own_b A)), .val (.long l2), .second, .val (.ref b), .val (.int (1 : Int32)), .unset, .unset, .unset]) rfl k) ?_
        show own_Go p e s below _ _ _ T39 (mkF m 83 #[.val (.long q0), .second, .val (.int p2), .val (.long q3), .second, .val (.long q5), .second, .val (.int (own_b A)), .val (.long l2), .second, .val (.ref b), .val (.int (1 : Int32)), .unset, .unset, .unset] [])
        refine own_st (fun _ k => XS.lload X39.here hx rfl (hb hby at_83) rfl k) ?_
        show own_Go p e s below _ _ _ T39 (mkF m 85 #[.val (.long q0), .second, .val (.int p2), .val (.long q3), .second, .val (.long q5), .second, .val (.int (own_b A)), .val (.long l2), .second, .val (.ref b), .val (.int (1 : Int32)), .unset, .unset, .unset] [(.long l2)])
        refine own_st (fun _ k => XS.lload X39.here hx rfl (hb hby at_85) rfl k) ?_
        show own_Go p e s below _ _ _ T39 (mkF m 87 #[.val (.long q0), .second, .val (.int p2), .val (.long q3), .second, .val (.long q5), .second, .val (.int (own_b A)), .val (.long l2), .second, .val (.ref b), .val (.int (1 : Int32)), .unset, .unset, .unset] [(.long q5), (.long l2)])
        refine own_callS X39 hx hZ (y := (⟨"java/lang/Math", "min", "(JJ)J"⟩ : MethodName)) hown (hw _ (List.mem_of_getElem? (i := 29) rfl)) (hw _ (List.mem_of_getElem? (i := 30) rfl)) (hw _ (List.mem_of_getElem? (i := 31) rfl)) (hw _ (List.mem_of_getElem? (i := 32) rfl)) (by decide) e39 (rm6 l Z a0 hw [] l2 q5 T36.heap n0 Z37) 0 (by decide) (by decide) (g := (mkF m 87 #[.val (.long q0), .second, .val (.int p2), .val (.long q3), .second, .val (.long q5), .second, .val (.int (own_b A)), .val (.long l2), .second, .val (.ref b), .val (.int (1 : Int32)), .unset, .unset, .unset] [(.long q5), (.long l2)])) rfl (by rw [hml]; rfl) (argsL := [(.long l2), (.long q5)]) (rest := []) pd4 rfl rfl rfl (by show 2 * 0 + _ ≤ _; exact Nat.le_of_eq rfl) (hb hby at_87) (by decide) (by decide) ?_
        intro T40 v40 L40 X40 hQ40
        obtain ⟨rfl, N40q, e40⟩ := hQ40
        have N40 := Fr.app N39 N40q
        show own_Go p e s below _ _ _ T40 (mkF m 90 #[.val (.long q0), .second, .val (.int p2), .val (.long q3), .second, .val (.long q5), .second, .val (.int (own_b A)), .val (.long l2), .second, .val (.ref b), .val (.int (1 : Int32)), .unset, .unset, .unset] [(.long (own_min l2 q5))])
        refine own_st (fun _ k => XS.lstore X40.here hx rfl (hb hby at_90) rfl (l' := #[.val (.long q0), .second, .val (.int p2), .val (.long q3), .second, .val (.long q5), .second, .val (.int (own_b A)), .val (.long l2), .second, .val (.ref b), .val (.int (1 : Int32)), .val (.long (own_min l2 q5)), .second, .unset]) rfl k) ?_
        show own_Go p e s below _ _ _ T40 (mkF m 92 #[.val (.long q0), .second, .val (.int p2), .val (.long q3), .second, .val (.long q5), .second, .val (.int (own_b A)), .val (.long l2), .second, .val (.ref b), .val (.int (1 : Int32)), .val (.long (own_min l2 q5)), .second, .unset] [])
        refine own_st (fun _ k => XS.aload X40.here hx rfl (hb hby at_92) rfl rfl k) ?_
        show own_Go p e s below _ _ _ T40 (mkF m 94 #[.val (.long q0), .second, .val (.int p2), .val (.long q3), .second, .val (.long q5), .second, .val (.int (own_b A)), .val (.long l2), .second, .val (.ref b), .val (.int (1 : Int32)), .val (.long (own_min l2 q5)), .second, .unset] [(.ref b)])
        refine own_st (fun _ k => XS.lload X40.here hx rfl (hb hby at_94) rfl k) ?_
        show own_Go p e s below _ _ _ T40 (mkF m 96 #[.val (.long q0), .second, .val (.int p2), .val (.long q3), .second, .val (.long q5), .second, .val (.int (own_b A)), .val (.long l2), .second, .val (.ref b), .val (.int (1 : Int32)), .val (.long (own_min l2 q5)), .second, .unset] [(.long q5), (.ref b)])
        refine own_callV X40 hx hZ (y := (⟨"com/example/chronotope/chronotope/TimeCondition", "upTo", "(J)Lcom/example/chronotope/chronotope/TimeCondition;"⟩ : MethodName)) hown (hw _ (List.mem_of_getElem? (i := 33) rfl)) (hw _ (List.mem_of_getElem? (i := 34) rfl)) (hw _ (List.mem_of_getElem? (i := 36) rfl)) (hw _ (List.mem_of_getElem? (i := 35) rfl)) (hw _ (List.mem_of_getElem? (i := 2) rfl)) (hw _ (List.mem_of_getElem? (i := 37) rfl)) (by decide) e40 (rm7 l Z a0 hw [] b q0 A l2 q5 T36.heap n0 Z37 E_b F_first_b F_afterFirst_b F_last_b) 0 (by decide) (by decide) E_b (g := (mkF m 96 #[.val (.long q0), .second, .val (.int p2), .val (.long q3), .second, .val (.long q5), .second, .val (.int (own_b A)), .val (.long l2), .second, .val (.ref b), .val (.int (1 : Int32)), .val (.long (own_min l2 q5)), .second, .unset] [(.long q5), (.ref b)])) rfl (by rw [hml]; rfl) (argsL := [(.long q5)]) (rest := []) pd5 rfl rfl rfl (by show 2 * 0 + _ ≤ _; exact Nat.le_of_eq rfl) (hb hby at_96) (by decide) (by decide) ?_
        intro T41 v41 L41 X41 hQ41
        obtain ⟨d, rfl, N41q, K41q, y41_0, y41_1, y41_2, y41_3⟩ := hQ41
        have N41 := Fr.app N40 N41q
        replace E_b := E_b.keep K41q
        replace F_first_b := F_first_b.keep K41q nin0
        replace F_afterFirst_b := F_afterFirst_b.keep K41q nin0
        replace F_last_b := F_last_b.keep K41q nin0
        have Z42 := Nat.le_trans Z37 K41q.1
        have E_d := y41_0
        have F_first_d := y41_1
        have F_afterFirst_d := y41_2
        have F_last_d := y41_3
        show own_Go p e s below _ _ _ T41 (mkF m 99 #[.val (.long q0), .second, .val (.int p2), .val (.long q3), .second, .val (.long q5), .second, .val (.int (own_b A)), .val (.long l2), .second, .val (.ref b), .val (.int (1 : Int32)), .val (.long (own_min l2 q5)), .second, .unset] [(.ref d)])
        refine own_callV X41 hx hZ (y := (⟨"com/example/chronotope/chronotope/TimeCondition", "isEmpty", "()Z"⟩ : MethodName)) hown (hw _ (List.mem_of_getElem? (i := 20) rfl)) (hw _ (List.mem_of_getElem? (i := 21) rfl)) (hw _ (List.mem_of_getElem? (i := 23) rfl)) (hw _ (List.mem_of_getElem? (i := 22) rfl)) (hw _ (List.mem_of_getElem? (i := 2) rfl)) (hw _ (List.mem_of_getElem? (i := 24) rfl)) (by decide) rfl (rm4 l Z a0 hw [] d q0 A (own_min l2 q5) T41.heap n0 Z42 E_d F_first_d F_afterFirst_d F_last_d) 0 (by decide) (by decide) E_d (g := (mkF m 99 #[.val (.long q0), .second, .val (.int p2), .val (.long q3), .second, .val (.long q5), .second, .val (.int (own_b A)), .val (.long l2), .second, .val (.ref b), .val (.int (1 : Int32)), .val (.long (own_min l2 q5)), .second, .unset] [(.ref d)])) rfl (by rw [hml]; rfl) (argsL := []) (rest := []) pd2 rfl rfl rfl (by show 2 * 0 + _ ≤ _; exact Nat.le_of_eq rfl) (hb hby at_99) (by decide) (by decide) ?_
        intro T43 v43 L43 X43 hQ43
        obtain ⟨rfl, N43q, e43⟩ := hQ43
        have N43 := Fr.app N41 N43q
        show own_Go p e s below _ _ _ T43 (mkF m 102 #[.val (.long q0), .second, .val (.int p2), .val (.long q3), .second, .val (.long q5), .second, .val (.int (own_b A)), .val (.long l2), .second, .val (.ref b), .val (.int (1 : Int32)), .val (.long (own_min l2 q5)), .second, .unset] [(.int (own_b (own_E q0 (own_min l2 q5) A)))])
        refine own_st (fun _ k => XS.lloadN X43.here hx rfl (hb hby at_102) rfl k) ?_
        show own_Go p e s below _ _ _ T43 (mkF m 103 #[.val (.long q0), .second, .val (.int p2), .val (.long q3), .second, .val (.long q5), .second, .val (.int (own_b A)), .val (.long l2), .second, .val (.ref b), .val (.int (1 : Int32)), .val (.long (own_min l2 q5)), .second, .unset] [(.long q0), (.int (own_b (own_E q0 (own_min l2 q5) A)))])
        refine own_st (fun _ k => XS.iload X43.here hx rfl (hb hby at_103) rfl k) ?_
        show own_Go p e s below _ _ _ T43 (mkF m 105 #[.val (.long q0), .second, .val (.int p2), .val (.long q3), .second, .val (.long q5), .second, .val (.int (own_b A)), .val (.long l2), .second, .val (.ref b), .val (.int (1 : Int32)), .val (.long (own_min l2 q5)), .second, .unset] [(.int (own_b A)), (.long q0), (.int (own_b (own_E q0 (own_min l2 q5) A)))])
        refine own_st (fun _ k => XS.lload X43.here hx rfl (hb hby at_105) rfl k) ?_
        show own_Go p e s below _ _ _ T43 (mkF m 107 #[.val (.long q0), .second, .val (.int p2), .val (.long q3), .second, .val (.long q5), .second, .val (.int (own_b A)), .val (.long l2), .second, .val (.ref b), .val (.int (1 : Int32)), .val (.long (own_min l2 q5)), .second, .unset] [(.long (own_min l2 q5)), (.int (own_b A)), (.long q0), (.int (own_b (own_E q0 (own_min l2 q5) A)))])
        refine own_callS X43 hx hZ (y := (⟨"com/example/chronotope/chronotope/TimeConditionIsEmptyPinLaw", "hasInstant", "(JZJ)Z"⟩ : MethodName)) hown (hw _ (List.mem_of_getElem? (i := 25) rfl)) (hw _ (List.mem_of_getElem? (i := 26) rfl)) (hw _ (List.mem_of_getElem? (i := 27) rfl)) (hw _ (List.mem_of_getElem? (i := 28) rfl)) (by decide) e43 (rm5 l Z a0 hw [] q0 A (own_min l2 q5) T41.heap n0 Z42) 1 (by decide) (by decide) (g := (mkF m 107 #[.val (.long q0), .second, .val (.int p2), .val (.long q3), .second, .val (.long q5), .second, .val (.int (own_b A)), .val (.long l2), .second, .val (.ref b), .val (.int (1 : Int32)), .val (.long (own_min l2 q5)), .second, .unset] [(.long (own_min l2 q5)), (.int (own_b A)), (.long q0), (.int (own_b (own_E q0 (own_min l2 q5) A)))])) rfl (by rw [hml]; rfl) (argsL := [(.long q0), (.int (own_b A)), (.long (own_min l2 q5))]) (rest := [(.int (own_b (own_E q0 (own_min l2 q5) A)))]) pd3 rfl rfl rfl (by show 2 * 0 + _ ≤ _; exact Nat.le_of_eq rfl) (hb hby at_107) (by decide) (by decide) ?_
        intro T44 v44 L44 X44 hQ44
        obtain ⟨rfl, N44q, e44⟩ := hQ44
        have N44 := Fr.app N43 N44q
        show own_Go p e s below _ _ _ T44 (mkF m 110 #[.val (.long q0), .second, .val (.int p2), .val (.long q3), .second, .val (.long q5), .second, .val (.int (own_b A)), .val (.long l2), .second, .val (.ref b), .val (.int (1 : Int32)), .val (.long (own_min l2 q5)), .second, .unset] [(.int (own_b (own_H q0 (own_min l2 q5) A))), (.int (own_b (own_E q0 (own_min l2 q5) A)))])
        have J121 : own_Go p e s below (fun (v : Option Value) (h : Heap) (L : List Loc) => v = some (.int 1) ∧ Fr n0 L) 16 128 T44 (mkF m 121 #[.val (.long q0), .second, .val (.int p2), .val (.long q3), .second, .val (.long q5), .second, .val (.int (own_b A)), .val (.long l2), .second, .val (.ref b), .val (.int (1 : Int32)), .val (.long (own_min l2 q5)), .second, .unset] []) := by
          show own_Go p e s below _ _ _ T44 (mkF m 121 #[.val (.long q0), .second, .val (.int p2), .val (.long q3), .second, .val (.long q5), .second, .val (.int (own_b A)), .val (.long l2), .second, .val (.ref b), .val (.int (1 : Int32)), .val (.long (own_min l2 q5)), .second, .unset] [])
          refine own_st (fun _ k => XS.iconst X44.here hx rfl (hb hby at_121) k) ?_
          show own_Go p e s below _ _ _ T44 (mkF m 122 #[.val (.long q0), .second, .val (.int p2), .val (.long q3), .second, .val (.long q5), .second, .val (.int (own_b A)), .val (.long l2), .second, .val (.ref b), .val (.int (1 : Int32)), .val (.long (own_min l2 q5)), .second, .unset] [(.int (1 : Int32))])
          refine own_st (fun _ k => XS.goto X44.here hx rfl (pc0 := 122) (pc' := 126) rfl (hb hby at_122) (by decide) (by decide) k) ?_
          show own_Go p e s below _ _ _ T44 (mkF m 126 #[.val (.long q0), .second, .val (.int p2), .val (.long q3), .second, .val (.long q5), .second, .val (.int (own_b A)), .val (.long l2), .second, .val (.ref b), .val (.int (1 : Int32)), .val (.long (own_min l2 q5)), .second, .unset] [(.int (1 : Int32))])
          refine own_st (fun _ k => XS.istore X44.here hx rfl (hb hby at_126) rfl (l' := #[.val (.long q0), .second, .val (.int p2), .val (.long q3), .second, .val (.long q5), .second, .val (.int (own_b A)), .val (.long l2), .second, .val (.ref b), .val (.int (1 : Int32)), .val (.long (own_min l2 q5)), .second, .val (.int (1 : Int32))]) rfl k) ?_
          show own_Go p e s below _ _ _ T44 (mkF m 128 #[.val (.long q0), .second, .val (.int p2), .val (.long q3), .second, .val (.long q5), .second, .val (.int (own_b A)), .val (.long l2), .second, .val (.ref b), .val (.int (1 : Int32)), .val (.long (own_min l2 q5)), .second, .val (.int (1 : Int32))] [])
          refine own_st (fun _ k => XS.iload X44.here hx rfl (hb hby at_128) rfl k) ?_
          show own_Go p e s below _ _ _ T44 (mkF m 130 #[.val (.long q0), .second, .val (.int p2), .val (.long q3), .second, .val (.long q5), .second, .val (.int (own_b A)), .val (.long l2), .second, .val (.ref b), .val (.int (1 : Int32)), .val (.long (own_min l2 q5)), .second, .val (.int (1 : Int32))] [(.int (1 : Int32))])
          refine own_st (fun _ k => XS.ifNo X44.here hx rfl (hb hby at_130) rfl (by decide) k) ?_
          show own_Go p e s below _ _ _ T44 (mkF m 133 #[.val (.long q0), .second, .val (.int p2), .val (.long q3), .second, .val (.long q5), .second, .val (.int (own_b A)), .val (.long l2), .second, .val (.ref b), .val (.int (1 : Int32)), .val (.long (own_min l2 q5)), .second, .val (.int (1 : Int32))] [])
          refine own_st (fun _ k => XS.iload X44.here hx rfl (hb hby at_133) rfl k) ?_
          show own_Go p e s below _ _ _ T44 (mkF m 135 #[.val (.long q0), .second, .val (.int p2), .val (.long q3), .second, .val (.long q5), .second, .val (.int (own_b A)), .val (.long l2), .second, .val (.ref b), .val (.int (1 : Int32)), .val (.long (own_min l2 q5)), .second, .val (.int (1 : Int32))] [(.int (1 : Int32))])
          refine own_st (fun _ k => XS.ifNo X44.here hx rfl (hb hby at_135) rfl (by decide) k) ?_
          show own_Go p e s below _ _ _ T44 (mkF m 138 #[.val (.long q0), .second, .val (.int p2), .val (.long q3), .second, .val (.long q5), .second, .val (.int (own_b A)), .val (.long l2), .second, .val (.ref b), .val (.int (1 : Int32)), .val (.long (own_min l2 q5)), .second, .val (.int (1 : Int32))] [])
          refine own_st (fun _ k => XS.iconst X44.here hx rfl (hb hby at_138) k) ?_
          show own_Go p e s below _ _ _ T44 (mkF m 139 #[.val (.long q0), .second, .val (.int p2), .val (.long q3), .second, .val (.long q5), .second, .val (.int (own_b A)), .val (.long l2), .second, .val (.ref b), .val (.int (1 : Int32)), .val (.long (own_min l2 q5)), .second, .val (.int (1 : Int32))] [(.int (1 : Int32))])
          refine own_st (fun _ k => XS.goto X44.here hx rfl (pc0 := 139) (pc' := 143) rfl (hb hby at_139) (by decide) (by decide) k) ?_
          show own_Go p e s below _ _ _ T44 (mkF m 143 #[.val (.long q0), .second, .val (.int p2), .val (.long q3), .second, .val (.long q5), .second, .val (.int (own_b A)), .val (.long l2), .second, .val (.ref b), .val (.int (1 : Int32)), .val (.long (own_min l2 q5)), .second, .val (.int (1 : Int32))] [(.int (1 : Int32))])
          exact own_retN X44 hx hlk (t := .boolean) hret (by simp) (hb hby at_143) (z' := (1 : Int32)) rfl (by decide) (by decide) ⟨rfl, N44⟩
        by_cases c110_45 : (own_H q0 (own_min l2 q5) A)
        · refine own_st (fun _ k => XS.ifYes X44.here hx rfl (pc0 := 110) (pc' := 117) rfl (hb hby at_110) rfl (own_by c110_45).1 (by decide) (by decide) k) ?_
          show own_Go p e s below _ _ _ T44 (mkF m 117 #[.val (.long q0), .second, .val (.int p2), .val (.long q3), .second, .val (.long q5), .second, .val (.int (own_b A)), .val (.long l2), .second, .val (.ref b), .val (.int (1 : Int32)), .val (.long (own_min l2 q5)), .second, .unset] [(.int (own_b (own_E q0 (own_min l2 q5) A)))])
          refine own_st (fun _ k => XS.iconst X44.here hx rfl (hb hby at_117) k) ?_
          show own_Go p e s below _ _ _ T44 (mkF m 118 #[.val (.long q0), .second, .val (.int p2), .val (.long q3), .second, .val (.long q5), .second, .val (.int (own_b A)), .val (.long l2), .second, .val (.ref b), .val (.int (1 : Int32)), .val (.long (own_min l2 q5)), .second, .unset] [(.int (0 : Int32)), (.int (own_b (own_E q0 (own_min l2 q5) A)))])
          refine own_st (fun _ k => XS.icmpNo X44.here hx rfl (hb hby at_118) rfl (teq (own_bf (fun q => (own_EH _ _ _).mp q c110_45))).2 k) ?_
          show own_Go p e s below _ _ _ T44 (mkF m 121 #[.val (.long q0), .second, .val (.int p2), .val (.long q3), .second, .val (.long q5), .second, .val (.int (own_b A)), .val (.long l2), .second, .val (.ref b), .val (.int (1 : Int32)), .val (.long (own_min l2 q5)), .second, .unset] [])
          exact J121
        · refine own_st (fun _ k => XS.ifNo X44.here hx rfl (hb hby at_110) rfl (own_bn c110_45).2 k) ?_
          show own_Go p e s below _ _ _ T44 (mkF m 113 #[.val (.long q0), .second, .val (.int p2), .val (.long q3), .second, .val (.long q5), .second, .val (.int (own_b A)), .val (.long l2), .second, .val (.ref b), .val (.int (1 : Int32)), .val (.long (own_min l2 q5)), .second, .unset] [(.int (own_b (own_E q0 (own_min l2 q5) A)))])
          refine own_st (fun _ k => XS.iconst X44.here hx rfl (hb hby at_113) k) ?_
          show own_Go p e s below _ _ _ T44 (mkF m 114 #[.val (.long q0), .second, .val (.int p2), .val (.long q3), .second, .val (.long q5), .second, .val (.int (own_b A)), .val (.long l2), .second, .val (.ref b), .val (.int (1 : Int32)), .val (.long (own_min l2 q5)), .second, .unset] [(.int (1 : Int32)), (.int (own_b (own_E q0 (own_min l2 q5) A)))])
          refine own_st (fun _ k => XS.goto X44.here hx rfl (pc0 := 114) (pc' := 118) rfl (hb hby at_114) (by decide) (by decide) k) ?_
          show own_Go p e s below _ _ _ T44 (mkF m 118 #[.val (.long q0), .second, .val (.int p2), .val (.long q3), .second, .val (.long q5), .second, .val (.int (own_b A)), .val (.long l2), .second, .val (.ref b), .val (.int (1 : Int32)), .val (.long (own_min l2 q5)), .second, .unset] [(.int (1 : Int32)), (.int (own_b (own_E q0 (own_min l2 q5) A)))])
          refine own_st (fun _ k => XS.icmpNo X44.here hx rfl (hb hby at_118) rfl (teq (own_bt ((own_EH _ _ _).mpr c110_45))).2 k) ?_
          show own_Go p e s below _ _ _ T44 (mkF m 121 #[.val (.long q0), .second, .val (.int p2), .val (.long q3), .second, .val (.long q5), .second, .val (.int (own_b A)), .val (.long l2), .second, .val (.ref b), .val (.int (1 : Int32)), .val (.long (own_min l2 q5)), .second, .unset] [])
          exact J121
      by_cases c65_46 : (own_H q0 l2 A)
      · refine own_st (fun _ k => XS.ifYes X39.here hx rfl (pc0 := 65) (pc' := 72) rfl (hb hby at_65) rfl (own_by c65_46).1 (by decide) (by decide) k) ?_
        show own_Go p e s below _ _ _ T39 (mkF m 72 #[.val (.long q0), .second, .val (.int p2), .val (.long q3), .second, .val (.long q5), .second, .val (.int (own_b A)), .val (.long l2), .second, .val (.ref b), .unset, .unset, .unset, .unset] [(.int (own_b (own_E q0 l2 A)))])
        refine own_st (fun _ k => XS.iconst X39.here hx rfl (hb hby at_72) k) ?_
        show own_Go p e s below _ _ _ T39 (mkF m 73 #[.val (.long q0), .second, .val (.int p2), .val (.long q3), .second, .val (.long q5), .second, .val (.int (own_b A)), .val (.long l2), .second, .val (.ref b), .unset, .unset, .unset, .unset] [(.int (0 : Int32)), (.int (own_b (own_E q0 l2 A)))])
        refine own_st (fun _ k => XS.icmpNo X39.here hx rfl (hb hby at_73) rfl (teq (own_bf (fun q => (own_EH _ _ _).mp q c65_46))).2 k) ?_
        show own_Go p e s below _ _ _ T39 (mkF m 76 #[.val (.long q0), .second, .val (.int p2), .val (.long q3), .second, .val (.long q5), .second, .val (.int (own_b A)), .val (.long l2), .second, .val (.ref b), .unset, .unset, .unset, .unset] [])
        exact J76
      · refine own_st (fun _ k => XS.ifNo X39.here hx rfl (hb hby at_65) rfl (own_bn c65_46).2 k) ?_
        show own_Go p e s below _ _ _ T39 (mkF m 68 #[.val (.long q0), .second, .val (.int p2), .val (.long q3), .second, .val (.long q5), .second, .val (.int (own_b A)), .val (.long l2), .second, .val (.ref b), .unset, .unset, .unset, .unset] [(.int (own_b (own_E q0 l2 A)))])
        refine own_st (fun _ k => XS.iconst X39.here hx rfl (hb hby at_68) k) ?_
        show own_Go p e s below _ _ _ T39 (mkF m 69 #[.val (.long q0), .second, .val (.int p2), .val (.long q3), .second, .val (.long q5), .second, .val (.int (own_b A)), .val (.long l2), .second, .val (.ref b), .unset, .unset, .unset, .unset] [(.int (1 : Int32)), (.int (own_b (own_E q0 l2 A)))])
        refine own_st (fun _ k => XS.goto X39.here hx rfl (pc0 := 69) (pc' := 73) rfl (hb hby at_69) (by decide) (by decide) k) ?_
        show own_Go p e s below _ _ _ T39 (mkF m 73 #[.val (.long q0), .second, .val (.int p2), .val (.long q3), .second, .val (.long q5), .second, .val (.int (own_b A)), .val (.long l2), .second, .val (.ref b), .unset, .unset, .unset, .unset] [(.int (1 : Int32)), (.int (own_b (own_E q0 l2 A)))])
        refine own_st (fun _ k => XS.icmpNo X39.here hx rfl (hb hby at_73) rfl (teq (own_bt ((own_EH _ _ _).mpr c65_46))).2 k) ?_
        show own_Go p e s below _ _ _ T39 (mkF m 76 #[.val (.long q0), .second, .val (.int p2), .val (.long q3), .second, .val (.long q5), .second, .val (.int (own_b A)), .val (.long l2), .second, .val (.ref b), .unset, .unset, .unset, .unset] [])
        exact J76
    refine own_st (fun _ k => XS.istore X0.here hx rfl (hb hby at_11) rfl (l' := #[.val (.long q0), .second, .val (.int p2), .val (.long q3), .second, .val (.long q5), .second, .val (.int (own_b A)), .unset, .unset, .unset, .unset, .unset, .unset, .unset]) rfl k) ?_
    show own_Go p e s below _ _ _ T0 (mkF m 13 #[.val (.long q0), .second, .val (.int p2), .val (.long q3), .second, .val (.long q5), .second, .val (.int (own_b A)), .unset, .unset, .unset, .unset, .unset, .unset, .unset] [])
    refine own_st (fun _ k => XS.lloadN X0.here hx rfl (hb hby at_13) rfl k) ?_
    show own_Go p e s below _ _ _ T0 (mkF m 14 #[.val (.long q0), .second, .val (.int p2), .val (.long q3), .second, .val (.long q5), .second, .val (.int (own_b A)), .unset, .unset, .unset, .unset, .unset, .unset, .unset] [(.long q3)])
    refine own_st (fun _ k => XS.lstore X0.here hx rfl (hb hby at_14) rfl (l' := #[.val (.long q0), .second, .val (.int p2), .val (.long q3), .second, .val (.long q5), .second, .val (.int (own_b A)), .val (.long q3), .second, .unset, .unset, .unset, .unset, .unset]) rfl k) ?_
    show own_Go p e s below _ _ _ T0 (mkF m 16 #[.val (.long q0), .second, .val (.int p2), .val (.long q3), .second, .val (.long q5), .second, .val (.int (own_b A)), .val (.long q3), .second, .unset, .unset, .unset, .unset, .unset] [])
    refine own_st (fun _ k => XS.iloadN X0.here hx rfl (hb hby at_16) rfl k) ?_
    show own_Go p e s below _ _ _ T0 (mkF m 17 #[.val (.long q0), .second, .val (.int p2), .val (.long q3), .second, .val (.long q5), .second, .val (.int (own_b A)), .val (.long q3), .second, .unset, .unset, .unset, .unset, .unset] [(.int p2)])
    refine own_st (fun _ k => XS.iconst X0.here hx rfl (hb hby at_17) k) ?_
    show own_Go p e s below _ _ _ T0 (mkF m 18 #[.val (.long q0), .second, .val (.int p2), .val (.long q3), .second, .val (.long q5), .second, .val (.int (own_b A)), .val (.long q3), .second, .unset, .unset, .unset, .unset, .unset] [(.int (2 : Int32)), (.int p2)])
    refine own_st (fun _ k => XS.iand X0.here hx rfl (hb hby at_18) rfl k) ?_
    show own_Go p e s below _ _ _ T0 (mkF m 19 #[.val (.long q0), .second, .val (.int p2), .val (.long q3), .second, .val (.long q5), .second, .val (.int (own_b A)), .val (.long q3), .second, .unset, .unset, .unset, .unset, .unset] [(.int (p2 &&& (2 : Int32)))])
    by_cases c19_47 : (p2 &&& (2 : Int32)) = (0 : Int32)
    · refine own_st (fun _ k => XS.ifYes X0.here hx rfl (pc0 := 19) (pc' := 38) rfl (hb hby at_19) rfl ((if0 _ _).trans (teq c19_47).1) (by decide) (by decide) k) ?_
      show own_Go p e s below _ _ _ T0 (mkF m 38 #[.val (.long q0), .second, .val (.int p2), .val (.long q3), .second, .val (.long q5), .second, .val (.int (own_b A)), .val (.long q3), .second, .unset, .unset, .unset, .unset, .unset] [])
      exact J38 _ _ _ (by first | exact Or.inl ⟨rfl, rfl⟩ | exact Or.inr ⟨_, rfl, rfl⟩)
    · refine own_st (fun _ k => XS.ifNo X0.here hx rfl (hb hby at_19) rfl ((if0 _ _).trans (feq c19_47).1) k) ?_
      show own_Go p e s below _ _ _ T0 (mkF m 22 #[.val (.long q0), .second, .val (.int p2), .val (.long q3), .second, .val (.long q5), .second, .val (.int (own_b A)), .val (.long q3), .second, .unset, .unset, .unset, .unset, .unset] [])
      refine own_st (fun _ k => XS.iloadN X0.here hx rfl (hb hby at_22) rfl k) ?_
      show own_Go p e s below _ _ _ T0 (mkF m 23 #[.val (.long q0), .second, .val (.int p2), .val (.long q3), .second, .val (.long q5), .second, .val (.int (own_b A)), .val (.long q3), .second, .unset, .unset, .unset, .unset, .unset] [(.int p2)])
      refine own_st (fun _ k => XS.iconst X0.here hx rfl (hb hby at_23) k) ?_
      show own_Go p e s below _ _ _ T0 (mkF m 24 #[.val (.long q0), .second, .val (.int p2), .val (.long q3), .second, .val (.long q5), .second, .val (.int (own_b A)), .val (.long q3), .second, .unset, .unset, .unset, .unset, .unset] [(.int (2 : Int32)), (.int p2)])
      refine own_st (fun _ k => XS.iushr X0.here hx rfl (hb hby at_24) rfl k) ?_
      show own_Go p e s below _ _ _ T0 (mkF m 25 #[.val (.long q0), .second, .val (.int p2), .val (.long q3), .second, .val (.long q5), .second, .val (.int (own_b A)), .val (.long q3), .second, .unset, .unset, .unset, .unset, .unset] [(.int ((p2.toUInt32 >>> ((2 : Int32) &&& 31).toUInt32).toInt32))])
      refine own_st (fun _ k => XS.iconst X0.here hx rfl (hb hby at_25) k) ?_
      show own_Go p e s below _ _ _ T0 (mkF m 26 #[.val (.long q0), .second, .val (.int p2), .val (.long q3), .second, .val (.long q5), .second, .val (.int (own_b A)), .val (.long q3), .second, .unset, .unset, .unset, .unset, .unset] [(.int (3 : Int32)), (.int ((p2.toUInt32 >>> ((2 : Int32) &&& 31).toUInt32).toInt32))])
      refine own_st (fun _ k => XS.iand X0.here hx rfl (hb hby at_26) rfl k) ?_
      show own_Go p e s below _ _ _ T0 (mkF m 27 #[.val (.long q0), .second, .val (.int p2), .val (.long q3), .second, .val (.long q5), .second, .val (.int (own_b A)), .val (.long q3), .second, .unset, .unset, .unset, .unset, .unset] [(.int (((p2.toUInt32 >>> ((2 : Int32) &&& 31).toUInt32).toInt32) &&& (3 : Int32)))])
      refine own_st (fun _ k => XS.iconst X0.here hx rfl (hb hby at_27) k) ?_
      show own_Go p e s below _ _ _ T0 (mkF m 28 #[.val (.long q0), .second, .val (.int p2), .val (.long q3), .second, .val (.long q5), .second, .val (.int (own_b A)), .val (.long q3), .second, .unset, .unset, .unset, .unset, .unset] [(.int (1 : Int32)), (.int (((p2.toUInt32 >>> ((2 : Int32) &&& 31).toUInt32).toInt32) &&& (3 : Int32)))])
      refine own_st (fun _ k => XS.isub X0.here hx rfl (hb hby at_28) rfl k) ?_
      show own_Go p e s below _ _ _ T0 (mkF m 29 #[.val (.long q0), .second, .val (.int p2), .val (.long q3), .second, .val (.long q5), .second, .val (.int (own_b A)), .val (.long q3), .second, .unset, .unset, .unset, .unset, .unset] [(.int ((((p2.toUInt32 >>> ((2 : Int32) &&& 31).toUInt32).toInt32) &&& (3 : Int32)) - (1 : Int32)))])
      refine own_st (fun _ k => XS.i2l X0.here hx rfl (hb hby at_29) rfl k) ?_
      show own_Go p e s below _ _ _ T0 (mkF m 30 #[.val (.long q0), .second, .val (.int p2), .val (.long q3), .second, .val (.long q5), .second, .val (.int (own_b A)), .val (.long q3), .second, .unset, .unset, .unset, .unset, .unset] [(.long (((((p2.toUInt32 >>> ((2 : Int32) &&& 31).toUInt32).toInt32) &&& (3 : Int32)) - (1 : Int32)).toInt64))])
      refine own_st (fun _ k => XS.lstore X0.here hx rfl (hb hby at_30) rfl (l' := #[.val (.long q0), .second, .val (.int p2), .val (.long q3), .second, .val (.long q5), .second, .val (.int (own_b A)), .val (.long q3), .second, .val (.long (((((p2.toUInt32 >>> ((2 : Int32) &&& 31).toUInt32).toInt32) &&& (3 : Int32)) - (1 : Int32)).toInt64)), .second, .unset, .unset, .unset]) rfl k) ?_
      show own_Go p e s below _ _ _ T0 (mkF m 32 #[.val (.long q0), .second, .val (.int p2), .val (.long q3), .second, .val (.long q5), .second, .val (.int (own_b A)), .val (.long q3), .second, .val (.long (((((p2.toUInt32 >>> ((2 : Int32) &&& 31).toUInt32).toInt32) &&& (3 : Int32)) - (1 : Int32)).toInt64)), .second, .unset, .unset, .unset] [])
      refine own_st (fun _ k => XS.lloadN X0.here hx rfl (hb hby at_32) rfl k) ?_
      show own_Go p e s below _ _ _ T0 (mkF m 33 #[.val (.long q0), .second, .val (.int p2), .val (.long q3), .second, .val (.long q5), .second, .val (.int (own_b A)), .val (.long q3), .second, .val (.long (((((p2.toUInt32 >>> ((2 : Int32) &&& 31).toUInt32).toInt32) &&& (3 : Int32)) - (1 : Int32)).toInt64)), .second, .unset, .unset, .unset] [(.long q0)])
      refine own_st (fun _ k => XS.lload X0.here hx rfl (hb hby at_33) rfl k) ?_
      show own_Go p e s below _ _ _ T0 (mkF m 35 #[.val (.long q0), .second, .val (.int p2), .val (.long q3), .second, .val (.long q5), .second, .val (.int (own_b A)), .val (.long q3), .second, .val (.long (((((p2.toUInt32 >>> ((2 : Int32) &&& 31).toUInt32).toInt32) &&& (3 : Int32)) - (1 : Int32)).toInt64)), .second, .unset, .unset, .unset] [(.long (((((p2.toUInt32 >>> ((2 : Int32) &&& 31).toUInt32).toInt32) &&& (3 : Int32)) - (1 : Int32)).toInt64)), (.long q0)])
      refine own_st (fun _ k => XS.ladd X0.here hx rfl (hb hby at_35) rfl k) ?_
      show own_Go p e s below _ _ _ T0 (mkF m 36 #[.val (.long q0), .second, .val (.int p2), .val (.long q3), .second, .val (.long q5), .second, .val (.int (own_b A)), .val (.long q3), .second, .val (.long (((((p2.toUInt32 >>> ((2 : Int32) &&& 31).toUInt32).toInt32) &&& (3 : Int32)) - (1 : Int32)).toInt64)), .second, .unset, .unset, .unset] [(.long (q0 + (((((p2.toUInt32 >>> ((2 : Int32) &&& 31).toUInt32).toInt32) &&& (3 : Int32)) - (1 : Int32)).toInt64)))])
      refine own_st (fun _ k => XS.lstore X0.here hx rfl (hb hby at_36) rfl (l' := #[.val (.long q0), .second, .val (.int p2), .val (.long q3), .second, .val (.long q5), .second, .val (.int (own_b A)), .val (.long (q0 + (((((p2.toUInt32 >>> ((2 : Int32) &&& 31).toUInt32).toInt32) &&& (3 : Int32)) - (1 : Int32)).toInt64))), .second, .val (.long (((((p2.toUInt32 >>> ((2 : Int32) &&& 31).toUInt32).toInt32) &&& (3 : Int32)) - (1 : Int32)).toInt64)), .second, .unset, .unset, .unset]) rfl k) ?_
      show own_Go p e s below _ _ _ T0 (mkF m 38 #[.val (.long q0), .second, .val (.int p2), .val (.long q3), .second, .val (.long q5), .second, .val (.int (own_b A)), .val (.long (q0 + (((((p2.toUInt32 >>> ((2 : Int32) &&& 31).toUInt32).toInt32) &&& (3 : Int32)) - (1 : Int32)).toInt64))), .second, .val (.long (((((p2.toUInt32 >>> ((2 : Int32) &&& 31).toUInt32).toInt32) &&& (3 : Int32)) - (1 : Int32)).toInt64)), .second, .unset, .unset, .unset] [])
      exact J38 _ _ _ (by first | exact Or.inl ⟨rfl, rfl⟩ | exact Or.inr ⟨_, rfl, rfl⟩)
  refine own_st (fun _ k => XS.iloadN X0.here hx rfl (hb hby at_0) rfl k) ?_
  show own_Go p e s below _ _ _ T0 (mkF m 1 #[.val (.long q0), .second, .val (.int p2), .val (.long q3), .second, .val (.long q5), .second, .unset, .unset, .unset, .unset, .unset, .unset, .unset, .unset] [(.int p2)])
  refine own_st (fun _ k => XS.iconst X0.here hx rfl (hb hby at_1) k) ?_
  show own_Go p e s below _ _ _ T0 (mkF m 2 #[.val (.long q0), .second, .val (.int p2), .val (.long q3), .second, .val (.long q5), .second, .unset, .unset, .unset, .unset, .unset, .unset, .unset, .unset] [(.int (1 : Int32)), (.int p2)])
  refine own_st (fun _ k => XS.iand X0.here hx rfl (hb hby at_2) rfl k) ?_
  show own_Go p e s below _ _ _ T0 (mkF m 3 #[.val (.long q0), .second, .val (.int p2), .val (.long q3), .second, .val (.long q5), .second, .unset, .unset, .unset, .unset, .unset, .unset, .unset, .unset] [(.int (p2 &&& (1 : Int32)))])
  by_cases c3_48 : (p2 &&& (1 : Int32)) = (0 : Int32)
  · refine own_st (fun _ k => XS.ifYes X0.here hx rfl (pc0 := 3) (pc' := 10) rfl (hb hby at_3) rfl ((if0 _ _).trans (teq c3_48).1) (by decide) (by decide) k) ?_
    show own_Go p e s below _ _ _ T0 (mkF m 10 #[.val (.long q0), .second, .val (.int p2), .val (.long q3), .second, .val (.long q5), .second, .unset, .unset, .unset, .unset, .unset, .unset, .unset, .unset] [])
    refine own_st (fun _ k => XS.iconst X0.here hx rfl (hb hby at_10) k) ?_
    show own_Go p e s below _ _ _ T0 (mkF m 11 #[.val (.long q0), .second, .val (.int p2), .val (.long q3), .second, .val (.long q5), .second, .unset, .unset, .unset, .unset, .unset, .unset, .unset, .unset] [(.int (0 : Int32))])
    exact J11 False _ (by rw [own_bf not_false])
  · refine own_st (fun _ k => XS.ifNo X0.here hx rfl (hb hby at_3) rfl ((if0 _ _).trans (feq c3_48).1) k) ?_
    show own_Go p e s below _ _ _ T0 (mkF m 6 #[.val (.long q0), .second, .val (.int p2), .val (.long q3), .second, .val (.long q5), .second, .unset, .unset, .unset, .unset, .unset, .unset, .unset, .unset] [])
    refine own_st (fun _ k => XS.iconst X0.here hx rfl (hb hby at_6) k) ?_
    show own_Go p e s below _ _ _ T0 (mkF m 7 #[.val (.long q0), .second, .val (.int p2), .val (.long q3), .second, .val (.long q5), .second, .unset, .unset, .unset, .unset, .unset, .unset, .unset, .unset] [(.int (1 : Int32))])
    refine own_st (fun _ k => XS.goto X0.here hx rfl (pc0 := 7) (pc' := 11) rfl (hb hby at_7) (by decide) (by decide) k) ?_
    show own_Go p e s below _ _ _ T0 (mkF m 11 #[.val (.long q0), .second, .val (.int p2), .val (.long q3), .second, .val (.long q5), .second, .unset, .unset, .unset, .unset, .unset, .unset, .unset, .unset] [(.int (1 : Int32))])
    exact J11 True _ (by rw [own_bt trivial])
set_option maxRecDepth 65536 in
set_option maxHeartbeats 40000000 in
theorem comes_1 {Post : Tables → Env → Array Value → State → Outcome → State → Prop} (hpost : ∀ tb e args s v u, (limb_1_1.after args s (.returned v) u = true ∧ limb_1_2.after args s (.returned v) u = true ∧ True) → FrameEnd s (.returned v) u (Jvm.fieldLocs frame_1_writes args s ++ Jvm.arrayLocs frame_1_arrays args s ++ Jvm.staticLocs frame_1_statics s) 16 128 → Post tb e args s (.returned v) u) :
    ArmFor flags0 classFile x code maxLocals ret World_1 tables_1 room_1 Calls_1 rest_1 Pre_1 Post := by
  intro l hfl _ _ p e ha hc hk s m args below hf hA hF happ hP
  obtain ⟨hcalls, hrest, hpre⟩ := hP
  obtain ⟨-, -, -, hnamed, -, -, -, hat⟩ := (Spec.applies_iff hf).mp happ
  obtain ⟨hg, hn⟩ := and_e (Cond.before_iff.mp (show (Jvm.Cond.and given_1 narrow_1).before args s = true from hpre))
  obtain ⟨h1, hr0⟩ := and_e hg
  obtain ⟨w0, w1, w2, w3, rfl⟩ : ∃ w0 w1 w2 w3 : Value, args = #[w0, w1, w2, w3] := by
    have hs : args.size = 4 := by simpa [Cond.value, given_1] using h1
    obtain ⟨L⟩ := args
    match L, hs with
    | [w0, w1, w2, w3], _ => exact ⟨w0, w1, w2, w3, rfl⟩
  have hw := fun d (hd : d ∈ tables_1) => atoms_spec (ws := Jvm.Cond.code x code maxLocals ret :: tables_1) hat d (List.mem_cons_of_mem _ hd)
  obtain ⟨ha0, hr1⟩ := and_e hr0
  obtain ⟨i0, e0⟩ := isL_v ha0
  obtain rfl : w0 = (.long i0) := Option.some.inj e0
  obtain ⟨ha1, hr2⟩ := and_e hr1
  obtain ⟨i1, e1⟩ := is_v ha1
  obtain rfl : w1 = (.int i1) := Option.some.inj e1
  obtain ⟨ha2, hr3⟩ := and_e hr2
  obtain ⟨i2, e2⟩ := isL_v ha2
  obtain rfl : w2 = (.long i2) := Option.some.inj e2
  obtain ⟨i3, e3⟩ := isL_v hr3
  obtain rfl : w3 = (.long i3) := Option.some.inj e3
  obtain ⟨n, o, h1, h2, h3, _, L, rfl, ⟨rfl, N⟩, hq⟩ := rm0 l s _ hw tables_1 i0 i1 i2 i3 s.heap s.heap.size (Nat.le_refl _) p e ha hc hk s m _ below hf ((Spec.applies_iff_loose hf).mp happ).1 ⟨rfl, State.Warmed39.refl s, rfl⟩ trivial
  refine ⟨n, _, h1, h2, h3, hpost _ _ _ _ _ _ ⟨Cond.after_iff.mpr rfl, Cond.after_iff.mpr (eq_i res_at (Term.int_eval (1)) rfl), trivial⟩ ⟨hq.1, hq.2.1, (hq.2.2.sift fun y hy => Or.inr (N y hy)).mono (by decide) (by decide)⟩⟩
theorem main_1_1 : Claimed_1_1 := comes_1 fun _ _ _ _ _ _ h hF => ⟨h.1, hF⟩
theorem main_1_2 : Claimed_1_2 := comes_1 fun _ _ _ _ _ _ h hF => ⟨h.2.1, hF⟩
end Jvm.Pilot.@@N@@
namespace Jvm.Pilot.@@N@@
open Jvm Jvm.ClassFile Sem Op Lib Jvm.Free Jvm.Stand Jvm.Pilot.@@N@@.Jvm.D
/-! MADE BY PROGRAM (witnessworld.py) out of the Statement's table words and the real class files: 11 classes; the members and pool entries that the words name. The judged class is class 1, her method 2. -/
namespace start1
open Jvm.ClassFile
def u (s : String) : CpInfo := .utf8 (stringToUtf16 s)
/-- a pool by its gaps: so many unusable entries, then the entry; so many at the end -/
def gap : Nat → List CpInfo → List CpInfo
  | 0, r => r
  | n + 1, r => .unusable :: gap n r
def poolList (es : List (Nat × CpInfo)) (last : Nat) : List CpInfo := es.foldr (fun e r => gap e.1 (e.2 :: r)) (gap last [])
def pool (es : List (Nat × CpInfo)) (last : Nat) : Array CpInfo := ⟨poolList es last⟩
def fileOf (pool : Array CpInfo) (this : Nat) (attrs : Array Attribute := #[]) (ms : Array MethodInfo := #[]) (fl : Nat := 33) (sup : Nat := 0) (ifs : Array Nat := #[]) (fds : Array FieldInfo := #[]) : ClassFile where
  minorVersion := 0
  majorVersion := 65
  constantPool := pool
  accessFlags := fl
  thisClass := this
  superClass := sup
  interfaces := ifs
  fields := fds
  methods := ms
  attributes := attrs
def plain (name : String) (sup : Option ClassId) : Class where
  name := name
  kind := .ordinary
  loader := none
  accessFlags := 33
  super := sup
  interfaces := #[]
  cf := none
  fields := #[]
  methods := #[]
  instanceTypes := #[]
  staticTypes := #[]
  resolved := #[]
  callSites := []
  init := .initialized
  statics := none
  mirror := none

def pool0 : Array CpInfo := pool [(5, u "<init>"), (0, u "()V"), (1, .class_ 10), (1, u "java/lang/Object")] 113

def k0c0 : Code := { maxStack := 0, maxLocals := 1, code := object_method_1_code, exceptionTable := #[], attributes := #[] }
def k0m0 : Method := { name := "<init>", desc := "()V", sig := { parameters := [], returnType := none }, accessFlags := 1, code := some k0c0 }
/-- java/lang/Object -/
def k0 : Class := { plain "java/lang/Object" none with
  accessFlags := 33
  interfaces := #[]
  cf := some (fileOf pool0 8 #[] #[{ accessFlags := 1, nameIndex := 5, descriptorIndex := 6, attributes := #[] }] 33 0 #[] #[])
  fields := #[]
  methods := #[k0m0]
  instanceTypes := #[]
  staticTypes := #[]
  resolved := Array.replicate 124 none
  statics := none }

def pool1 : Array CpInfo := pool [(2, .class_ 4), (1, u "java/lang/Object"), (0, u "<init>"), (0, u "()V"), (0, .class_ 8), (0, u "com/example/chronotope/chronotope/TimeCondition"), (0, .methodref 7 10), (0, .nameAndType 5 11), (0, u "(JZJ)V"), (0, .methodref 7 13), (0, .nameAndType 14 15), (0, u "isEmpty"), (0, u "()Z"), (0, .methodref 17 18), (0, .class_ 19), (0, .nameAndType 20 21), (0, u "com/example/chronotope/chronotope/TimeConditionIsEmptyPinLaw"), (0, u "hasInstant"), (0, u "(JZJ)Z"), (0, .methodref 23 24), (0, .class_ 25), (0, .nameAndType 26 27), (0, u "java/lang/Math"), (0, u "min"), (0, u "(JJ)J"), (0, .methodref 7 29), (0, .nameAndType 30 31), (0, u "upTo"), (0, u "(J)Lcom/example/chronotope/chronotope/TimeCondition;"), (3, u "law"), (0, u "(JIJJ)Z")] 2

def k1m0 : Method := { name := "<init>", desc := "()V", sig := { parameters := [], returnType := none }, accessFlags := 2, code := none }
def k1c1 : Code := { maxStack := 4, maxLocals := 5, code := method_2_code, exceptionTable := #[], attributes := #[] }
def k1m1 : Method := { name := "hasInstant", desc := "(JZJ)Z", sig := { parameters := [.long, .boolean, .long], returnType := some .boolean }, accessFlags := 10, code := some k1c1 }
def k1c2 : Code := { maxStack := 7, maxLocals := 15, code := code, exceptionTable := #[], attributes := #[] }
def k1m2 : Method := { name := "law", desc := "(JIJJ)Z", sig := { parameters := [.long, .int, .long, .long], returnType := some .boolean }, accessFlags := 9, code := some k1c2 }
/-- com/example/chronotope/chronotope/TimeConditionIsEmptyPinLaw -/
def k1 : Class := { plain "com/example/chronotope/chronotope/TimeConditionIsEmptyPinLaw" (some 0) with
  accessFlags := 49
  interfaces := #[]
  cf := some (fileOf pool1 17 #[] #[{ accessFlags := 2, nameIndex := 5, descriptorIndex := 6, attributes := #[] }, { accessFlags := 10, nameIndex := 20, descriptorIndex := 21, attributes := #[] }, { accessFlags := 9, nameIndex := 35, descriptorIndex := 36, attributes := #[] }] 49 2 #[] #[])
  fields := #[]
  methods := #[k1m0, k1m1, k1m2]
  instanceTypes := #[]
  staticTypes := #[]
  resolved := Array.replicate 39 none
  statics := none }

def pool2 : Array CpInfo := pool [(1, .methodref 2 3), (0, .class_ 4), (0, .nameAndType 5 6), (0, u "java/lang/Object"), (0, u "<init>"), (0, u "()V"), (0, .class_ 8), (0, u "java/lang/Record")] 13

def k2c0 : Code := { maxStack := 1, maxLocals := 1, code := jdk_30_method_1_code, exceptionTable := #[], attributes := #[] }
def k2m0 : Method := { name := "<init>", desc := "()V", sig := { parameters := [], returnType := none }, accessFlags := 4, code := some k2c0 }
/-- java/lang/Record -/
def k2 : Class := { plain "java/lang/Record" (some 0) with
  accessFlags := 1057
  interfaces := #[]
  cf := some (fileOf pool2 7 #[] #[{ accessFlags := 4, nameIndex := 5, descriptorIndex := 6, attributes := #[] }] 1057 2 #[] #[])
  fields := #[]
  methods := #[k2m0]
  instanceTypes := #[]
  staticTypes := #[]
  resolved := Array.replicate 22 none
  statics := none }

def pool3 : Array CpInfo := pool [(1, .methodref 2 3), (0, .class_ 4), (0, .nameAndType 5 6), (0, u "java/lang/Record"), (0, u "<init>"), (0, u "()V"), (0, .fieldref 8 9), (0, .class_ 10), (0, .nameAndType 11 12), (0, u "com/example/chronotope/chronotope/TimeCondition"), (0, u "first"), (0, u "J"), (0, .fieldref 8 14), (0, .nameAndType 15 16), (0, u "afterFirst"), (0, u "Z"), (0, .fieldref 8 18), (0, .nameAndType 19 12), (0, u "last"), (0, .methodref 8 21), (0, .nameAndType 5 22), (0, u "(JZJ)V"), (6, .methodref 30 31), (0, .class_ 32), (0, .nameAndType 33 34), (0, u "java/lang/Math"), (0, u "min"), (0, u "(JJ)J"), (16, u "(J)Lcom/example/chronotope/chronotope/TimeCondition;"), (4, u "upTo"), (0, u "isEmpty"), (0, u "()Z")] 27

def k3c0 : Code := { maxStack := 3, maxLocals := 6, code := prog_65_method_1_code, exceptionTable := #[], attributes := #[] }
def k3m0 : Method := { name := "<init>", desc := "(JZJ)V", sig := { parameters := [.long, .boolean, .long], returnType := none }, accessFlags := 0, code := some k3c0 }
def k3c1 : Code := { maxStack := 9, maxLocals := 3, code := prog_65_method_6_code, exceptionTable := #[], attributes := #[] }
def k3m1 : Method := { name := "upTo", desc := "(J)Lcom/example/chronotope/chronotope/TimeCondition;", sig := { parameters := [.long], returnType := some (.object "com/example/chronotope/chronotope/TimeCondition") }, accessFlags := 0, code := some k3c1 }
def k3c2 : Code := { maxStack := 4, maxLocals := 1, code := prog_65_method_7_code, exceptionTable := #[], attributes := #[] }
def k3m2 : Method := { name := "isEmpty", desc := "()Z", sig := { parameters := [], returnType := some .boolean }, accessFlags := 0, code := some k3c2 }
/-- com/example/chronotope/chronotope/TimeCondition -/
def k3 : Class := { plain "com/example/chronotope/chronotope/TimeCondition" (some 2) with
  accessFlags := 48
  interfaces := #[]
  cf := some (fileOf pool3 8 #[] #[{ accessFlags := 0, nameIndex := 5, descriptorIndex := 22, attributes := #[] }, { accessFlags := 0, nameIndex := 56, descriptorIndex := 51, attributes := #[] }, { accessFlags := 0, nameIndex := 57, descriptorIndex := 58, attributes := #[] }] 48 2 #[] #[{ accessFlags := 18, nameIndex := 11, descriptorIndex := 12, attributes := #[] }, { accessFlags := 18, nameIndex := 15, descriptorIndex := 16, attributes := #[] }, { accessFlags := 18, nameIndex := 19, descriptorIndex := 12, attributes := #[] }])
  fields := #[{ name := "first", type := .long, accessFlags := 18, slot := 0, constantValue := 0 }, { name := "afterFirst", type := .boolean, accessFlags := 18, slot := 1, constantValue := 0 }, { name := "last", type := .long, accessFlags := 18, slot := 2, constantValue := 0 }]
  methods := #[k3m0, k3m1, k3m2]
  instanceTypes := #[.long, .boolean, .long]
  staticTypes := #[]
  resolved := Array.replicate 86 none
  statics := none }

def pool4 : Array CpInfo := pool [(1, .class_ 2), (0, u "java/lang/Math"), (1, .class_ 6), (1, u "java/lang/Object"), (0, u "<init>"), (0, u "()V"), (89, .class_ 100), (1, u "java/lang/Math$RandomNumberGeneratorHolder"), (20, u "(JJ)J"), (50, u "negativeZeroFloatBits"), (0, u "J"), (2, u "negativeZeroDoubleBits"), (24, u "min"), (43, u "$assertionsDisabled"), (0, u "Z"), (91, u "twoToTheDoubleScaleDown"), (0, u "D"), (4, u "twoToTheDoubleScaleUp"), (9, u "E"), (3, u "PI"), (2, u "TAU"), (2, u "DEGREES_TO_RADIANS"), (0, u "RADIANS_TO_DEGREES")] 94

def k4m0 : Method := { name := "<init>", desc := "()V", sig := { parameters := [], returnType := none }, accessFlags := 2, code := none }
def k4c1 : Code := { maxStack := 4, maxLocals := 4, code := jdk_29_method_70_code, exceptionTable := #[], attributes := #[] }
def k4m1 : Method := { name := "min", desc := "(JJ)J", sig := { parameters := [.long, .long], returnType := some .long }, accessFlags := 9, code := some k4c1 }
/-- java/lang/Math -/
def k4 : Class := { plain "java/lang/Math" (some 0) with
  accessFlags := 49
  interfaces := #[]
  cf := some (fileOf pool4 1 #[.nestMembers #[98]] #[{ accessFlags := 2, nameIndex := 7, descriptorIndex := 8, attributes := #[] }, { accessFlags := 9, nameIndex := 201, descriptorIndex := 121, attributes := #[] }] 49 4 #[] #[{ accessFlags := 25, nameIndex := 354, descriptorIndex := 339, attributes := #[] }, { accessFlags := 25, nameIndex := 358, descriptorIndex := 339, attributes := #[] }, { accessFlags := 25, nameIndex := 361, descriptorIndex := 339, attributes := #[] }, { accessFlags := 26, nameIndex := 364, descriptorIndex := 339, attributes := #[] }, { accessFlags := 26, nameIndex := 365, descriptorIndex := 339, attributes := #[] }, { accessFlags := 26, nameIndex := 172, descriptorIndex := 173, attributes := #[] }, { accessFlags := 26, nameIndex := 176, descriptorIndex := 173, attributes := #[] }, { accessFlags := 8, nameIndex := 344, descriptorIndex := 339, attributes := #[] }, { accessFlags := 8, nameIndex := 338, descriptorIndex := 339, attributes := #[] }, { accessFlags := 4120, nameIndex := 245, descriptorIndex := 246, attributes := #[] }])
  fields := #[{ name := "E", type := .double, accessFlags := 25, slot := 0, constantValue := 0 }, { name := "PI", type := .double, accessFlags := 25, slot := 1, constantValue := 0 }, { name := "TAU", type := .double, accessFlags := 25, slot := 2, constantValue := 0 }, { name := "DEGREES_TO_RADIANS", type := .double, accessFlags := 26, slot := 3, constantValue := 0 }, { name := "RADIANS_TO_DEGREES", type := .double, accessFlags := 26, slot := 4, constantValue := 0 }, { name := "negativeZeroFloatBits", type := .long, accessFlags := 26, slot := 5, constantValue := 0 }, { name := "negativeZeroDoubleBits", type := .long, accessFlags := 26, slot := 6, constantValue := 0 }, { name := "twoToTheDoubleScaleUp", type := .double, accessFlags := 8, slot := 7, constantValue := 0 }, { name := "twoToTheDoubleScaleDown", type := .double, accessFlags := 8, slot := 8, constantValue := 0 }, { name := "$assertionsDisabled", type := .boolean, accessFlags := 4120, slot := 9, constantValue := 0 }]
  methods := #[k4m0, k4m1]
  instanceTypes := #[]
  staticTypes := #[.double, .double, .double, .double, .double, .long, .long, .double, .double, .boolean]
  resolved := Array.replicate 460 none
  statics := none }

def pool5 : Array CpInfo := pool [(1, u "java/lang/Cloneable"), (0, .class_ 1), (0, u "java/lang/Object"), (0, .class_ 3)] 3

/-- java/lang/Cloneable -/
def k5 : Class := { plain "java/lang/Cloneable" (some 0) with
  accessFlags := 1537
  interfaces := #[]
  cf := some (fileOf pool5 2 #[] #[] 1537 4 #[] #[])
  fields := #[]
  methods := #[]
  instanceTypes := #[]
  staticTypes := #[]
  resolved := Array.replicate 8 none
  statics := none }

def pool6 : Array CpInfo := pool [(1, u "java/io/Serializable"), (0, .class_ 1), (0, u "java/lang/Object"), (0, .class_ 3)] 3

/-- java/io/Serializable -/
def k6 : Class := { plain "java/io/Serializable" (some 0) with
  accessFlags := 1537
  interfaces := #[]
  cf := some (fileOf pool6 2 #[] #[] 1537 4 #[] #[])
  fields := #[]
  methods := #[]
  instanceTypes := #[]
  staticTypes := #[]
  resolved := Array.replicate 8 none
  statics := none }

/-- the primitive byte -/
def k7 : Class := { plain "byte" none with kind := .primitive 'B', accessFlags := 0x411 }
/-- [B -/
def k8 : Class := { plain "[B" (some 0) with kind := .array 7 .byte, interfaces := #[5, 6], accessFlags := 1041 }

/-- the primitive int -/
def k9 : Class := { plain "int" none with kind := .primitive 'I', accessFlags := 0x411 }
/-- [I -/
def k10 : Class := { plain "[I" (some 0) with kind := .array 9 .int, interfaces := #[5, 6], accessFlags := 1041 }

def heap : Heap := #[]
def classes : Array Class := #[k0, k1, k2, k3, k4, k5, k6, k7, k8, k9, k10]
def interned : List (Array UInt16 × Addr) := []
def slotsUsed : Nat := 0
def theMethod : MethodId := ⟨1, 2⟩
def args0 : Array Value := #[.long 5, .int 3, .long 9, .long 7]
def aboutOver (below : List Frame) : State where
  vm := { classes := classes, interned := interned.toArray }
  heap := heap
  slotsUsed := slotsUsed
  threads := #[{ frames := .invoking theMethod args0 :: below }]
def below0 : List Frame := [.native { method := ⟨0, 0⟩, args := #[] }]
def about1 : State := aboutOver below0
def p0 : Program := .bare "" "" ""
def e0 : Env := launch0.env 0 0 0
theorem w_frames : about1.frames = Frame.invoking theMethod args0 :: below0 := rfl
set_option maxRecDepth 65536 in
theorem w_args : argsFit about1.vm theMethod args0 = true := by decide +kernel
set_option maxRecDepth 65536 in
theorem w_heap : heapFits about1 = true := by decide +kernel
set_option maxRecDepth 65536 in
theorem w_runnable : about1.curStatus? = some .runnable := by decide +kernel
set_option maxRecDepth 65536 in
theorem w_alone : about1.alone = true := by decide +kernel
set_option maxRecDepth 65536 in
theorem w_named : about1.methodNamed? x = some theMethod := by decide +kernel
set_option maxRecDepth 65536 in
theorem w_hears : about1.hears theMethod below0 = true := by decide +kernel
set_option maxRecDepth 65536 in
theorem w_ripe : about1.ripe theMethod args0 below0 = true := by decide +kernel
theorem w_running : about1.status = .running := rfl
set_option maxRecDepth 65536 in
theorem w_room : about1.hasRoom e0.platform room_1 = true :=
  launch0.hasRoom_least _ room_1 (by decide +kernel) (by decide +kernel) (by decide +kernel) (by decide +kernel) (by decide +kernel) (by decide +kernel)
theorem allAtoms_all (ts : List Jvm.Cond) (a : Array Jvm.Value) (st : Jvm.State) : (allAtoms ts).before a st = ts.all (fun c => c.before a st) := by
  induction ts with
  | nil => rfl
  | cons c t ih =>
    show (Jvm.Cond.and c (allAtoms t)).before a st = _
    rw [Jvm.Cond.before_and, ih, List.all_cons]
def words1 : List Jvm.Cond := Jvm.Cond.code x code maxLocals ret :: tables_1
/-- a 'code' word, met by the world's own term for the bytes: nothing is compared byte by byte -/
theorem code_word {y : MethodName} {bytes : ByteArray} {mx : Nat} {rt : Option FieldType} {a : Array Value} {s : State} {m : MethodId} {meth : Method} {c : Code} (h1 : s.methodNamed? y = some m) (h2 : s.vm.method? m = some meth) (h3 : meth.code = some c) (h4 : c.code = bytes)
    (h5 : (c.maxLocals == mx && c.exceptionTable.isEmpty && decide (c.maxStack ≤ mostOperands) && decide (meth.sig.returnType = rt) && !meth.locks && decide (parseMethodDescriptor y.desc = some meth.sig)) = true) : (Jvm.Cond.code y bytes mx rt).before a s = true := by
  simp only [Bool.and_eq_true, beq_iff_eq, Bool.not_eq_true', decide_eq_true_eq] at h5
  obtain ⟨⟨⟨⟨⟨g1, g2⟩, g3⟩, g4⟩, g5⟩, g6⟩ := h5
  simp [Cond.before, Cond.holds, Cond.value, h1, h2, h3, h4, g1, g2, g3, g4, g5, g6]
def isCode : Jvm.Cond → Bool
  | .code _ _ _ _ => true
  | _ => false
theorem all_split {L : List Jvm.Cond} {P : Jvm.Cond → Bool} (h1 : L.all (fun c => isCode c || P c) = true) (h2 : ∀ c ∈ L.filter isCode, P c = true) : L.all P = true := by
  refine List.all_eq_true.mpr fun c hc => ?_
  have h := List.all_eq_true.mp h1 c hc
  rcases Bool.eq_false_or_eq_true (isCode c) with hi | hi
  · exact h2 c (List.mem_filter.mpr ⟨hc, hi⟩)
  · simpa [hi] using h
set_option maxRecDepth 65536 in
theorem w_c0 : (Jvm.Cond.code x code maxLocals ret).before args0 about1 = true := code_word (m := ⟨1, 2⟩) (meth := k1m2) (c := k1c2) (by decide +kernel) rfl rfl rfl (by decide +kernel)
set_option maxRecDepth 65536 in
theorem w_c1 : (Jvm.Cond.code ({ cls := "com/example/chronotope/chronotope/TimeCondition", name := "<init>", desc := "(JZJ)V" } : Jvm.MethodName) prog_65_method_1_code (6 : Nat) (Option.none : Option Jvm.ClassFile.FieldType)).before args0 about1 = true := code_word (m := ⟨3, 0⟩) (meth := k3m0) (c := k3c0) (by decide +kernel) rfl rfl rfl (by decide +kernel)
set_option maxRecDepth 65536 in
theorem w_c2 : (Jvm.Cond.code ({ cls := "java/lang/Record", name := "<init>", desc := "()V" } : Jvm.MethodName) jdk_30_method_1_code (1 : Nat) (Option.none : Option Jvm.ClassFile.FieldType)).before args0 about1 = true := code_word (m := ⟨2, 0⟩) (meth := k2m0) (c := k2c0) (by decide +kernel) rfl rfl rfl (by decide +kernel)
set_option maxRecDepth 65536 in
theorem w_c3 : (Jvm.Cond.code ({ cls := "java/lang/Object", name := "<init>", desc := "()V" } : Jvm.MethodName) object_method_1_code (1 : Nat) (Option.none : Option Jvm.ClassFile.FieldType)).before args0 about1 = true := code_word (m := ⟨0, 0⟩) (meth := k0m0) (c := k0c0) (by decide +kernel) rfl rfl rfl (by decide +kernel)
set_option maxRecDepth 65536 in
theorem w_c4 : (Jvm.Cond.code ({ cls := "com/example/chronotope/chronotope/TimeCondition", name := "isEmpty", desc := "()Z" } : Jvm.MethodName) prog_65_method_7_code (1 : Nat) (Option.some Jvm.ClassFile.FieldType.boolean)).before args0 about1 = true := code_word (m := ⟨3, 2⟩) (meth := k3m2) (c := k3c2) (by decide +kernel) rfl rfl rfl (by decide +kernel)
set_option maxRecDepth 65536 in
theorem w_c5 : (Jvm.Cond.code ({ cls := "com/example/chronotope/chronotope/TimeConditionIsEmptyPinLaw", name := "hasInstant", desc := "(JZJ)Z" } : Jvm.MethodName) method_2_code (5 : Nat) (Option.some Jvm.ClassFile.FieldType.boolean)).before args0 about1 = true := code_word (m := ⟨1, 1⟩) (meth := k1m1) (c := k1c1) (by decide +kernel) rfl rfl rfl (by decide +kernel)
set_option maxRecDepth 65536 in
theorem w_c6 : (Jvm.Cond.code ({ cls := "java/lang/Math", name := "min", desc := "(JJ)J" } : Jvm.MethodName) jdk_29_method_70_code (4 : Nat) (Option.some Jvm.ClassFile.FieldType.long)).before args0 about1 = true := code_word (m := ⟨4, 1⟩) (meth := k4m1) (c := k4c1) (by decide +kernel) rfl rfl rfl (by decide +kernel)
set_option maxRecDepth 65536 in
theorem w_c7 : (Jvm.Cond.code ({ cls := "com/example/chronotope/chronotope/TimeCondition", name := "upTo", desc := "(J)Lcom/example/chronotope/chronotope/TimeCondition;" } : Jvm.MethodName) prog_65_method_6_code (3 : Nat) (Option.some (Jvm.ClassFile.FieldType.object "com/example/chronotope/chronotope/TimeCondition"))).before args0 about1 = true := code_word (m := ⟨3, 1⟩) (meth := k3m1) (c := k3c1) (by decide +kernel) rfl rfl rfl (by decide +kernel)
def codes1 : List Jvm.Cond := [Jvm.Cond.code x code maxLocals ret, Jvm.Cond.code ({ cls := "com/example/chronotope/chronotope/TimeCondition", name := "<init>", desc := "(JZJ)V" } : Jvm.MethodName) prog_65_method_1_code (6 : Nat) (Option.none : Option Jvm.ClassFile.FieldType), Jvm.Cond.code ({ cls := "java/lang/Record", name := "<init>", desc := "()V" } : Jvm.MethodName) jdk_30_method_1_code (1 : Nat) (Option.none : Option Jvm.ClassFile.FieldType), Jvm.Cond.code ({ cls := "java/lang/Object", name := "<init>", desc := "()V" } : Jvm.MethodName) object_method_1_code (1 : Nat) (Option.none : Option Jvm.ClassFile.FieldType), Jvm.Cond.code ({ cls := "com/example/chronotope/chronotope/TimeCondition", name := "isEmpty", desc := "()Z" } : Jvm.MethodName) prog_65_method_7_code (1 : Nat) (Option.some Jvm.ClassFile.FieldType.boolean), Jvm.Cond.code ({ cls := "com/example/chronotope/chronotope/TimeConditionIsEmptyPinLaw", name := "hasInstant", desc := "(JZJ)Z" } : Jvm.MethodName) method_2_code (5 : Nat) (Option.some Jvm.ClassFile.FieldType.boolean), Jvm.Cond.code ({ cls := "java/lang/Math", name := "min", desc := "(JJ)J" } : Jvm.MethodName) jdk_29_method_70_code (4 : Nat) (Option.some Jvm.ClassFile.FieldType.long), Jvm.Cond.code ({ cls := "com/example/chronotope/chronotope/TimeCondition", name := "upTo", desc := "(J)Lcom/example/chronotope/chronotope/TimeCondition;" } : Jvm.MethodName) prog_65_method_6_code (3 : Nat) (Option.some (Jvm.ClassFile.FieldType.object "com/example/chronotope/chronotope/TimeCondition"))]
set_option maxRecDepth 65536 in
theorem codes_eq : words1.filter isCode = codes1 := rfl
theorem w_codes : ∀ c ∈ words1.filter isCode, c.before args0 about1 = true := by
  rw [codes_eq]
  intro c hc
  simp only [codes1, List.mem_cons, List.not_mem_nil, or_false] at hc
  rcases hc with rfl | rfl | rfl | rfl | rfl | rfl | rfl | rfl
  · exact w_c0
  · exact w_c1
  · exact w_c2
  · exact w_c3
  · exact w_c4
  · exact w_c5
  · exact w_c6
  · exact w_c7
set_option maxRecDepth 65536 in
theorem w_t1 : (words1.take 24).all (fun c => isCode c || c.before args0 about1) = true := by decide +kernel
set_option maxRecDepth 65536 in
theorem w_t2 : (words1.drop 24).all (fun c => isCode c || c.before args0 about1) = true := by decide +kernel
theorem w_tables : (allAtoms (Jvm.Cond.code x code maxLocals ret :: tables_1)).before args0 about1 = true := by
  rw [allAtoms_all]
  show words1.all (fun c => c.before args0 about1) = true
  refine all_split ?_ w_codes
  rw [← List.take_append_drop 24 words1, List.all_append, w_t1, w_t2]
  rfl
set_option maxRecDepth 65536 in
theorem w_case : (Jvm.Cond.and given_1 narrow_1).before args0 about1 = true := by decide +kernel
theorem w_applies : (headSpec (Jvm.Cond.code x code maxLocals ret :: tables_1) room_1).applies x e0.platform about1 = true :=
  (Spec.applies_iff w_frames).mpr ⟨w_running, w_runnable, w_alone, w_named, w_hears, w_ripe, w_room, w_tables⟩
theorem atStart : AtStart classFile x code maxLocals ret World_1 tables_1 room_1 Calls_1 rest_1 Pre_1 launch0 p0 e0 about1 theMethod args0 below0 :=
  ⟨lists_1, trivial, launch0.admits_env _ _ _, launch0.least_env, fairChoices_fair.cas, fairChoices_fair.clock, w_frames, w_args, w_heap, w_applies, trivial, trivial, w_case⟩
end start1
theorem witness_1 : WitnessClaimed_1 := ⟨start1.p0, start1.e0, start1.about1, start1.theMethod, start1.args0, start1.below0, start1.atStart⟩
end Jvm.Pilot.@@N@@
