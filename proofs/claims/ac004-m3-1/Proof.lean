import JvmDerived
import JvmDerived.Pilot.@@N@@Statement
import JvmDerived.Pilot.@@N@@Code
set_option linter.unusedVariables false
set_option linter.unusedSimpArgs false
namespace Jvm.Pilot.@@N@@
open Jvm Jvm.ClassFile Sem Op Lib Jvm.Free Jvm.Stand Jvm.LawKit Jvm.RoadKit Bundle Jvm.Pilot.@@N@@.Jvm.D
/-! the walk in the form of what is still to be run: own_Go T g says that the run from the frame g on T ends as promised -/
section OwnKit
variable {p : Program} {l : Launch} {e : Env} {R : Room} {s : State} {m : MethodId} {args : Array Value} {below : List Frame} {meth : Method} {c : Code} {T : State} {locs : List Loc} {cells slots : Nat} {Z : State} {h : Heap} {a0 : Array Value} {Q : Option Value → Heap → List Loc → Prop} {cm sm : Nat}
def own_Go (p : Program) (e : Env) (s : State) (below : List Frame) (Q : Option Value → Heap → List Loc → Prop) (cm sm : Nat) (T : State) (g : JFrame) : Prop :=
  ∃ (U : State) (o : Outcome), Steps p.tables e below (T.setTop g) U ∧ U.status = .running ∧ Ended U below o ∧ ∃ v L, o = .returned v ∧ Q v U.heap L ∧ FrameEnd s o U L cm sm
theorem own_st {T' : State} {g g' : JFrame} (h : ∀ t, Steps p.tables e below (T'.setTop g') t → Steps p.tables e below (T.setTop g) t) (k : own_Go p e s below Q cm sm T' g') : own_Go p e s below Q cm sm T g := by
  obtain ⟨U, o, h1, h2⟩ := k
  exact ⟨U, o, h U h1, h2⟩
abbrev own_Met (l : Launch) (Z : State) (y : MethodName) (bytes : ByteArray) (ml : Nat) (ret : Option FieldType) (rm : Room) (ws : List Jvm.Cond) (as : Array Value) (h : Heap) (Q : Option Value → Heap → List Loc → Prop) (cm sm : Nat) : Prop :=
  MetFree l y (head1 (Jvm.Cond.code y bytes ml ret :: ws) rm) (fun a U => a = as ∧ Z.Warmed39 U.vm ∧ U.heap = h) (fun _ _ _ _ _ => True) (fun _ U o U' => ∃ v L, o = .returned v ∧ Q v U'.heap L ∧ FrameEnd U o U' L cm sm)
theorem own_enter {y : MethodName} {bytes : ByteArray} {ml : Nat} {ret : Option FieldType} {rm : Room} {ws : List Jvm.Cond} {as : Array Value} {Ls : Array Slot}
    (hp : plainFor y = true) (hef : ∀ m, entryFrame m as ml = mkF m 0 Ls [])
    (body : ∀ (p : Program) (e : Env) (s : State) (m : MethodId) (below : List Frame) (meth : Method) (c : Code) (T : State), p.tables.exec = Jvm.exec → c.code = bytes → c.maxLocals = ml → s.vm.findClass y.cls = some m.cls → meth.name = y.name → meth.sig.returnType = ret → meth.locks = false → Z.Warmed39 s.vm →
      Stand p l e rm s m as below meth c T [] 0 0 → T.heap = h → own_Go p e s below Q cm sm T (mkF m 0 Ls [])) :
    own_Met l Z y bytes ml ret rm ws as h Q cm sm := by
  refine MetFree.of_bodySF hp hisR ?_
  intro p e s m args below meth c s₁ Bd hml0 hP hK
  obtain ⟨rfl, hZ, hh⟩ := hP
  obtain ⟨U, o, h1, h2⟩ := body p e s m below meth c s₁ Bd.exec Bd.bytes hml0 (findClass_of_methodNamed Bd.named) (name_of_methodNamed Bd.named Bd.method).1 Bd.returns (BodyLoose.notSynchronized Bd) hZ (Stand.of_body Bd) (by rw [← hh, Bd.state]; rfl)
  exact ⟨U, o, castTop (hef m) h1, h2⟩
/-! returns -/
theorem own_retN (X : Stand p l e R s m args below meth c T locs cells slots) (hx : p.tables.exec = Jvm.exec) (hlk : meth.locks = false) {t : FieldType} (hret : meth.sig.returnType = some t) (ht : t = .boolean ∨ t = .byte ∨ t = .char ∨ t = .short) {pc : Nat} {Ls : Array Slot} {z z' : Int32} {rest : List Value}
    (hd : decode c.code pc = .ok (.ireturn, 1)) (hz : nar t z = z') (hc : cells ≤ cm) (hs : slots ≤ sm) (hQ : Q (some (.int z')) T.heap locs) : own_Go p e s below Q cm sm T (mkF m pc Ls (.int z :: rest)) := by
  subst hz
  obtain ⟨fs, hr, hrun, hended, hW, hsame⟩ := X.leave (v := some (.int (nar t z))) (fun h => by rw [hret] at h; cases h) hlk
  exact ⟨_, _, retN X hx hret ht hd hr, hrun, hended, _, _, rfl, hQ, ⟨_, rfl⟩, hW, hsame.mono hc hs⟩
theorem own_retI (X : Stand p l e R s m args below meth c T locs cells slots) (hx : p.tables.exec = Jvm.exec) (hlk : meth.locks = false) (hret : meth.sig.returnType = some .int) {pc : Nat} {Ls : Array Slot} {z : Int32} {rest : List Value}
    (hd : decode c.code pc = .ok (.ireturn, 1)) (hc : cells ≤ cm) (hs : slots ≤ sm) (hQ : Q (some (.int z)) T.heap locs) : own_Go p e s below Q cm sm T (mkF m pc Ls (.int z :: rest)) := by
  obtain ⟨fs, hr, hrun, hended, hW, hsame⟩ := X.leave (v := some (.int z)) (fun h => by rw [hret] at h; cases h) hlk
  exact ⟨_, _, retOut X hx hret rfl (Or.inl ⟨rfl, Or.inl rfl, _, rfl⟩) hd hr, hrun, hended, _, _, rfl, hQ, ⟨_, rfl⟩, hW, hsame.mono hc hs⟩
theorem own_retJ (X : Stand p l e R s m args below meth c T locs cells slots) (hx : p.tables.exec = Jvm.exec) (hlk : meth.locks = false) (hret : meth.sig.returnType = some .long) {pc : Nat} {Ls : Array Slot} {z : Int64} {rest : List Value}
    (hd : decode c.code pc = .ok (.lreturn, 1)) (hc : cells ≤ cm) (hs : slots ≤ sm) (hQ : Q (some (.long z)) T.heap locs) : own_Go p e s below Q cm sm T (mkF m pc Ls (.long z :: rest)) := by
  obtain ⟨fs, hr, hrun, hended, hW, hsame⟩ := X.leave (v := some (.long z)) (fun h => by rw [hret] at h; cases h) hlk
  exact ⟨_, _, retOut X hx hret rfl (Or.inr (Or.inl ⟨rfl, rfl, _, rfl⟩)) hd hr, hrun, hended, _, _, rfl, hQ, ⟨_, rfl⟩, hW, hsame.mono hc hs⟩
theorem own_retR (X : Stand p l e R s m args below meth c T locs cells slots) (hx : p.tables.exec = Jvm.exec) (hlk : meth.locks = false) {t : FieldType} (hret : meth.sig.returnType = some t) (ht : t.isReference = true) {pc : Nat} {Ls : Array Slot} {w : Value} (hw : w.isRef = true) (hn : narrow t w = w) {rest : List Value}
    (hd : decode c.code pc = .ok (.areturn, 1)) (hc : cells ≤ cm) (hs : slots ≤ sm) (hQ : Q (some w) T.heap locs) : own_Go p e s below Q cm sm T (mkF m pc Ls (w :: rest)) := by
  obtain ⟨fs, hr, hrun, hended, hW, hsame⟩ := X.leave (v := some w) (fun h => by rw [hret] at h; cases h) hlk
  exact ⟨_, _, retOut X hx hret hn (Or.inr (Or.inr (Or.inr (Or.inr ⟨rfl, ht, hw⟩)))) hd hr, hrun, hended, _, _, rfl, hQ, ⟨_, rfl⟩, hW, hsame.mono hc hs⟩
theorem own_ret0 (X : Stand p l e R s m args below meth c T locs cells slots) (hx : p.tables.exec = Jvm.exec) (hlk : meth.locks = false) (hret : meth.sig.returnType = none) {pc : Nat} {Ls : Array Slot}
    (hd : decode c.code pc = .ok (.return_, 1)) (hc : cells ≤ cm) (hs : slots ≤ sm) (hQ : Q none T.heap locs) : own_Go p e s below Q cm sm T (mkF m pc Ls []) := by
  obtain ⟨fs, hr, hrun, hended, hW, hsame⟩ := X.leave (v := none) (fun _ => rfl) hlk
  exact ⟨_, _, X.returnOut hx hret hd hr, hrun, hended, _, _, rfl, hQ, ⟨_, rfl⟩, hW, hsame.mono hc hs⟩
/-! calls by the callee's contract -/
theorem own_callS (X : Stand p l e R s m args below meth c T locs cells slots) (hx : p.tables.exec = Jvm.exec) (hZ : Z.Warmed39 s.vm) {own : String} {index : Nat} {y : MethodName} {bytes : ByteArray} {maxL : Nat} {ret : Option FieldType} (hown : s.vm.findClass own = some m.cls)
    (w1 : (Jvm.Cond.methodLink own index y).before a0 Z = true) (w2 : (Jvm.Cond.static y).before a0 Z = true) (w3 : (Jvm.Cond.initialized y.cls).before a0 Z = true) (w4 : (Jvm.Cond.code y bytes maxL ret).before a0 Z = true)
    (hy : y.cls ≠ "java/lang/invoke/MethodHandle" ∧ y.cls ≠ "java/lang/invoke/VarHandle") {rm : Room} {as : Array Value} {Qc : Option Value → Heap → List Loc → Prop} (eT : T.heap = h)
    (hM : own_Met l Z y bytes maxL ret rm [] as h Qc rm.cells rm.slots) (W : Nat) (hf : rm.frames + 1 ≤ R.frames) (hl : W + (maxL + 11) + rm.locals ≤ R.locals)
    {g : JFrame} (hg : g.method = m) (hsize : g.locals.size = c.maxLocals) {argsL rest : List Value} {ps : List FieldType} {r : Option FieldType} (hpd : parseMethodDescriptor y.desc = some ⟨ps, r⟩) (hlen : argsL.length = ps.length) (has : argsL.toArray = as)
    (hstack : g.stack = argsL.reverse ++ rest) (hW : 2 * g.monitorRoom + (rest.map fun v => v.category).sum ≤ W) (hdg : decode c.code g.pc = .ok (.invokestatic index, 3)) (hc : cells + rm.cells ≤ R.cells) (hs : slots + rm.slots ≤ R.slots)
    (k : ∀ (T' : State) (v : Option Value) (Lc : List Loc), Stand p l e R s m args below meth c T' (locs ++ Lc) (cells + rm.cells) (slots + rm.slots) → Qc v T'.heap Lc → own_Go p e s below Q cm sm T' { g with pc := g.pc + 3, stack := v.toList ++ rest }) :
    own_Go p e s below Q cm sm T g := by
  obtain ⟨v, _, ⟨T', L', k', n'⟩, -, X', ⟨Lc, hQ, l1, y1, z1⟩, st⟩ := Jvm.LawKit.callS X hx (y := y) hown (mvT hZ w1) (mvT hZ w2) (mvT hZ w3) (mvT hZ w4) hy (backOf (W := W) hM hZ w4 w3 hf hl) hg hsize (argsL := argsL) (rest := rest) (lenOf hpd hlen) hstack hW hdg (fun _ _ => ⟨has, eT, hc, hs⟩)
  dsimp only [Pt.U, Pt.locs, Pt.cells, Pt.slots] at X' l1 y1 z1 st hQ
  subst l1 y1 z1
  exact own_st st (k T' v Lc X' hQ)
theorem own_callN (X : Stand p l e R s m args below meth c T locs cells slots) (hx : p.tables.exec = Jvm.exec) (hZ : Z.Warmed39 s.vm) {own : String} {index : Nat} {y : MethodName} {bytes : ByteArray} {maxL : Nat} (hy1 : y.name = "<init>") (hown : s.vm.findClass own = some m.cls)
    (w1 : (Jvm.Cond.methodLink own index y).before a0 Z = true) (w2 : (Jvm.Cond.instanceMethod y).before a0 Z = true) (w3 : (Jvm.Cond.initialized y.cls).before a0 Z = true) (w4 : (Jvm.Cond.code y bytes maxL none).before a0 Z = true)
    (hy : y.cls ≠ "java/lang/invoke/MethodHandle" ∧ y.cls ≠ "java/lang/invoke/VarHandle") {rm : Room} {as : Array Value} {Qc : Option Value → Heap → List Loc → Prop} (eT : T.heap = h)
    (hM : own_Met l Z y bytes maxL none rm [] as h Qc rm.cells rm.slots) (W : Nat) (hf : rm.frames + 1 ≤ R.frames) (hl : W + (maxL + 11) + rm.locals ≤ R.locals)
    {g : JFrame} (hg : g.method = m) (hsize : g.locals.size = c.maxLocals) {a : Addr} {argsL rest : List Value} {ps : List FieldType} {r : Option FieldType} (hpd : parseMethodDescriptor y.desc = some ⟨ps, r⟩) (hlen : argsL.length = ps.length) (has : (Value.ref a :: argsL).toArray = as)
    (hstack : g.stack = argsL.reverse ++ .ref a :: rest) (hW : 2 * g.monitorRoom + (rest.map fun v => v.category).sum ≤ W) (hdg : decode c.code g.pc = .ok (.invokespecial index, 3)) (hc : cells + rm.cells ≤ R.cells) (hs : slots + rm.slots ≤ R.slots)
    (k : ∀ (T' : State) (v : Option Value) (Lc : List Loc), Stand p l e R s m args below meth c T' (locs ++ Lc) (cells + rm.cells) (slots + rm.slots) → Qc v T'.heap Lc → own_Go p e s below Q cm sm T' { g with pc := g.pc + 3, stack := v.toList ++ rest }) :
    own_Go p e s below Q cm sm T g := by
  obtain ⟨v, _, ⟨T', L', k', n'⟩, -, X', ⟨Lc, hQ, l1, y1, z1⟩, st⟩ := X.specialBack hx (y := y) hy1 hown (mvT hZ w1) (mvT hZ w2) (mvT hZ w4) hy (backOf (W := W) hM hZ w4 w3 hf hl) hg hsize (Steps.refl _) (a := a) (argsL := argsL) (rest := rest) (lenOf hpd hlen) hstack hW hdg (fun _ _ => ⟨has, eT, hc, hs⟩)
  dsimp only [Pt.U, Pt.locs, Pt.cells, Pt.slots] at X' l1 y1 z1 st hQ
  subst l1 y1 z1
  exact own_st (fun _ q => st.trans q) (k T' v Lc X' hQ)
theorem own_callV (X : Stand p l e R s m args below meth c T locs cells slots) (hx : p.tables.exec = Jvm.exec) (hZ : Z.Warmed39 s.vm) {own C : String} {index : Nat} {y : MethodName} {bytes : ByteArray} {maxL : Nat} {ret : Option FieldType} (hown : s.vm.findClass own = some m.cls)
    (w1 : (Jvm.Cond.methodLink own index y).before a0 Z = true) (w2 : (Jvm.Cond.declares y).before a0 Z = true) (w5 : (Jvm.Cond.selects C y y).before a0 Z = true) (w6 : (Jvm.Cond.instanceMethod y).before a0 Z = true) (w3 : (Jvm.Cond.initialized y.cls).before a0 Z = true) (w4 : (Jvm.Cond.code y bytes maxL ret).before a0 Z = true)
    (hy : y.cls ≠ "java/lang/invoke/MethodHandle" ∧ y.cls ≠ "java/lang/invoke/VarHandle") {rm : Room} {as : Array Value} {Qc : Option Value → Heap → List Loc → Prop} (eT : T.heap = h)
    (hM : own_Met l Z y bytes maxL ret rm [] as h Qc rm.cells rm.slots) (W : Nat) (hf : rm.frames + 1 ≤ R.frames) (hl : W + (maxL + 11) + rm.locals ≤ R.locals) {a : Addr} (E : Exa Z h a C)
    {g : JFrame} (hg : g.method = m) (hsize : g.locals.size = c.maxLocals) {argsL rest : List Value} {ps : List FieldType} {r : Option FieldType} (hpd : parseMethodDescriptor y.desc = some ⟨ps, r⟩) (hlen : argsL.length = ps.length) (has : (Value.ref a :: argsL).toArray = as)
    (hstack : g.stack = argsL.reverse ++ .ref a :: rest) (hW : 2 * g.monitorRoom + (rest.map fun v => v.category).sum ≤ W) (hdg : decode c.code g.pc = .ok (.invokevirtual index, 3)) (hc : cells + rm.cells ≤ R.cells) (hs : slots + rm.slots ≤ R.slots)
    (k : ∀ (T' : State) (v : Option Value) (Lc : List Loc), Stand p l e R s m args below meth c T' (locs ++ Lc) (cells + rm.cells) (slots + rm.slots) → Qc v T'.heap Lc → own_Go p e s below Q cm sm T' { g with pc := g.pc + 3, stack := v.toList ++ rest }) :
    own_Go p e s below Q cm sm T g := by
  obtain ⟨cq, kq, qa, qb, qc⟩ := isOf hZ eT E
  obtain ⟨v, _, ⟨T', L', k', n'⟩, -, X', ⟨Lc, hQ, l1, y1, z1⟩, st⟩ := X.virtualBack hx (y := y) (z := y) hown (mvT hZ w1) (mvT hZ w2) (notFace_of_selects (args := #[]) (mvT hZ w5)) (mvT hZ w5) (mvT hZ w6) hy (backOf (W := W) hM hZ w4 w3 hf hl) qa qc hg hsize (Steps.refl _) (argsL := argsL) (rest := rest) (lenOf hpd hlen) hstack hW hdg (fun _ _ => ⟨has, eT, hc, hs⟩)
  dsimp only [Pt.U, Pt.locs, Pt.cells, Pt.slots] at X' l1 y1 z1 st hQ
  subst l1 y1 z1
  exact own_st (fun _ q => st.trans q) (k T' v Lc X' hQ)
/-! arrays by the list of their values -/
theorem own_ix {n j : Int32} {vs : List Value} {d : Value} {a : Addr} {k : ClassId} {ty : FieldType} (V : Arv Z h a k ty n vs d) (hj : ¬ j < 0 ∧ j < n) : ∃ cl : Cell, Arr Z h a cl ty ∧ ¬ (j < 0 ∨ cl.slots.size ≤ j.toNatClampNeg) ∧ cl.slots[j.toNatClampNeg]? = some (vs.getD j.toNatClampNeg d) := by
  obtain ⟨cl, A, -, S, N, H, -⟩ := V
  have q := inb_of S hj
  exact ⟨cl, A, q, H _ (Nat.lt_of_not_le fun y => q (Or.inr y))⟩
theorem own_len (X : Stand p l e R s m args below meth c T locs cells slots) (hx : p.tables.exec = Jvm.exec) (hZ : Z.Warmed39 s.vm) (eT : T.heap = h) {a : Addr} {k : ClassId} {ty : FieldType} {n : Int32} {vs : List Value} {d : Value} (V : Arv Z h a k ty n vs d)
    {g : JFrame} (hg : g.method = m) {rest : List Value} (hs : g.stack = .ref a :: rest) (hd : decode c.code g.pc = .ok (.arraylength, 1)) :
    ∀ t, Steps p.tables e below (T.setTop { g with pc := g.pc + 1, stack := .int n :: rest }) t → Steps p.tables e below (T.setTop g) t := by
  obtain ⟨cl, A, -, S, N, -, -⟩ := V
  intro t k
  refine X.arraylength hx (by rw [eT]; exact A.1) (State.isArrayOf_alike hZ.alike A.2.1) hg hs hd t ?_
  rw [len_of S N]; exact k
theorem own_ldI (X : Stand p l e R s m args below meth c T locs cells slots) (hx : p.tables.exec = Jvm.exec) (hZ : Z.Warmed39 s.vm) (eT : T.heap = h) {a : Addr} {k : ClassId} {n : Int32} {vs : List Value} {d : Value} (V : Arv Z h a k .int n vs d) {j x : Int32} (hj : ¬ j < 0 ∧ j < n) (hv : vs.getD j.toNatClampNeg d = .int x)
    {g : JFrame} (hg : g.method = m) {rest : List Value} (hs : g.stack = .int j :: .ref a :: rest) (hd : decode c.code g.pc = .ok (.iaload, 1)) :
    ∀ t, Steps p.tables e below (T.setTop { g with pc := g.pc + 1, stack := .int x :: rest }) t → Steps p.tables e below (T.setTop g) t := by
  obtain ⟨cl, A, q, H⟩ := own_ix V hj
  exact X.iaload hx (j := j) (v := .int x) (by rw [eT]; exact A.1) (State.isArrayOf_alike hZ.alike A.2.1) A.2.2 q (hv ▸ H) hg hs hd
theorem own_ldB (X : Stand p l e R s m args below meth c T locs cells slots) (hx : p.tables.exec = Jvm.exec) (hZ : Z.Warmed39 s.vm) (eT : T.heap = h) {a : Addr} {k : ClassId} {n : Int32} {vs : List Value} {d : Value} (V : Arv Z h a k .byte n vs d) {j x : Int32} (hj : ¬ j < 0 ∧ j < n) (hv : vs.getD j.toNatClampNeg d = .int x)
    {g : JFrame} (hg : g.method = m) {rest : List Value} (hs : g.stack = .int j :: .ref a :: rest) (hd : decode c.code g.pc = .ok (.baload, 1)) :
    ∀ t, Steps p.tables e below (T.setTop { g with pc := g.pc + 1, stack := .int x :: rest }) t → Steps p.tables e below (T.setTop g) t := by
  obtain ⟨cl, A, q, H⟩ := own_ix V hj
  exact X.baloadBytes hx (j := j) (v := .int x) (by rw [eT]; exact A.1) (State.isArrayOf_alike hZ.alike A.2.1) A.2.2 q (hv ▸ H) hg hs hd
theorem own_ldJ (X : Stand p l e R s m args below meth c T locs cells slots) (hx : p.tables.exec = Jvm.exec) (hZ : Z.Warmed39 s.vm) (eT : T.heap = h) {a : Addr} {k : ClassId} {n : Int32} {vs : List Value} {d : Value} (V : Arv Z h a k .long n vs d) {j : Int32} {x : Int64} (hj : ¬ j < 0 ∧ j < n) (hv : vs.getD j.toNatClampNeg d = .long x)
    {g : JFrame} (hg : g.method = m) {rest : List Value} (hs : g.stack = .int j :: .ref a :: rest) (hd : decode c.code g.pc = .ok (.laload, 1)) :
    ∀ t, Steps p.tables e below (T.setTop { g with pc := g.pc + 1, stack := .long x :: rest }) t → Steps p.tables e below (T.setTop g) t := by
  obtain ⟨cl, A, q, H⟩ := own_ix V hj
  exact X.laload hx (j := j) (v := .long x) (by rw [eT]; exact A.1) (State.isArrayOf_alike hZ.alike A.2.1) A.2.2 q (hv ▸ H) hg hs hd
theorem own_stI (X : Stand p l e R s m args below meth c T locs cells slots) (hx : p.tables.exec = Jvm.exec) (hZ : Z.Warmed39 s.vm) (eT : T.heap = h) {a : Addr} {k : ClassId} {n : Int32} {vs : List Value} {d : Value} (V : Arv Z h a k .int n vs d) {j x : Int32} (hj : ¬ j < 0 ∧ j < n) (hl : j.toNatClampNeg < vs.length)
    {g : JFrame} (hg : g.method = m) {rest : List Value} (hs : g.stack = .int x :: .int j :: .ref a :: rest) (hd : decode c.code g.pc = .ok (.iastore, 1)) :
    ∃ T' h', Stand p l e R s m args below meth c T' (locs ++ [⟨a, j.toNatClampNeg⟩]) cells slots ∧ T'.heap = h' ∧ Wr h h' a j.toNatClampNeg (.int x) ∧ Arv Z h' a k .int n (vs.set j.toNatClampNeg (.int x)) d ∧ ∀ t, Steps p.tables e below (T'.setTop { g with pc := g.pc + 1, stack := rest }) t → Steps p.tables e below (T.setTop g) t := by
  obtain ⟨cl, A, q1, S, N, H, G⟩ := V
  obtain ⟨T', h', X', e', W, st⟩ := stI X hx hZ eT A (j := j) (inb_of S hj) hg hs hd
  exact ⟨T', h', X', e', W, Arv.set A q1 S N H G rfl W _ rfl hl, st⟩
theorem own_stJ (X : Stand p l e R s m args below meth c T locs cells slots) (hx : p.tables.exec = Jvm.exec) (hZ : Z.Warmed39 s.vm) (eT : T.heap = h) {a : Addr} {k : ClassId} {n : Int32} {vs : List Value} {d : Value} (V : Arv Z h a k .long n vs d) {j : Int32} {x : Int64} (hj : ¬ j < 0 ∧ j < n) (hl : j.toNatClampNeg < vs.length)
    {g : JFrame} (hg : g.method = m) {rest : List Value} (hs : g.stack = .long x :: .int j :: .ref a :: rest) (hd : decode c.code g.pc = .ok (.lastore, 1)) :
    ∃ T' h', Stand p l e R s m args below meth c T' (locs ++ [⟨a, j.toNatClampNeg⟩]) cells slots ∧ T'.heap = h' ∧ Wr h h' a j.toNatClampNeg (.long x) ∧ Arv Z h' a k .long n (vs.set j.toNatClampNeg (.long x)) d ∧ ∀ t, Steps p.tables e below (T'.setTop { g with pc := g.pc + 1, stack := rest }) t → Steps p.tables e below (T.setTop g) t := by
  obtain ⟨cl, A, q1, S, N, H, G⟩ := V
  obtain ⟨T', h', X', e', W, st⟩ := stJ X hx hZ eT A (j := j) (inb_of S hj) hg hs hd
  exact ⟨T', h', X', e', W, Arv.set A q1 S N H G rfl W _ rfl hl, st⟩
theorem own_stB (X : Stand p l e R s m args below meth c T locs cells slots) (hx : p.tables.exec = Jvm.exec) (hZ : Z.Warmed39 s.vm) (eT : T.heap = h) {a : Addr} {k : ClassId} {n : Int32} {vs : List Value} {d : Value} (V : Arv Z h a k .byte n vs d) {j x x' : Int32} (hj : ¬ j < 0 ∧ j < n) (hl : j.toNatClampNeg < vs.length) (hn : x.toInt8.toInt32 = x')
    {g : JFrame} (hg : g.method = m) {rest : List Value} (hs : g.stack = .int x :: .int j :: .ref a :: rest) (hd : decode c.code g.pc = .ok (.bastore, 1)) :
    ∃ T' h', Stand p l e R s m args below meth c T' (locs ++ [⟨a, j.toNatClampNeg⟩]) cells slots ∧ T'.heap = h' ∧ Wr h h' a j.toNatClampNeg (.int x') ∧ Arv Z h' a k .byte n (vs.set j.toNatClampNeg (.int x')) d ∧ ∀ t, Steps p.tables e below (T'.setTop { g with pc := g.pc + 1, stack := rest }) t → Steps p.tables e below (T.setTop g) t := by
  subst hn
  obtain ⟨cl, A, q1, S, N, H, G⟩ := V
  obtain ⟨T', h', X', e', W, st⟩ := stB X hx hZ eT A (j := j) (inb_of S hj) hg hs hd
  exact ⟨T', h', X', e', W, Arv.set A q1 S N H G (fits_nar_byte _) W _ rfl hl, st⟩
theorem own_ldR (X : Stand p l e R s m args below meth c T locs cells slots) (hx : p.tables.exec = Jvm.exec) (hZ : Z.Warmed39 s.vm) (eT : T.heap = h) {a : Addr} {k : ClassId} {ty : FieldType} {n : Int32} {vs : List Value} {d : Value} (V : Arv Z h a k ty n vs d) (hty : ty.isReference = true) {j : Int32} {v : Value} (hj : ¬ j < 0 ∧ j < n) (hv : vs.getD j.toNatClampNeg d = v)
    {g : JFrame} (hg : g.method = m) {rest : List Value} (hs : g.stack = .int j :: .ref a :: rest) (hd : decode c.code g.pc = .ok (.aaload, 1)) :
    ∀ t, Steps p.tables e below (T.setTop { g with pc := g.pc + 1, stack := v :: rest }) t → Steps p.tables e below (T.setTop g) t := by
  obtain ⟨cl, A, q, H⟩ := own_ix V hj
  exact X.aaload hx (j := j) (v := v) (by rw [eT]; exact A.1) (State.isArrayOf_alike hZ.alike A.2.1) hty A.2.2 q (hv ▸ H) hg hs hd
theorem own_stR (X : Stand p l e R s m args below meth c T locs cells slots) (hx : p.tables.exec = Jvm.exec) (hZ : Z.Warmed39 s.vm) (eT : T.heap = h) {a : Addr} {k : ClassId} {ty : FieldType} {n : Int32} {vs : List Value} {d : Value} (V : Arv Z h a k ty n vs d) (hty : ty.isReference = true) {v : Value} (F : ∀ cl : Cell, Arr Z h a cl ty → cl.cls = k → Sto Z h a v) (hf : fits ty v = true) {j : Int32} (hj : ¬ j < 0 ∧ j < n) (hl : j.toNatClampNeg < vs.length)
    {g : JFrame} (hg : g.method = m) {rest : List Value} (hs : g.stack = v :: .int j :: .ref a :: rest) (hd : decode c.code g.pc = .ok (.aastore, 1)) :
    ∃ T' h', Stand p l e R s m args below meth c T' (locs ++ [⟨a, j.toNatClampNeg⟩]) cells slots ∧ T'.heap = h' ∧ Wr h h' a j.toNatClampNeg v ∧ Arv Z h' a k ty n (vs.set j.toNatClampNeg v) d ∧ ∀ t, Steps p.tables e below (T'.setTop { g with pc := g.pc + 1, stack := rest }) t → Steps p.tables e below (T.setTop g) t := by
  obtain ⟨cl, A, q1, S, N, H, G⟩ := V
  obtain ⟨T', h', X', e', W, st⟩ := stR X hx hZ eT A (j := j) (inb_of S hj) hty (F cl A q1) hg hs hd
  exact ⟨T', h', X', e', W, Arv.set A q1 S N H G hf W _ rfl hl, st⟩
/-! booleans -/
def own_b (P : Prop) [Decidable P] : Int32 := if P then 1 else 0
theorem own_bt {P : Prop} [Decidable P] (q : P) : own_b P = 1 := if_pos q
theorem own_bf {P : Prop} [Decidable P] (q : ¬ P) : own_b P = 0 := if_neg q
theorem own_bnar {P : Prop} [Decidable P] : nar .boolean (own_b P) = own_b P := by
  by_cases q : P
  · rw [own_bt q]; decide
  · rw [own_bf q]; decide
theorem own_bnw {P : Prop} [Decidable P] : narrow .boolean (.int (own_b P)) = .int (own_b P) := congrArg Value.int (own_bnar (P := P))
theorem own_by {P : Prop} [Decidable P] (q : P) : ifCond.holds .ne (own_b P) = true ∧ ifCond.holds .eq (own_b P) = false := by rw [own_bt q]; decide
theorem own_bn {P : Prop} [Decidable P] (q : ¬ P) : ifCond.holds .eq (own_b P) = true ∧ ifCond.holds .ne (own_b P) = false := by rw [own_bf q]; decide
theorem own_beq {P P' : Prop} [Decidable P] [Decidable P'] (q : P ↔ P') : own_b P = own_b P' := by
  by_cases r : P
  · rw [own_bt r, own_bt (q.mp r)]
  · rw [own_bf r, own_bf fun x => r (q.mpr x)]
end OwnKit

abbrev own_I (t : Int32) (q : Prop) : Prop := (t = 4 ∨ t = 5 ∨ t = 6) ∨ ((t = 7 ∨ t = 8) ∧ q)
def own_fx (t : Int32) : Int32 := if t = 4 then 1 else if t = 5 ∨ t = 6 then 2 else if t = 7 ∨ t = 8 then 4 else 8
theorem own_rng {t : Int32} (h1 : ¬ t < 4) (h2 : ¬ 11 < t) : t = 4 ∨ t = 5 ∨ t = 6 ∨ t = 7 ∨ t = 8 ∨ t = 9 ∨ t = 10 ∨ t = 11 := by
  simp only [Int32.lt_iff_toInt_lt, ← Int32.toInt_inj, Int32.reduceToInt] at h1 h2 ⊢
  omega
theorem d1_0 : decode prog_2_method_11_code 0 = .ok (.iload_n 1, 1) := by decide +kernel
theorem d1_1 : decode prog_2_method_11_code 1 = .ok (.tableswitch 50 4 8 #[35, 35, 35, 37, 37], 35) := by decide +kernel
theorem d1_36 : decode prog_2_method_11_code 36 = .ok (.iconst 1, 1) := by decide +kernel
theorem d1_37 : decode prog_2_method_11_code 37 = .ok (.ireturn, 1) := by decide +kernel
theorem d1_38 : decode prog_2_method_11_code 38 = .ok (.aload_n 0, 1) := by decide +kernel
theorem d1_39 : decode prog_2_method_11_code 39 = .ok (.getstatic 9, 3) := by decide +kernel
theorem d1_42 : decode prog_2_method_11_code 42 = .ok (.if_acmp .ne 7, 3) := by decide +kernel
theorem d1_45 : decode prog_2_method_11_code 45 = .ok (.iconst 1, 1) := by decide +kernel
theorem d1_46 : decode prog_2_method_11_code 46 = .ok (.goto 4, 3) := by decide +kernel
theorem d1_49 : decode prog_2_method_11_code 49 = .ok (.iconst 0, 1) := by decide +kernel
theorem d1_50 : decode prog_2_method_11_code 50 = .ok (.ireturn, 1) := by decide +kernel
theorem d1_51 : decode prog_2_method_11_code 51 = .ok (.iconst 0, 1) := by decide +kernel
theorem d1_52 : decode prog_2_method_11_code 52 = .ok (.ireturn, 1) := by decide +kernel
theorem pf1 : plainFor (⟨"com/example/fyris/fyris/BinaryFormat$Layout", "inlines", "(I)Z"⟩ : MethodName) = true := by first | (exact plainFor_of_name (by first | (simp [plainName, overriddenIn]; done) | decide +kernel)) | decide +kernel
theorem d2_0 : decode prog_1_method_5_code 0 = .ok (.iload_n 0, 1) := by decide +kernel
theorem d2_1 : decode prog_1_method_5_code 1 = .ok (.tableswitch 56 4 11 #[47, 49, 49, 51, 51, 53, 53, 53], 47) := by decide +kernel
theorem d2_48 : decode prog_1_method_5_code 48 = .ok (.iconst 1, 1) := by decide +kernel
theorem d2_49 : decode prog_1_method_5_code 49 = .ok (.ireturn, 1) := by decide +kernel
theorem d2_50 : decode prog_1_method_5_code 50 = .ok (.iconst 2, 1) := by decide +kernel
theorem d2_51 : decode prog_1_method_5_code 51 = .ok (.ireturn, 1) := by decide +kernel
theorem d2_52 : decode prog_1_method_5_code 52 = .ok (.iconst 4, 1) := by decide +kernel
theorem d2_53 : decode prog_1_method_5_code 53 = .ok (.ireturn, 1) := by decide +kernel
theorem d2_54 : decode prog_1_method_5_code 54 = .ok (.bipush 8, 2) := by decide +kernel
theorem d2_56 : decode prog_1_method_5_code 56 = .ok (.ireturn, 1) := by decide +kernel
theorem d2_57 : decode prog_1_method_5_code 57 = .ok (.new 9, 3) := by decide +kernel
theorem d2_60 : decode prog_1_method_5_code 60 = .ok (.dup, 1) := by decide +kernel
theorem d2_61 : decode prog_1_method_5_code 61 = .ok (.iload_n 0, 1) := by decide +kernel
theorem d2_62 : decode prog_1_method_5_code 62 = .ok (.invokedynamic 11, 5) := by decide +kernel
theorem d2_67 : decode prog_1_method_5_code 67 = .ok (.invokespecial 15, 3) := by decide +kernel
theorem d2_70 : decode prog_1_method_5_code 70 = .ok (.athrow, 1) := by decide +kernel
theorem pf2 : plainFor (⟨"com/example/fyris/fyris/BinaryFormat", "fixedSize", "(I)I"⟩ : MethodName) = true := by first | (exact plainFor_of_name (by first | (simp [plainName, overriddenIn]; done) | decide +kernel)) | decide +kernel
theorem d3_0 : decode prog_2_method_5_code 0 = .ok (.aload_n 0, 1) := by decide +kernel
theorem d3_1 : decode prog_2_method_5_code 1 = .ok (.getfield 31, 3) := by decide +kernel
theorem d3_4 : decode prog_2_method_5_code 4 = .ok (.ireturn, 1) := by decide +kernel
theorem pf3 : plainFor (⟨"com/example/fyris/fyris/BinaryFormat$Layout", "fieldSize", "()I"⟩ : MethodName) = true := by first | (exact plainFor_of_name (by first | (simp [plainName, overriddenIn]; done) | decide +kernel)) | decide +kernel
theorem pf0 : plainFor x = true := plainFor_of_name (by first | (simp [x, plainName, overriddenIn]; done) | decide +kernel)
theorem pd0 : parseMethodDescriptor "(I)Z" = some ⟨[.int], some .boolean⟩ := by decide +kernel
theorem pd1 : parseMethodDescriptor "(I)I" = some ⟨[.int], some .int⟩ := by decide +kernel
theorem pd2 : parseMethodDescriptor "()I" = some ⟨[], some .int⟩ := by decide +kernel
theorem ef_rm1 (m : MethodId) (z0 : Addr) (z1 : Int32) : entryFrame m #[(.ref z0), (.int z1)] 2 = mkF m 0 #[.val (.ref z0), .val (.int z1)] [] := by first | (simp [entryFrame, mkF, argsToLocals, Value.category]; done) | rfl
set_option maxRecDepth 65536 in
set_option maxHeartbeats 40000000 in
theorem rm1 (l : Launch) (Z : State) (a0 : Array Value) (hw : ∀ d ∈ tables_1, d.before a0 Z = true) (ws : List Jvm.Cond) (a aL : Addr) (t : Int32) (h0 : Heap) (n0 : Nat) (Z0 : n0 ≤ h0.size) (S_L : Sta Z h0 "com/example/fyris/fyris/BinaryFormat$Layout" "LARGE" "Lcom/example/fyris/fyris/BinaryFormat$Layout;" (.ref aL)) :
    own_Met l Z (⟨"com/example/fyris/fyris/BinaryFormat$Layout", "inlines", "(I)Z"⟩ : MethodName) prog_2_method_11_code 2 (some .boolean) ({ frames := 0, cells := 0, slots := 0, locals := 0 } : Room) ws #[(.ref a), (.int t)] h0 (fun v h L => v = some (.int (own_b (own_I t (a = aL)))) ∧ Fr n0 L ∧ h = h0) 0 0 := by
  refine own_enter pf1 (fun m => ef_rm1 m a t) ?_
  intro p e s m below meth c T0 hx hby hml hown hnm hret hlk hZ X0 e0
  have N0 := Fr.nil n0
  show own_Go p e s below _ _ _ T0 (mkF m 0 #[.val (.ref a), .val (.int t)] [])
  refine own_st (fun _ k => XS.iloadN X0.here hx rfl (hb hby d1_0) rfl k) ?_
  show own_Go p e s below _ _ _ T0 (mkF m 1 #[.val (.ref a), .val (.int t)] [(.int t)])
  by_cases k1 : t < 4
  · refine own_st (X0.tableswitchOut hx (g := (mkF m 1 #[.val (.ref a), .val (.int t)] [(.int t)])) rfl rfl (hb hby d1_1) (Or.inl (by have q := k1; simp only [Int32.lt_iff_toInt_lt, Int32.reduceToInt] at q; exact q)) (show (0 : Int) ≤ ((1 : Nat) : Int) + 50 by decide)) ?_
    show own_Go p e s below _ _ _ T0 (mkF m 51 #[.val (.ref a), .val (.int t)] [])
    refine own_st (fun _ k => XS.iconst X0.here hx rfl (hb hby d1_51) k) ?_
    show own_Go p e s below _ _ _ T0 (mkF m 52 #[.val (.ref a), .val (.int t)] [(.int (0 : Int32))])
    exact own_retN X0 hx hlk (t := .boolean) hret (by simp) (hb hby d1_52) (z' := (0 : Int32)) rfl (by decide) (by decide) ⟨by rw [own_bf (by simp only [own_I, Int32.lt_iff_toInt_lt, ← Int32.toInt_inj, Int32.reduceToInt] at k1 ⊢; omega)], N0, e0⟩
  by_cases k2 : 8 < t
  · refine own_st (X0.tableswitchOut hx (g := (mkF m 1 #[.val (.ref a), .val (.int t)] [(.int t)])) rfl rfl (hb hby d1_1) (Or.inr (by have q := k2; simp only [Int32.lt_iff_toInt_lt, Int32.reduceToInt] at q; exact q)) (show (0 : Int) ≤ ((1 : Nat) : Int) + 50 by decide)) ?_
    show own_Go p e s below _ _ _ T0 (mkF m 51 #[.val (.ref a), .val (.int t)] [])
    refine own_st (fun _ k => XS.iconst X0.here hx rfl (hb hby d1_51) k) ?_
    show own_Go p e s below _ _ _ T0 (mkF m 52 #[.val (.ref a), .val (.int t)] [(.int (0 : Int32))])
    exact own_retN X0 hx hlk (t := .boolean) hret (by simp) (hb hby d1_52) (z' := (0 : Int32)) rfl (by decide) (by decide) ⟨by rw [own_bf (by simp only [own_I, Int32.lt_iff_toInt_lt, ← Int32.toInt_inj, Int32.reduceToInt] at k2 ⊢; omega)], N0, e0⟩
  have k3 : t = 4 ∨ t = 5 ∨ t = 6 ∨ t = 7 ∨ t = 8 := by simp only [Int32.lt_iff_toInt_lt, ← Int32.toInt_inj, Int32.reduceToInt] at k1 k2 ⊢; omega
  rcases k3 with rfl | rfl | rfl | rfl | rfl
  · show own_Go p e s below _ _ _ T0 (mkF m 1 #[.val (.ref a), .val (.int (4 : Int32))] [(.int (4 : Int32))])
    refine own_st (X0.tableswitchIn hx (g := (mkF m 1 #[.val (.ref a), .val (.int (4 : Int32))] [(.int (4 : Int32))])) rfl rfl (hb hby d1_1) (by decide) (off := 35) (by decide) (show (0 : Int) ≤ ((1 : Nat) : Int) + 35 by decide)) ?_
    show own_Go p e s below _ _ _ T0 (mkF m 36 #[.val (.ref a), .val (.int (4 : Int32))] [])
    refine own_st (fun _ k => XS.iconst X0.here hx rfl (hb hby d1_36) k) ?_
    show own_Go p e s below _ _ _ T0 (mkF m 37 #[.val (.ref a), .val (.int (4 : Int32))] [(.int (1 : Int32))])
    exact own_retN X0 hx hlk (t := .boolean) hret (by simp) (hb hby d1_37) (z' := (1 : Int32)) rfl (by decide) (by decide) ⟨by rw [own_bt (Or.inl (by decide))], N0, e0⟩
  · show own_Go p e s below _ _ _ T0 (mkF m 1 #[.val (.ref a), .val (.int (5 : Int32))] [(.int (5 : Int32))])
    refine own_st (X0.tableswitchIn hx (g := (mkF m 1 #[.val (.ref a), .val (.int (5 : Int32))] [(.int (5 : Int32))])) rfl rfl (hb hby d1_1) (by decide) (off := 35) (by decide) (show (0 : Int) ≤ ((1 : Nat) : Int) + 35 by decide)) ?_
    show own_Go p e s below _ _ _ T0 (mkF m 36 #[.val (.ref a), .val (.int (5 : Int32))] [])
    refine own_st (fun _ k => XS.iconst X0.here hx rfl (hb hby d1_36) k) ?_
    show own_Go p e s below _ _ _ T0 (mkF m 37 #[.val (.ref a), .val (.int (5 : Int32))] [(.int (1 : Int32))])
    exact own_retN X0 hx hlk (t := .boolean) hret (by simp) (hb hby d1_37) (z' := (1 : Int32)) rfl (by decide) (by decide) ⟨by rw [own_bt (Or.inl (by decide))], N0, e0⟩
  · show own_Go p e s below _ _ _ T0 (mkF m 1 #[.val (.ref a), .val (.int (6 : Int32))] [(.int (6 : Int32))])
    refine own_st (X0.tableswitchIn hx (g := (mkF m 1 #[.val (.ref a), .val (.int (6 : Int32))] [(.int (6 : Int32))])) rfl rfl (hb hby d1_1) (by decide) (off := 35) (by decide) (show (0 : Int) ≤ ((1 : Nat) : Int) + 35 by decide)) ?_
    show own_Go p e s below _ _ _ T0 (mkF m 36 #[.val (.ref a), .val (.int (6 : Int32))] [])
    refine own_st (fun _ k => XS.iconst X0.here hx rfl (hb hby d1_36) k) ?_
    show own_Go p e s below _ _ _ T0 (mkF m 37 #[.val (.ref a), .val (.int (6 : Int32))] [(.int (1 : Int32))])
    exact own_retN X0 hx hlk (t := .boolean) hret (by simp) (hb hby d1_37) (z' := (1 : Int32)) rfl (by decide) (by decide) ⟨by rw [own_bt (Or.inl (by decide))], N0, e0⟩
  · show own_Go p e s below _ _ _ T0 (mkF m 1 #[.val (.ref a), .val (.int (7 : Int32))] [(.int (7 : Int32))])
    refine own_st (X0.tableswitchIn hx (g := (mkF m 1 #[.val (.ref a), .val (.int (7 : Int32))] [(.int (7 : Int32))])) rfl rfl (hb hby d1_1) (by decide) (off := 37) (by decide) (show (0 : Int) ≤ ((1 : Nat) : Int) + 37 by decide)) ?_
    show own_Go p e s below _ _ _ T0 (mkF m 38 #[.val (.ref a), .val (.int (7 : Int32))] [])
    refine own_st (fun _ k => XS.aloadN X0.here hx rfl (hb hby d1_38) rfl rfl k) ?_
    show own_Go p e s below _ _ _ T0 (mkF m 39 #[.val (.ref a), .val (.int (7 : Int32))] [(.ref a)])
    obtain ⟨T1, X1, e1, st1⟩ := getS2 X0 hx hZ hown (host := "") (Or.inl (hw _ (List.mem_of_getElem? (i := 21) rfl))) Via.refl e0 S_L (g := (mkF m 39 #[.val (.ref a), .val (.int (7 : Int32))] [(.ref a)])) rfl (hb hby d1_39)
    refine own_st st1 ?_
    show own_Go p e s below _ _ _ T1 (mkF m 42 #[.val (.ref a), .val (.int (7 : Int32))] [(.ref aL), (.ref a)])
    by_cases k4 : a = aL
    · refine own_st (fun _ k => Jvm.RoadKit.acmp (g := (mkF m 42 #[.val (.ref a), .val (.int (7 : Int32))] [(.ref aL), (.ref a)])) X1 hx rfl rfl rfl (pc0 := 42) (pc' := 45) (same := true) rfl (hb hby d1_42) rfl (decide_eq_true (congrArg Value.ref k4)) (by decide) (by decide) k) ?_
      show own_Go p e s below _ _ _ T1 (mkF m 45 #[.val (.ref a), .val (.int (7 : Int32))] [])
      refine own_st (fun _ k => XS.iconst X1.here hx rfl (hb hby d1_45) k) ?_
      show own_Go p e s below _ _ _ T1 (mkF m 46 #[.val (.ref a), .val (.int (7 : Int32))] [(.int (1 : Int32))])
      refine own_st (fun _ k => XS.goto X1.here hx rfl (pc0 := 46) (pc' := 50) rfl (hb hby d1_46) (by decide) (by decide) k) ?_
      show own_Go p e s below _ _ _ T1 (mkF m 50 #[.val (.ref a), .val (.int (7 : Int32))] [(.int (1 : Int32))])
      exact own_retN X1 hx hlk (t := .boolean) hret (by simp) (hb hby d1_50) (z' := (1 : Int32)) rfl (by decide) (by decide) ⟨by rw [own_bt (Or.inr ⟨by decide, k4⟩)], N0, e1⟩
    · refine own_st (fun _ k => Jvm.RoadKit.acmp (g := (mkF m 42 #[.val (.ref a), .val (.int (7 : Int32))] [(.ref aL), (.ref a)])) X1 hx rfl rfl rfl (pc0 := 42) (pc' := 49) (same := false) rfl (hb hby d1_42) rfl (decide_eq_false fun q => k4 (Value.ref.inj q)) (by decide) (by decide) k) ?_
      show own_Go p e s below _ _ _ T1 (mkF m 49 #[.val (.ref a), .val (.int (7 : Int32))] [])
      refine own_st (fun _ k => XS.iconst X1.here hx rfl (hb hby d1_49) k) ?_
      show own_Go p e s below _ _ _ T1 (mkF m 50 #[.val (.ref a), .val (.int (7 : Int32))] [(.int (0 : Int32))])
      exact own_retN X1 hx hlk (t := .boolean) hret (by simp) (hb hby d1_50) (z' := (0 : Int32)) rfl (by decide) (by decide) ⟨by rw [own_bf (fun q => q.elim (by decide) (fun q => k4 q.2))], N0, e1⟩
  · show own_Go p e s below _ _ _ T0 (mkF m 1 #[.val (.ref a), .val (.int (8 : Int32))] [(.int (8 : Int32))])
    refine own_st (X0.tableswitchIn hx (g := (mkF m 1 #[.val (.ref a), .val (.int (8 : Int32))] [(.int (8 : Int32))])) rfl rfl (hb hby d1_1) (by decide) (off := 37) (by decide) (show (0 : Int) ≤ ((1 : Nat) : Int) + 37 by decide)) ?_
    show own_Go p e s below _ _ _ T0 (mkF m 38 #[.val (.ref a), .val (.int (8 : Int32))] [])
    refine own_st (fun _ k => XS.aloadN X0.here hx rfl (hb hby d1_38) rfl rfl k) ?_
    show own_Go p e s below _ _ _ T0 (mkF m 39 #[.val (.ref a), .val (.int (8 : Int32))] [(.ref a)])
    obtain ⟨T2, X2, e2, st2⟩ := getS2 X0 hx hZ hown (host := "") (Or.inl (hw _ (List.mem_of_getElem? (i := 21) rfl))) Via.refl e0 S_L (g := (mkF m 39 #[.val (.ref a), .val (.int (8 : Int32))] [(.ref a)])) rfl (hb hby d1_39)
    refine own_st st2 ?_
    show own_Go p e s below _ _ _ T2 (mkF m 42 #[.val (.ref a), .val (.int (8 : Int32))] [(.ref aL), (.ref a)])
    by_cases k4 : a = aL
    · refine own_st (fun _ k => Jvm.RoadKit.acmp (g := (mkF m 42 #[.val (.ref a), .val (.int (8 : Int32))] [(.ref aL), (.ref a)])) X2 hx rfl rfl rfl (pc0 := 42) (pc' := 45) (same := true) rfl (hb hby d1_42) rfl (decide_eq_true (congrArg Value.ref k4)) (by decide) (by decide) k) ?_
      show own_Go p e s below _ _ _ T2 (mkF m 45 #[.val (.ref a), .val (.int (8 : Int32))] [])
      refine own_st (fun _ k => XS.iconst X2.here hx rfl (hb hby d1_45) k) ?_
      show own_Go p e s below _ _ _ T2 (mkF m 46 #[.val (.ref a), .val (.int (8 : Int32))] [(.int (1 : Int32))])
      refine own_st (fun _ k => XS.goto X2.here hx rfl (pc0 := 46) (pc' := 50) rfl (hb hby d1_46) (by decide) (by decide) k) ?_
      show own_Go p e s below _ _ _ T2 (mkF m 50 #[.val (.ref a), .val (.int (8 : Int32))] [(.int (1 : Int32))])
      exact own_retN X2 hx hlk (t := .boolean) hret (by simp) (hb hby d1_50) (z' := (1 : Int32)) rfl (by decide) (by decide) ⟨by rw [own_bt (Or.inr ⟨by decide, k4⟩)], N0, e2⟩
    · refine own_st (fun _ k => Jvm.RoadKit.acmp (g := (mkF m 42 #[.val (.ref a), .val (.int (8 : Int32))] [(.ref aL), (.ref a)])) X2 hx rfl rfl rfl (pc0 := 42) (pc' := 49) (same := false) rfl (hb hby d1_42) rfl (decide_eq_false fun q => k4 (Value.ref.inj q)) (by decide) (by decide) k) ?_
      show own_Go p e s below _ _ _ T2 (mkF m 49 #[.val (.ref a), .val (.int (8 : Int32))] [])
      refine own_st (fun _ k => XS.iconst X2.here hx rfl (hb hby d1_49) k) ?_
      show own_Go p e s below _ _ _ T2 (mkF m 50 #[.val (.ref a), .val (.int (8 : Int32))] [(.int (0 : Int32))])
      exact own_retN X2 hx hlk (t := .boolean) hret (by simp) (hb hby d1_50) (z' := (0 : Int32)) rfl (by decide) (by decide) ⟨by rw [own_bf (fun q => q.elim (by decide) (fun q => k4 q.2))], N0, e2⟩
theorem ef_rm2 (m : MethodId) (z0 : Int32) : entryFrame m #[(.int z0)] 1 = mkF m 0 #[.val (.int z0)] [] := by first | (simp [entryFrame, mkF, argsToLocals, Value.category]; done) | rfl
set_option maxRecDepth 65536 in
set_option maxHeartbeats 40000000 in
theorem rm2 (l : Launch) (Z : State) (a0 : Array Value) (hw : ∀ d ∈ tables_1, d.before a0 Z = true) (ws : List Jvm.Cond) (t : Int32) (h0 : Heap) (n0 : Nat) (Z0 : n0 ≤ h0.size) (ht : t = 4 ∨ t = 5 ∨ t = 6 ∨ t = 7 ∨ t = 8 ∨ t = 9 ∨ t = 10 ∨ t = 11) :
    own_Met l Z (⟨"com/example/fyris/fyris/BinaryFormat", "fixedSize", "(I)I"⟩ : MethodName) prog_1_method_5_code 1 (some .int) ({ frames := 0, cells := 0, slots := 0, locals := 0 } : Room) ws #[(.int t)] h0 (fun v h L => v = some (.int (own_fx t)) ∧ Fr n0 L ∧ h = h0) 0 0 := by
  refine own_enter pf2 (fun m => ef_rm2 m t) ?_
  intro p e s m below meth c T0 hx hby hml hown hnm hret hlk hZ X0 e0
  have N0 := Fr.nil n0
  show own_Go p e s below _ _ _ T0 (mkF m 0 #[.val (.int t)] [])
  refine own_st (fun _ k => XS.iloadN X0.here hx rfl (hb hby d2_0) rfl k) ?_
  show own_Go p e s below _ _ _ T0 (mkF m 1 #[.val (.int t)] [(.int t)])
  rcases ht with rfl | rfl | rfl | rfl | rfl | rfl | rfl | rfl
  · show own_Go p e s below _ _ _ T0 (mkF m 1 #[.val (.int (4 : Int32))] [(.int (4 : Int32))])
    refine own_st (X0.tableswitchIn hx (g := (mkF m 1 #[.val (.int (4 : Int32))] [(.int (4 : Int32))])) rfl rfl (hb hby d2_1) (by decide) (off := 47) (by decide) (show (0 : Int) ≤ ((1 : Nat) : Int) + 47 by decide)) ?_
    show own_Go p e s below _ _ _ T0 (mkF m 48 #[.val (.int (4 : Int32))] [])
    refine own_st (fun _ k => XS.iconst X0.here hx rfl (hb hby d2_48) k) ?_
    show own_Go p e s below _ _ _ T0 (mkF m 49 #[.val (.int (4 : Int32))] [(.int (1 : Int32))])
    exact own_retI X0 hx hlk hret (hb hby d2_49) (by decide) (by decide) ⟨rfl, N0, e0⟩
  · show own_Go p e s below _ _ _ T0 (mkF m 1 #[.val (.int (5 : Int32))] [(.int (5 : Int32))])
    refine own_st (X0.tableswitchIn hx (g := (mkF m 1 #[.val (.int (5 : Int32))] [(.int (5 : Int32))])) rfl rfl (hb hby d2_1) (by decide) (off := 49) (by decide) (show (0 : Int) ≤ ((1 : Nat) : Int) + 49 by decide)) ?_
    show own_Go p e s below _ _ _ T0 (mkF m 50 #[.val (.int (5 : Int32))] [])
    refine own_st (fun _ k => XS.iconst X0.here hx rfl (hb hby d2_50) k) ?_
    show own_Go p e s below _ _ _ T0 (mkF m 51 #[.val (.int (5 : Int32))] [(.int (2 : Int32))])
    exact own_retI X0 hx hlk hret (hb hby d2_51) (by decide) (by decide) ⟨rfl, N0, e0⟩
  · show own_Go p e s below _ _ _ T0 (mkF m 1 #[.val (.int (6 : Int32))] [(.int (6 : Int32))])
    refine own_st (X0.tableswitchIn hx (g := (mkF m 1 #[.val (.int (6 : Int32))] [(.int (6 : Int32))])) rfl rfl (hb hby d2_1) (by decide) (off := 49) (by decide) (show (0 : Int) ≤ ((1 : Nat) : Int) + 49 by decide)) ?_
    show own_Go p e s below _ _ _ T0 (mkF m 50 #[.val (.int (6 : Int32))] [])
    refine own_st (fun _ k => XS.iconst X0.here hx rfl (hb hby d2_50) k) ?_
    show own_Go p e s below _ _ _ T0 (mkF m 51 #[.val (.int (6 : Int32))] [(.int (2 : Int32))])
    exact own_retI X0 hx hlk hret (hb hby d2_51) (by decide) (by decide) ⟨rfl, N0, e0⟩
  · show own_Go p e s below _ _ _ T0 (mkF m 1 #[.val (.int (7 : Int32))] [(.int (7 : Int32))])
    refine own_st (X0.tableswitchIn hx (g := (mkF m 1 #[.val (.int (7 : Int32))] [(.int (7 : Int32))])) rfl rfl (hb hby d2_1) (by decide) (off := 51) (by decide) (show (0 : Int) ≤ ((1 : Nat) : Int) + 51 by decide)) ?_
    show own_Go p e s below _ _ _ T0 (mkF m 52 #[.val (.int (7 : Int32))] [])
    refine own_st (fun _ k => XS.iconst X0.here hx rfl (hb hby d2_52) k) ?_
    show own_Go p e s below _ _ _ T0 (mkF m 53 #[.val (.int (7 : Int32))] [(.int (4 : Int32))])
    exact own_retI X0 hx hlk hret (hb hby d2_53) (by decide) (by decide) ⟨rfl, N0, e0⟩
  · show own_Go p e s below _ _ _ T0 (mkF m 1 #[.val (.int (8 : Int32))] [(.int (8 : Int32))])
    refine own_st (X0.tableswitchIn hx (g := (mkF m 1 #[.val (.int (8 : Int32))] [(.int (8 : Int32))])) rfl rfl (hb hby d2_1) (by decide) (off := 51) (by decide) (show (0 : Int) ≤ ((1 : Nat) : Int) + 51 by decide)) ?_
    show own_Go p e s below _ _ _ T0 (mkF m 52 #[.val (.int (8 : Int32))] [])
    refine own_st (fun _ k => XS.iconst X0.here hx rfl (hb hby d2_52) k) ?_
    show own_Go p e s below _ _ _ T0 (mkF m 53 #[.val (.int (8 : Int32))] [(.int (4 : Int32))])
    exact own_retI X0 hx hlk hret (hb hby d2_53) (by decide) (by decide) ⟨rfl, N0, e0⟩
  · show own_Go p e s below _ _ _ T0 (mkF m 1 #[.val (.int (9 : Int32))] [(.int (9 : Int32))])
    refine own_st (X0.tableswitchIn hx (g := (mkF m 1 #[.val (.int (9 : Int32))] [(.int (9 : Int32))])) rfl rfl (hb hby d2_1) (by decide) (off := 53) (by decide) (show (0 : Int) ≤ ((1 : Nat) : Int) + 53 by decide)) ?_
    show own_Go p e s below _ _ _ T0 (mkF m 54 #[.val (.int (9 : Int32))] [])
    refine own_st (fun _ k => XS.bipush X0.here hx rfl (hb hby d2_54) k) ?_
    show own_Go p e s below _ _ _ T0 (mkF m 56 #[.val (.int (9 : Int32))] [(.int (8 : Int32))])
    exact own_retI X0 hx hlk hret (hb hby d2_56) (by decide) (by decide) ⟨rfl, N0, e0⟩
  · show own_Go p e s below _ _ _ T0 (mkF m 1 #[.val (.int (10 : Int32))] [(.int (10 : Int32))])
    refine own_st (X0.tableswitchIn hx (g := (mkF m 1 #[.val (.int (10 : Int32))] [(.int (10 : Int32))])) rfl rfl (hb hby d2_1) (by decide) (off := 53) (by decide) (show (0 : Int) ≤ ((1 : Nat) : Int) + 53 by decide)) ?_
    show own_Go p e s below _ _ _ T0 (mkF m 54 #[.val (.int (10 : Int32))] [])
    refine own_st (fun _ k => XS.bipush X0.here hx rfl (hb hby d2_54) k) ?_
    show own_Go p e s below _ _ _ T0 (mkF m 56 #[.val (.int (10 : Int32))] [(.int (8 : Int32))])
    exact own_retI X0 hx hlk hret (hb hby d2_56) (by decide) (by decide) ⟨rfl, N0, e0⟩
  · show own_Go p e s below _ _ _ T0 (mkF m 1 #[.val (.int (11 : Int32))] [(.int (11 : Int32))])
    refine own_st (X0.tableswitchIn hx (g := (mkF m 1 #[.val (.int (11 : Int32))] [(.int (11 : Int32))])) rfl rfl (hb hby d2_1) (by decide) (off := 53) (by decide) (show (0 : Int) ≤ ((1 : Nat) : Int) + 53 by decide)) ?_
    show own_Go p e s below _ _ _ T0 (mkF m 54 #[.val (.int (11 : Int32))] [])
    refine own_st (fun _ k => XS.bipush X0.here hx rfl (hb hby d2_54) k) ?_
    show own_Go p e s below _ _ _ T0 (mkF m 56 #[.val (.int (11 : Int32))] [(.int (8 : Int32))])
    exact own_retI X0 hx hlk hret (hb hby d2_56) (by decide) (by decide) ⟨rfl, N0, e0⟩
theorem ef_rm3 (m : MethodId) (z0 : Addr) : entryFrame m #[(.ref z0)] 1 = mkF m 0 #[.val (.ref z0)] [] := by first | (simp [entryFrame, mkF, argsToLocals, Value.category]; done) | rfl
set_option maxRecDepth 65536 in
set_option maxHeartbeats 40000000 in
theorem rm3 (l : Launch) (Z : State) (a0 : Array Value) (hw : ∀ d ∈ tables_1, d.before a0 Z = true) (ws : List Jvm.Cond) (a : Addr) (fs : Int32) (h0 : Heap) (n0 : Nat) (Z0 : n0 ≤ h0.size) (F_a : Fld Z h0 a "com/example/fyris/fyris/BinaryFormat$Layout" "fieldSize" "I" (.int fs)) :
    own_Met l Z (⟨"com/example/fyris/fyris/BinaryFormat$Layout", "fieldSize", "()I"⟩ : MethodName) prog_2_method_5_code 1 (some .int) ({ frames := 0, cells := 0, slots := 0, locals := 0 } : Room) ws #[(.ref a)] h0 (fun v h L => v = some (.int fs) ∧ Fr n0 L ∧ h = h0) 0 0 := by
  refine own_enter pf3 (fun m => ef_rm3 m a) ?_
  intro p e s m below meth c T0 hx hby hml hown hnm hret hlk hZ X0 e0
  have N0 := Fr.nil n0
  show own_Go p e s below _ _ _ T0 (mkF m 0 #[.val (.ref a)] [])
  refine own_st (fun _ k => XS.aloadN X0.here hx rfl (hb hby d3_0) rfl rfl k) ?_
  show own_Go p e s below _ _ _ T0 (mkF m 1 #[.val (.ref a)] [(.ref a)])
  obtain ⟨T3, X3, e3, st3⟩ := getF X0 hx hZ hown (host := "") (Or.inl (hw _ (List.mem_of_getElem? (i := 19) rfl))) Via.refl e0 F_a (g := (mkF m 1 #[.val (.ref a)] [(.ref a)])) rfl rfl (hb hby d3_1)
  refine own_st st3 ?_
  show own_Go p e s below _ _ _ T3 (mkF m 4 #[.val (.ref a)] [(.int fs)])
  exact own_retI X3 hx hlk hret (hb hby d3_4) (by decide) (by decide) ⟨rfl, N0, e3⟩
theorem own_law {t fs : Int32} {q : Prop} (hq : (fs = 4 ∧ q) ∨ (fs = 2 ∧ ¬ q)) (ht : t = 4 ∨ t = 5 ∨ t = 6 ∨ t = 7 ∨ t = 8 ∨ t = 9 ∨ t = 10 ∨ t = 11) : (¬ fs < own_fx t) ↔ own_I t q := by
  rcases hq with ⟨rfl, hq⟩ | ⟨rfl, hq⟩ <;> rcases ht with rfl | rfl | rfl | rfl | rfl | rfl | rfl | rfl <;> simp [own_I, hq] <;> decide
theorem ef_rm0 (m : MethodId) (z0 : Int32) (z1 : Int32) : entryFrame m #[(.int z0), (.int z1)] maxLocals = mkF m 0 #[.val (.int z0), .val (.int z1), .unset, .unset, .unset, .unset] [] := by first | (simp [entryFrame, mkF, argsToLocals, Value.category, maxLocals]; done) | rfl
set_option maxRecDepth 65536 in
set_option maxHeartbeats 40000000 in
theorem rm0 (l : Launch) (Z : State) (a0 : Array Value) (hw : ∀ d ∈ tables_1, d.before a0 Z = true) (ws : List Jvm.Cond) (p0 p1 : Int32) (h0 : Heap) (n0 : Nat) (Z0 : n0 ≤ h0.size) (aL aS : Addr) (S_L : Sta Z h0 "com/example/fyris/fyris/BinaryFormat$Layout" "LARGE" "Lcom/example/fyris/fyris/BinaryFormat$Layout;" (.ref aL)) (S_S : Sta Z h0 "com/example/fyris/fyris/BinaryFormat$Layout" "SMALL" "Lcom/example/fyris/fyris/BinaryFormat$Layout;" (.ref aS)) (E_aL : Exa Z h0 aL "com/example/fyris/fyris/BinaryFormat$Layout") (E_aS : Exa Z h0 aS "com/example/fyris/fyris/BinaryFormat$Layout") (F_aL : Fld Z h0 aL "com/example/fyris/fyris/BinaryFormat$Layout" "fieldSize" "I" (.int (4 : Int32))) (F_aS : Fld Z h0 aS "com/example/fyris/fyris/BinaryFormat$Layout" "fieldSize" "I" (.int (2 : Int32))) (hne : ¬ aS = aL) :
    own_Met l Z x code maxLocals ret room_1 ws #[(.int p0), (.int p1)] h0 (fun v h L => v = some (.int 1) ∧ Fr n0 L) 0 0 := by
  refine own_enter pf0 (fun m => ef_rm0 m p0 p1) ?_
  intro p e s m below meth c T0 hx hby hml hown hnm hret hlk hZ X0 e0
  have N0 := Fr.nil n0
  show own_Go p e s below _ _ _ T0 (mkF m 0 #[.val (.int p0), .val (.int p1), .unset, .unset, .unset, .unset] [])
  refine own_st (fun _ k => XS.iloadN X0.here hx rfl (hb hby at_0) rfl k) ?_
  show own_Go p e s below _ _ _ T0 (mkF m 1 #[.val (.int p0), .val (.int p1), .unset, .unset, .unset, .unset] [(.int p1)])
  refine own_st (fun _ k => XS.iconst X0.here hx rfl (hb hby at_1) k) ?_
  show own_Go p e s below _ _ _ T0 (mkF m 2 #[.val (.int p0), .val (.int p1), .unset, .unset, .unset, .unset] [(.int (1 : Int32)), (.int p1)])
  refine own_st (fun _ k => XS.iand X0.here hx rfl (hb hby at_2) rfl k) ?_
  show own_Go p e s below _ _ _ T0 (mkF m 3 #[.val (.int p0), .val (.int p1), .unset, .unset, .unset, .unset] [(.int (p1 &&& (1 : Int32)))])
  by_cases c3_4 : (p1 &&& (1 : Int32)) = (0 : Int32)
  · refine own_st (fun _ k => XS.ifYes X0.here hx rfl (pc0 := 3) (pc' := 12) rfl (hb hby at_3) rfl ((if0 _ _).trans (teq c3_4).1) (by decide) (by decide) k) ?_
    show own_Go p e s below _ _ _ T0 (mkF m 12 #[.val (.int p0), .val (.int p1), .unset, .unset, .unset, .unset] [])
    obtain ⟨T5, X5, e5, st5⟩ := getS2 X0 hx hZ hown (host := "") (Or.inl (hw _ (List.mem_of_getElem? (i := 8) rfl))) Via.refl e0 S_S (g := (mkF m 12 #[.val (.int p0), .val (.int p1), .unset, .unset, .unset, .unset] [])) rfl (hb hby at_12)
    refine own_st st5 ?_
    show own_Go p e s below _ _ _ T5 (mkF m 15 #[.val (.int p0), .val (.int p1), .unset, .unset, .unset, .unset] [(.ref aS)])
    refine own_st (fun _ k => XS.astoreN X5.here hx rfl (hb hby at_15) rfl rfl (l' := #[.val (.int p0), .val (.int p1), .val (.ref aS), .unset, .unset, .unset]) rfl k) ?_
    show own_Go p e s below _ _ _ T5 (mkF m 16 #[.val (.int p0), .val (.int p1), .val (.ref aS), .unset, .unset, .unset] [])
    have J30 : ∀ (t : Int32), own_Go p e s below (fun (v : Option Value) (h : Heap) (L : List Loc) => v = some (.int 1) ∧ Fr n0 L) 0 0 T5 (mkF m 30 #[.val (.int p0), .val (.int p1), .val (.ref aS), .unset, .unset, .unset] [(.int t)]) := by
      intro t
      show own_Go p e s below _ _ _ T5 (mkF m 30 #[.val (.int p0), .val (.int p1), .val (.ref aS), .unset, .unset, .unset] [(.int t)])
      refine own_st (fun _ k => XS.istoreN X5.here hx rfl (hb hby at_30) rfl (l' := #[.val (.int p0), .val (.int p1), .val (.ref aS), .val (.int t), .unset, .unset]) rfl k) ?_
      show own_Go p e s below _ _ _ T5 (mkF m 31 #[.val (.int p0), .val (.int p1), .val (.ref aS), .val (.int t), .unset, .unset] [])
      have J70 : ∀ (b4 : Int32) (bz : Int32) (_ : bz = own_b (own_I t (aS = aL))), own_Go p e s below (fun (v : Option Value) (h : Heap) (L : List Loc) => v = some (.int 1) ∧ Fr n0 L) 0 0 T5 (mkF m 70 #[.val (.int p0), .val (.int p1), .val (.ref aS), .val (.int t), .val (.int b4), .unset] [(.int bz)]) := by
        intro b4; rintro _ rfl
        show own_Go p e s below _ _ _ T5 (mkF m 70 #[.val (.int p0), .val (.int p1), .val (.ref aS), .val (.int t), .val (.int b4), .unset] [(.int (own_b (own_I t (aS = aL))))])
        refine own_st (fun _ k => XS.istore X5.here hx rfl (hb hby at_70) rfl (l' := #[.val (.int p0), .val (.int p1), .val (.ref aS), .val (.int t), .val (.int b4), .val (.int (own_b (own_I t (aS = aL))))]) rfl k) ?_
        show own_Go p e s below _ _ _ T5 (mkF m 72 #[.val (.int p0), .val (.int p1), .val (.ref aS), .val (.int t), .val (.int b4), .val (.int (own_b (own_I t (aS = aL))))] [])
        refine own_st (fun _ k => XS.aloadN X5.here hx rfl (hb hby at_72) rfl rfl k) ?_
        show own_Go p e s below _ _ _ T5 (mkF m 73 #[.val (.int p0), .val (.int p1), .val (.ref aS), .val (.int t), .val (.int b4), .val (.int (own_b (own_I t (aS = aL))))] [(.ref aS)])
        refine own_st (fun _ k => XS.iloadN X5.here hx rfl (hb hby at_73) rfl k) ?_
        show own_Go p e s below _ _ _ T5 (mkF m 74 #[.val (.int p0), .val (.int p1), .val (.ref aS), .val (.int t), .val (.int b4), .val (.int (own_b (own_I t (aS = aL))))] [(.int t), (.ref aS)])
        refine own_callV X5 hx hZ (y := (⟨"com/example/fyris/fyris/BinaryFormat$Layout", "inlines", "(I)Z"⟩ : MethodName)) hown (hw _ (List.mem_of_getElem? (i := 3) rfl)) (hw _ (List.mem_of_getElem? (i := 4) rfl)) (hw _ (List.mem_of_getElem? (i := 6) rfl)) (hw _ (List.mem_of_getElem? (i := 5) rfl)) (hw _ (List.mem_of_getElem? (i := 1) rfl)) (hw _ (List.mem_of_getElem? (i := 7) rfl)) (by decide) e5 (rm1 l Z a0 hw [] aS aL t h0 n0 Z0 S_L) 0 (by decide) (by decide) E_aS (g := (mkF m 74 #[.val (.int p0), .val (.int p1), .val (.ref aS), .val (.int t), .val (.int b4), .val (.int (own_b (own_I t (aS = aL))))] [(.int t), (.ref aS)])) rfl (by rw [hml]; rfl) (argsL := [(.int t)]) (rest := []) pd0 rfl rfl rfl (by show 2 * 0 + _ ≤ _; exact Nat.le_of_eq rfl) (hb hby at_74) (by decide) (by decide) ?_
        intro T6 v6 L6 X6 hQ6
        obtain ⟨rfl, N6q, e6⟩ := hQ6
        have N6 := Fr.app N0 N6q
        show own_Go p e s below _ _ _ T6 (mkF m 77 #[.val (.int p0), .val (.int p1), .val (.ref aS), .val (.int t), .val (.int b4), .val (.int (own_b (own_I t (aS = aL))))] [(.int (own_b (own_I t (aS = aL))))])
        refine own_st (fun _ k => XS.iload X6.here hx rfl (hb hby at_77) rfl k) ?_
        show own_Go p e s below _ _ _ T6 (mkF m 79 #[.val (.int p0), .val (.int p1), .val (.ref aS), .val (.int t), .val (.int b4), .val (.int (own_b (own_I t (aS = aL))))] [(.int (own_b (own_I t (aS = aL)))), (.int (own_b (own_I t (aS = aL))))])
        refine own_st (fun _ k => XS.icmpNo X6.here hx rfl (hb hby at_79) rfl (teq (rfl : (own_b (own_I t (aS = aL))) = (own_b (own_I t (aS = aL))))).2 k) ?_
        show own_Go p e s below _ _ _ T6 (mkF m 82 #[.val (.int p0), .val (.int p1), .val (.ref aS), .val (.int t), .val (.int b4), .val (.int (own_b (own_I t (aS = aL))))] [])
        refine own_st (fun _ k => XS.iconst X6.here hx rfl (hb hby at_82) k) ?_
        show own_Go p e s below _ _ _ T6 (mkF m 83 #[.val (.int p0), .val (.int p1), .val (.ref aS), .val (.int t), .val (.int b4), .val (.int (own_b (own_I t (aS = aL))))] [(.int (1 : Int32))])
        refine own_st (fun _ k => XS.goto X6.here hx rfl (pc0 := 83) (pc' := 87) rfl (hb hby at_83) (by decide) (by decide) k) ?_
        show own_Go p e s below _ _ _ T6 (mkF m 87 #[.val (.int p0), .val (.int p1), .val (.ref aS), .val (.int t), .val (.int b4), .val (.int (own_b (own_I t (aS = aL))))] [(.int (1 : Int32))])
        exact own_retN X6 hx hlk (t := .boolean) hret (by simp) (hb hby at_87) (z' := (1 : Int32)) rfl (by decide) (by decide) ⟨rfl, N6⟩
      refine own_st (fun _ k => XS.iloadN X5.here hx rfl (hb hby at_31) rfl k) ?_
      show own_Go p e s below _ _ _ T5 (mkF m 32 #[.val (.int p0), .val (.int p1), .val (.ref aS), .val (.int t), .unset, .unset] [(.int t)])
      refine own_st (fun _ k => XS.iconst X5.here hx rfl (hb hby at_32) k) ?_
      show own_Go p e s below _ _ _ T5 (mkF m 33 #[.val (.int p0), .val (.int p1), .val (.ref aS), .val (.int t), .unset, .unset] [(.int (4 : Int32)), (.int t)])
      by_cases k1 : t < (4 : Int32)
      · refine own_st (fun _ k => XS.icmpYes X5.here hx rfl (pc0 := 33) (pc' := 46) rfl (hb hby at_33) rfl (tlt k1).1 (by decide) (by decide) k) ?_
        show own_Go p e s below _ _ _ T5 (mkF m 46 #[.val (.int p0), .val (.int p1), .val (.ref aS), .val (.int t), .unset, .unset] [])
        refine own_st (fun _ k => XS.iconst X5.here hx rfl (hb hby at_46) k) ?_
        show own_Go p e s below _ _ _ T5 (mkF m 47 #[.val (.int p0), .val (.int p1), .val (.ref aS), .val (.int t), .unset, .unset] [(.int (0 : Int32))])
        refine own_st (fun _ k => XS.istore X5.here hx rfl (hb hby at_47) rfl (l' := #[.val (.int p0), .val (.int p1), .val (.ref aS), .val (.int t), .val (.int (0 : Int32)), .unset]) rfl k) ?_
        show own_Go p e s below _ _ _ T5 (mkF m 49 #[.val (.int p0), .val (.int p1), .val (.ref aS), .val (.int t), .val (.int (0 : Int32)), .unset] [])
        refine own_st (fun _ k => XS.iload X5.here hx rfl (hb hby at_49) rfl k) ?_
        show own_Go p e s below _ _ _ T5 (mkF m 51 #[.val (.int p0), .val (.int p1), .val (.ref aS), .val (.int t), .val (.int (0 : Int32)), .unset] [(.int (0 : Int32))])
        refine own_st (fun _ k => XS.ifYes X5.here hx rfl (pc0 := 51) (pc' := 69) rfl (hb hby at_51) rfl (by decide) (by decide) (by decide) k) ?_
        show own_Go p e s below _ _ _ T5 (mkF m 69 #[.val (.int p0), .val (.int p1), .val (.ref aS), .val (.int t), .val (.int (0 : Int32)), .unset] [])
        refine own_st (fun _ k => XS.iconst X5.here hx rfl (hb hby at_69) k) ?_
        show own_Go p e s below _ _ _ T5 (mkF m 70 #[.val (.int p0), .val (.int p1), .val (.ref aS), .val (.int t), .val (.int (0 : Int32)), .unset] [(.int (0 : Int32))])
        exact J70 _ _ (by rw [own_bf (by simp only [own_I, Int32.lt_iff_toInt_lt, ← Int32.toInt_inj, Int32.reduceToInt] at k1 ⊢; omega)])
      refine own_st (fun _ k => XS.icmpNo X5.here hx rfl (hb hby at_33) rfl (flt k1).1 k) ?_
      show own_Go p e s below _ _ _ T5 (mkF m 36 #[.val (.int p0), .val (.int p1), .val (.ref aS), .val (.int t), .unset, .unset] [])
      refine own_st (fun _ k => XS.iloadN X5.here hx rfl (hb hby at_36) rfl k) ?_
      show own_Go p e s below _ _ _ T5 (mkF m 37 #[.val (.int p0), .val (.int p1), .val (.ref aS), .val (.int t), .unset, .unset] [(.int t)])
      refine own_st (fun _ k => XS.bipush X5.here hx rfl (hb hby at_37) k) ?_
      show own_Go p e s below _ _ _ T5 (mkF m 39 #[.val (.int p0), .val (.int p1), .val (.ref aS), .val (.int t), .unset, .unset] [(.int (11 : Int32)), (.int t)])
      by_cases k2 : (11 : Int32) < t
      · refine own_st (fun _ k => XS.icmpYes X5.here hx rfl (pc0 := 39) (pc' := 46) rfl (hb hby at_39) rfl (tlt k2).2.2.1 (by decide) (by decide) k) ?_
        show own_Go p e s below _ _ _ T5 (mkF m 46 #[.val (.int p0), .val (.int p1), .val (.ref aS), .val (.int t), .unset, .unset] [])
        refine own_st (fun _ k => XS.iconst X5.here hx rfl (hb hby at_46) k) ?_
        show own_Go p e s below _ _ _ T5 (mkF m 47 #[.val (.int p0), .val (.int p1), .val (.ref aS), .val (.int t), .unset, .unset] [(.int (0 : Int32))])
        refine own_st (fun _ k => XS.istore X5.here hx rfl (hb hby at_47) rfl (l' := #[.val (.int p0), .val (.int p1), .val (.ref aS), .val (.int t), .val (.int (0 : Int32)), .unset]) rfl k) ?_
        show own_Go p e s below _ _ _ T5 (mkF m 49 #[.val (.int p0), .val (.int p1), .val (.ref aS), .val (.int t), .val (.int (0 : Int32)), .unset] [])
        refine own_st (fun _ k => XS.iload X5.here hx rfl (hb hby at_49) rfl k) ?_
        show own_Go p e s below _ _ _ T5 (mkF m 51 #[.val (.int p0), .val (.int p1), .val (.ref aS), .val (.int t), .val (.int (0 : Int32)), .unset] [(.int (0 : Int32))])
        refine own_st (fun _ k => XS.ifYes X5.here hx rfl (pc0 := 51) (pc' := 69) rfl (hb hby at_51) rfl (by decide) (by decide) (by decide) k) ?_
        show own_Go p e s below _ _ _ T5 (mkF m 69 #[.val (.int p0), .val (.int p1), .val (.ref aS), .val (.int t), .val (.int (0 : Int32)), .unset] [])
        refine own_st (fun _ k => XS.iconst X5.here hx rfl (hb hby at_69) k) ?_
        show own_Go p e s below _ _ _ T5 (mkF m 70 #[.val (.int p0), .val (.int p1), .val (.ref aS), .val (.int t), .val (.int (0 : Int32)), .unset] [(.int (0 : Int32))])
        exact J70 _ _ (by rw [own_bf (by simp only [own_I, Int32.lt_iff_toInt_lt, ← Int32.toInt_inj, Int32.reduceToInt] at k2 ⊢; omega)])
      refine own_st (fun _ k => XS.icmpNo X5.here hx rfl (hb hby at_39) rfl (flt k2).2.2.1 k) ?_
      show own_Go p e s below _ _ _ T5 (mkF m 42 #[.val (.int p0), .val (.int p1), .val (.ref aS), .val (.int t), .unset, .unset] [])
      have ht := own_rng k1 k2
      refine own_st (fun _ k => XS.iconst X5.here hx rfl (hb hby at_42) k) ?_
      show own_Go p e s below _ _ _ T5 (mkF m 43 #[.val (.int p0), .val (.int p1), .val (.ref aS), .val (.int t), .unset, .unset] [(.int (1 : Int32))])
      refine own_st (fun _ k => XS.goto X5.here hx rfl (pc0 := 43) (pc' := 47) rfl (hb hby at_43) (by decide) (by decide) k) ?_
      show own_Go p e s below _ _ _ T5 (mkF m 47 #[.val (.int p0), .val (.int p1), .val (.ref aS), .val (.int t), .unset, .unset] [(.int (1 : Int32))])
      refine own_st (fun _ k => XS.istore X5.here hx rfl (hb hby at_47) rfl (l' := #[.val (.int p0), .val (.int p1), .val (.ref aS), .val (.int t), .val (.int (1 : Int32)), .unset]) rfl k) ?_
      show own_Go p e s below _ _ _ T5 (mkF m 49 #[.val (.int p0), .val (.int p1), .val (.ref aS), .val (.int t), .val (.int (1 : Int32)), .unset] [])
      refine own_st (fun _ k => XS.iload X5.here hx rfl (hb hby at_49) rfl k) ?_
      show own_Go p e s below _ _ _ T5 (mkF m 51 #[.val (.int p0), .val (.int p1), .val (.ref aS), .val (.int t), .val (.int (1 : Int32)), .unset] [(.int (1 : Int32))])
      refine own_st (fun _ k => XS.ifNo X5.here hx rfl (hb hby at_51) rfl (by decide) k) ?_
      show own_Go p e s below _ _ _ T5 (mkF m 54 #[.val (.int p0), .val (.int p1), .val (.ref aS), .val (.int t), .val (.int (1 : Int32)), .unset] [])
      refine own_st (fun _ k => XS.iloadN X5.here hx rfl (hb hby at_54) rfl k) ?_
      show own_Go p e s below _ _ _ T5 (mkF m 55 #[.val (.int p0), .val (.int p1), .val (.ref aS), .val (.int t), .val (.int (1 : Int32)), .unset] [(.int t)])
      refine own_callS X5 hx hZ (y := (⟨"com/example/fyris/fyris/BinaryFormat", "fixedSize", "(I)I"⟩ : MethodName)) hown (hw _ (List.mem_of_getElem? (i := 10) rfl)) (hw _ (List.mem_of_getElem? (i := 11) rfl)) (hw _ (List.mem_of_getElem? (i := 12) rfl)) (hw _ (List.mem_of_getElem? (i := 13) rfl)) (by decide) e5 (rm2 l Z a0 hw [] t h0 n0 Z0 ht) 0 (by decide) (by decide) (g := (mkF m 55 #[.val (.int p0), .val (.int p1), .val (.ref aS), .val (.int t), .val (.int (1 : Int32)), .unset] [(.int t)])) rfl (by rw [hml]; rfl) (argsL := [(.int t)]) (rest := []) pd1 rfl rfl rfl (by show 2 * 0 + _ ≤ _; exact Nat.le_of_eq rfl) (hb hby at_55) (by decide) (by decide) ?_
      intro T7 v7 L7 X7 hQ7
      obtain ⟨rfl, N7q, e7⟩ := hQ7
      have N7 := Fr.app N0 N7q
      show own_Go p e s below _ _ _ T7 (mkF m 58 #[.val (.int p0), .val (.int p1), .val (.ref aS), .val (.int t), .val (.int (1 : Int32)), .unset] [(.int (own_fx t))])
      refine own_st (fun _ k => XS.aloadN X7.here hx rfl (hb hby at_58) rfl rfl k) ?_
      show own_Go p e s below _ _ _ T7 (mkF m 59 #[.val (.int p0), .val (.int p1), .val (.ref aS), .val (.int t), .val (.int (1 : Int32)), .unset] [(.ref aS), (.int (own_fx t))])
      refine own_callV X7 hx hZ (y := (⟨"com/example/fyris/fyris/BinaryFormat$Layout", "fieldSize", "()I"⟩ : MethodName)) hown (hw _ (List.mem_of_getElem? (i := 14) rfl)) (hw _ (List.mem_of_getElem? (i := 15) rfl)) (hw _ (List.mem_of_getElem? (i := 17) rfl)) (hw _ (List.mem_of_getElem? (i := 16) rfl)) (hw _ (List.mem_of_getElem? (i := 1) rfl)) (hw _ (List.mem_of_getElem? (i := 18) rfl)) (by decide) e7 (rm3 l Z a0 hw [] aS (2 : Int32) h0 n0 Z0 F_aS) 1 (by decide) (by decide) E_aS (g := (mkF m 59 #[.val (.int p0), .val (.int p1), .val (.ref aS), .val (.int t), .val (.int (1 : Int32)), .unset] [(.ref aS), (.int (own_fx t))])) rfl (by rw [hml]; rfl) (argsL := []) (rest := [(.int (own_fx t))]) pd2 rfl rfl rfl (by show 2 * 0 + _ ≤ _; exact Nat.le_of_eq rfl) (hb hby at_59) (by decide) (by decide) ?_
      intro T8 v8 L8 X8 hQ8
      obtain ⟨rfl, N8q, e8⟩ := hQ8
      have N8 := Fr.app N7 N8q
      show own_Go p e s below _ _ _ T8 (mkF m 62 #[.val (.int p0), .val (.int p1), .val (.ref aS), .val (.int t), .val (.int (1 : Int32)), .unset] [(.int (2 : Int32)), (.int (own_fx t))])
      have J70' : ∀  (bz : Int32) (_ : bz = own_b (own_I t (aS = aL))), own_Go p e s below (fun (v : Option Value) (h : Heap) (L : List Loc) => v = some (.int 1) ∧ Fr n0 L) 0 0 T8 (mkF m 70 #[.val (.int p0), .val (.int p1), .val (.ref aS), .val (.int t), .val (.int (1 : Int32)), .unset] [(.int bz)]) := by
        rintro _ rfl
        show own_Go p e s below _ _ _ T8 (mkF m 70 #[.val (.int p0), .val (.int p1), .val (.ref aS), .val (.int t), .val (.int (1 : Int32)), .unset] [(.int (own_b (own_I t (aS = aL))))])
        refine own_st (fun _ k => XS.istore X8.here hx rfl (hb hby at_70) rfl (l' := #[.val (.int p0), .val (.int p1), .val (.ref aS), .val (.int t), .val (.int (1 : Int32)), .val (.int (own_b (own_I t (aS = aL))))]) rfl k) ?_
        show own_Go p e s below _ _ _ T8 (mkF m 72 #[.val (.int p0), .val (.int p1), .val (.ref aS), .val (.int t), .val (.int (1 : Int32)), .val (.int (own_b (own_I t (aS = aL))))] [])
        refine own_st (fun _ k => XS.aloadN X8.here hx rfl (hb hby at_72) rfl rfl k) ?_
        show own_Go p e s below _ _ _ T8 (mkF m 73 #[.val (.int p0), .val (.int p1), .val (.ref aS), .val (.int t), .val (.int (1 : Int32)), .val (.int (own_b (own_I t (aS = aL))))] [(.ref aS)])
        refine own_st (fun _ k => XS.iloadN X8.here hx rfl (hb hby at_73) rfl k) ?_
        show own_Go p e s below _ _ _ T8 (mkF m 74 #[.val (.int p0), .val (.int p1), .val (.ref aS), .val (.int t), .val (.int (1 : Int32)), .val (.int (own_b (own_I t (aS = aL))))] [(.int t), (.ref aS)])
        refine own_callV X8 hx hZ (y := (⟨"com/example/fyris/fyris/BinaryFormat$Layout", "inlines", "(I)Z"⟩ : MethodName)) hown (hw _ (List.mem_of_getElem? (i := 3) rfl)) (hw _ (List.mem_of_getElem? (i := 4) rfl)) (hw _ (List.mem_of_getElem? (i := 6) rfl)) (hw _ (List.mem_of_getElem? (i := 5) rfl)) (hw _ (List.mem_of_getElem? (i := 1) rfl)) (hw _ (List.mem_of_getElem? (i := 7) rfl)) (by decide) e8 (rm1 l Z a0 hw [] aS aL t h0 n0 Z0 S_L) 0 (by decide) (by decide) E_aS (g := (mkF m 74 #[.val (.int p0), .val (.int p1), .val (.ref aS), .val (.int t), .val (.int (1 : Int32)), .val (.int (own_b (own_I t (aS = aL))))] [(.int t), (.ref aS)])) rfl (by rw [hml]; rfl) (argsL := [(.int t)]) (rest := []) pd0 rfl rfl rfl (by show 2 * 0 + _ ≤ _; exact Nat.le_of_eq rfl) (hb hby at_74) (by decide) (by decide) ?_
        intro T9 v9 L9 X9 hQ9
        obtain ⟨rfl, N9q, e9⟩ := hQ9
        have N9 := Fr.app N8 N9q
        show own_Go p e s below _ _ _ T9 (mkF m 77 #[.val (.int p0), .val (.int p1), .val (.ref aS), .val (.int t), .val (.int (1 : Int32)), .val (.int (own_b (own_I t (aS = aL))))] [(.int (own_b (own_I t (aS = aL))))])
        refine own_st (fun _ k => XS.iload X9.here hx rfl (hb hby at_77) rfl k) ?_
        show own_Go p e s below _ _ _ T9 (mkF m 79 #[.val (.int p0), .val (.int p1), .val (.ref aS), .val (.int t), .val (.int (1 : Int32)), .val (.int (own_b (own_I t (aS = aL))))] [(.int (own_b (own_I t (aS = aL)))), (.int (own_b (own_I t (aS = aL))))])
        refine own_st (fun _ k => XS.icmpNo X9.here hx rfl (hb hby at_79) rfl (teq (rfl : (own_b (own_I t (aS = aL))) = (own_b (own_I t (aS = aL))))).2 k) ?_
        show own_Go p e s below _ _ _ T9 (mkF m 82 #[.val (.int p0), .val (.int p1), .val (.ref aS), .val (.int t), .val (.int (1 : Int32)), .val (.int (own_b (own_I t (aS = aL))))] [])
        refine own_st (fun _ k => XS.iconst X9.here hx rfl (hb hby at_82) k) ?_
        show own_Go p e s below _ _ _ T9 (mkF m 83 #[.val (.int p0), .val (.int p1), .val (.ref aS), .val (.int t), .val (.int (1 : Int32)), .val (.int (own_b (own_I t (aS = aL))))] [(.int (1 : Int32))])
        refine own_st (fun _ k => XS.goto X9.here hx rfl (pc0 := 83) (pc' := 87) rfl (hb hby at_83) (by decide) (by decide) k) ?_
        show own_Go p e s below _ _ _ T9 (mkF m 87 #[.val (.int p0), .val (.int p1), .val (.ref aS), .val (.int t), .val (.int (1 : Int32)), .val (.int (own_b (own_I t (aS = aL))))] [(.int (1 : Int32))])
        exact own_retN X9 hx hlk (t := .boolean) hret (by simp) (hb hby at_87) (z' := (1 : Int32)) rfl (by decide) (by decide) ⟨rfl, N9⟩
      by_cases c62_10 : (2 : Int32) < (own_fx t)
      · refine own_st (fun _ k => XS.icmpYes X8.here hx rfl (pc0 := 62) (pc' := 69) rfl (hb hby at_62) rfl (tlt c62_10).2.2.1 (by decide) (by decide) k) ?_
        show own_Go p e s below _ _ _ T8 (mkF m 69 #[.val (.int p0), .val (.int p1), .val (.ref aS), .val (.int t), .val (.int (1 : Int32)), .unset] [])
        refine own_st (fun _ k => XS.iconst X8.here hx rfl (hb hby at_69) k) ?_
        show own_Go p e s below _ _ _ T8 (mkF m 70 #[.val (.int p0), .val (.int p1), .val (.ref aS), .val (.int t), .val (.int (1 : Int32)), .unset] [(.int (0 : Int32))])
        exact J70'  _ (by rw [own_bf (fun z => (own_law (fs := 2) (Or.inr ⟨rfl, hne⟩) ht).mpr z c62_10)])
      · refine own_st (fun _ k => XS.icmpNo X8.here hx rfl (hb hby at_62) rfl (flt c62_10).2.2.1 k) ?_
        show own_Go p e s below _ _ _ T8 (mkF m 65 #[.val (.int p0), .val (.int p1), .val (.ref aS), .val (.int t), .val (.int (1 : Int32)), .unset] [])
        refine own_st (fun _ k => XS.iconst X8.here hx rfl (hb hby at_65) k) ?_
        show own_Go p e s below _ _ _ T8 (mkF m 66 #[.val (.int p0), .val (.int p1), .val (.ref aS), .val (.int t), .val (.int (1 : Int32)), .unset] [(.int (1 : Int32))])
        refine own_st (fun _ k => XS.goto X8.here hx rfl (pc0 := 66) (pc' := 70) rfl (hb hby at_66) (by decide) (by decide) k) ?_
        show own_Go p e s below _ _ _ T8 (mkF m 70 #[.val (.int p0), .val (.int p1), .val (.ref aS), .val (.int t), .val (.int (1 : Int32)), .unset] [(.int (1 : Int32))])
        exact J70'  _ (by rw [own_bt ((own_law (fs := 2) (Or.inr ⟨rfl, hne⟩) ht).mp c62_10)])
    refine own_st (fun _ k => XS.iloadN X5.here hx rfl (hb hby at_16) rfl k) ?_
    show own_Go p e s below _ _ _ T5 (mkF m 17 #[.val (.int p0), .val (.int p1), .val (.ref aS), .unset, .unset, .unset] [(.int p1)])
    refine own_st (fun _ k => XS.iconst X5.here hx rfl (hb hby at_17) k) ?_
    show own_Go p e s below _ _ _ T5 (mkF m 18 #[.val (.int p0), .val (.int p1), .val (.ref aS), .unset, .unset, .unset] [(.int (2 : Int32)), (.int p1)])
    refine own_st (fun _ k => XS.iand X5.here hx rfl (hb hby at_18) rfl k) ?_
    show own_Go p e s below _ _ _ T5 (mkF m 19 #[.val (.int p0), .val (.int p1), .val (.ref aS), .unset, .unset, .unset] [(.int (p1 &&& (2 : Int32)))])
    by_cases c19_11 : (p1 &&& (2 : Int32)) = (0 : Int32)
    · refine own_st (fun _ k => XS.ifYes X5.here hx rfl (pc0 := 19) (pc' := 26) rfl (hb hby at_19) rfl ((if0 _ _).trans (teq c19_11).1) (by decide) (by decide) k) ?_
      show own_Go p e s below _ _ _ T5 (mkF m 26 #[.val (.int p0), .val (.int p1), .val (.ref aS), .unset, .unset, .unset] [])
      refine own_st (fun _ k => XS.iloadN X5.here hx rfl (hb hby at_26) rfl k) ?_
      show own_Go p e s below _ _ _ T5 (mkF m 27 #[.val (.int p0), .val (.int p1), .val (.ref aS), .unset, .unset, .unset] [(.int p0)])
      refine own_st (fun _ k => XS.bipush X5.here hx rfl (hb hby at_27) k) ?_
      show own_Go p e s below _ _ _ T5 (mkF m 29 #[.val (.int p0), .val (.int p1), .val (.ref aS), .unset, .unset, .unset] [(.int (15 : Int32)), (.int p0)])
      refine own_st (fun _ k => XS.iand X5.here hx rfl (hb hby at_29) rfl k) ?_
      show own_Go p e s below _ _ _ T5 (mkF m 30 #[.val (.int p0), .val (.int p1), .val (.ref aS), .unset, .unset, .unset] [(.int (p0 &&& (15 : Int32)))])
      exact J30 _
    · refine own_st (fun _ k => XS.ifNo X5.here hx rfl (hb hby at_19) rfl ((if0 _ _).trans (feq c19_11).1) k) ?_
      show own_Go p e s below _ _ _ T5 (mkF m 22 #[.val (.int p0), .val (.int p1), .val (.ref aS), .unset, .unset, .unset] [])
      refine own_st (fun _ k => XS.iloadN X5.here hx rfl (hb hby at_22) rfl k) ?_
      show own_Go p e s below _ _ _ T5 (mkF m 23 #[.val (.int p0), .val (.int p1), .val (.ref aS), .unset, .unset, .unset] [(.int p0)])
      refine own_st (fun _ k => XS.goto X5.here hx rfl (pc0 := 23) (pc' := 30) rfl (hb hby at_23) (by decide) (by decide) k) ?_
      show own_Go p e s below _ _ _ T5 (mkF m 30 #[.val (.int p0), .val (.int p1), .val (.ref aS), .unset, .unset, .unset] [(.int p0)])
      exact J30 _
  · refine own_st (fun _ k => XS.ifNo X0.here hx rfl (hb hby at_3) rfl ((if0 _ _).trans (feq c3_4).1) k) ?_
    show own_Go p e s below _ _ _ T0 (mkF m 6 #[.val (.int p0), .val (.int p1), .unset, .unset, .unset, .unset] [])
    obtain ⟨T12, X12, e12, st12⟩ := getS2 X0 hx hZ hown (host := "") (Or.inl (hw _ (List.mem_of_getElem? (i := 0) rfl))) Via.refl e0 S_L (g := (mkF m 6 #[.val (.int p0), .val (.int p1), .unset, .unset, .unset, .unset] [])) rfl (hb hby at_6)
    refine own_st st12 ?_
    show own_Go p e s below _ _ _ T12 (mkF m 9 #[.val (.int p0), .val (.int p1), .unset, .unset, .unset, .unset] [(.ref aL)])
    refine own_st (fun _ k => XS.goto X12.here hx rfl (pc0 := 9) (pc' := 15) rfl (hb hby at_9) (by decide) (by decide) k) ?_
    show own_Go p e s below _ _ _ T12 (mkF m 15 #[.val (.int p0), .val (.int p1), .unset, .unset, .unset, .unset] [(.ref aL)])
    refine own_st (fun _ k => XS.astoreN X12.here hx rfl (hb hby at_15) rfl rfl (l' := #[.val (.int p0), .val (.int p1), .val (.ref aL), .unset, .unset, .unset]) rfl k) ?_
    show own_Go p e s below _ _ _ T12 (mkF m 16 #[.val (.int p0), .val (.int p1), .val (.ref aL), .unset, .unset, .unset] [])
    have J30 : ∀ (t : Int32), own_Go p e s below (fun (v : Option Value) (h : Heap) (L : List Loc) => v = some (.int 1) ∧ Fr n0 L) 0 0 T12 (mkF m 30 #[.val (.int p0), .val (.int p1), .val (.ref aL), .unset, .unset, .unset] [(.int t)]) := by
      intro t
      show own_Go p e s below _ _ _ T12 (mkF m 30 #[.val (.int p0), .val (.int p1), .val (.ref aL), .unset, .unset, .unset] [(.int t)])
      refine own_st (fun _ k => XS.istoreN X12.here hx rfl (hb hby at_30) rfl (l' := #[.val (.int p0), .val (.int p1), .val (.ref aL), .val (.int t), .unset, .unset]) rfl k) ?_
      show own_Go p e s below _ _ _ T12 (mkF m 31 #[.val (.int p0), .val (.int p1), .val (.ref aL), .val (.int t), .unset, .unset] [])
      have J70 : ∀ (b4 : Int32) (bz : Int32) (_ : bz = own_b (own_I t (aL = aL))), own_Go p e s below (fun (v : Option Value) (h : Heap) (L : List Loc) => v = some (.int 1) ∧ Fr n0 L) 0 0 T12 (mkF m 70 #[.val (.int p0), .val (.int p1), .val (.ref aL), .val (.int t), .val (.int b4), .unset] [(.int bz)]) := by
        intro b4; rintro _ rfl
        show own_Go p e s below _ _ _ T12 (mkF m 70 #[.val (.int p0), .val (.int p1), .val (.ref aL), .val (.int t), .val (.int b4), .unset] [(.int (own_b (own_I t (aL = aL))))])
        refine own_st (fun _ k => XS.istore X12.here hx rfl (hb hby at_70) rfl (l' := #[.val (.int p0), .val (.int p1), .val (.ref aL), .val (.int t), .val (.int b4), .val (.int (own_b (own_I t (aL = aL))))]) rfl k) ?_
        show own_Go p e s below _ _ _ T12 (mkF m 72 #[.val (.int p0), .val (.int p1), .val (.ref aL), .val (.int t), .val (.int b4), .val (.int (own_b (own_I t (aL = aL))))] [])
        refine own_st (fun _ k => XS.aloadN X12.here hx rfl (hb hby at_72) rfl rfl k) ?_
        show own_Go p e s below _ _ _ T12 (mkF m 73 #[.val (.int p0), .val (.int p1), .val (.ref aL), .val (.int t), .val (.int b4), .val (.int (own_b (own_I t (aL = aL))))] [(.ref aL)])
        refine own_st (fun _ k => XS.iloadN X12.here hx rfl (hb hby at_73) rfl k) ?_
        show own_Go p e s below _ _ _ T12 (mkF m 74 #[.val (.int p0), .val (.int p1), .val (.ref aL), .val (.int t), .val (.int b4), .val (.int (own_b (own_I t (aL = aL))))] [(.int t), (.ref aL)])
        refine own_callV X12 hx hZ (y := (⟨"com/example/fyris/fyris/BinaryFormat$Layout", "inlines", "(I)Z"⟩ : MethodName)) hown (hw _ (List.mem_of_getElem? (i := 3) rfl)) (hw _ (List.mem_of_getElem? (i := 4) rfl)) (hw _ (List.mem_of_getElem? (i := 6) rfl)) (hw _ (List.mem_of_getElem? (i := 5) rfl)) (hw _ (List.mem_of_getElem? (i := 1) rfl)) (hw _ (List.mem_of_getElem? (i := 7) rfl)) (by decide) e12 (rm1 l Z a0 hw [] aL aL t h0 n0 Z0 S_L) 0 (by decide) (by decide) E_aL (g := (mkF m 74 #[.val (.int p0), .val (.int p1), .val (.ref aL), .val (.int t), .val (.int b4), .val (.int (own_b (own_I t (aL = aL))))] [(.int t), (.ref aL)])) rfl (by rw [hml]; rfl) (argsL := [(.int t)]) (rest := []) pd0 rfl rfl rfl (by show 2 * 0 + _ ≤ _; exact Nat.le_of_eq rfl) (hb hby at_74) (by decide) (by decide) ?_
        intro T13 v13 L13 X13 hQ13
        obtain ⟨rfl, N13q, e13⟩ := hQ13
        have N13 := Fr.app N0 N13q
        show own_Go p e s below _ _ _ T13 (mkF m 77 #[.val (.int p0), .val (.int p1), .val (.ref aL), .val (.int t), .val (.int b4), .val (.int (own_b (own_I t (aL = aL))))] [(.int (own_b (own_I t (aL = aL))))])
        refine own_st (fun _ k => XS.iload X13.here hx rfl (hb hby at_77) rfl k) ?_
        show own_Go p e s below _ _ _ T13 (mkF m 79 #[.val (.int p0), .val (.int p1), .val (.ref aL), .val (.int t), .val (.int b4), .val (.int (own_b (own_I t (aL = aL))))] [(.int (own_b (own_I t (aL = aL)))), (.int (own_b (own_I t (aL = aL))))])
        refine own_st (fun _ k => XS.icmpNo X13.here hx rfl (hb hby at_79) rfl (teq (rfl : (own_b (own_I t (aL = aL))) = (own_b (own_I t (aL = aL))))).2 k) ?_
        show own_Go p e s below _ _ _ T13 (mkF m 82 #[.val (.int p0), .val (.int p1), .val (.ref aL), .val (.int t), .val (.int b4), .val (.int (own_b (own_I t (aL = aL))))] [])
        refine own_st (fun _ k => XS.iconst X13.here hx rfl (hb hby at_82) k) ?_
        show own_Go p e s below _ _ _ T13 (mkF m 83 #[.val (.int p0), .val (.int p1), .val (.ref aL), .val (.int t), .val (.int b4), .val (.int (own_b (own_I t (aL = aL))))] [(.int (1 : Int32))])
        refine own_st (fun _ k => XS.goto X13.here hx rfl (pc0 := 83) (pc' := 87) rfl (hb hby at_83) (by decide) (by decide) k) ?_
        show own_Go p e s below _ _ _ T13 (mkF m 87 #[.val (.int p0), .val (.int p1), .val (.ref aL), .val (.int t), .val (.int b4), .val (.int (own_b (own_I t (aL = aL))))] [(.int (1 : Int32))])
        exact own_retN X13 hx hlk (t := .boolean) hret (by simp) (hb hby at_87) (z' := (1 : Int32)) rfl (by decide) (by decide) ⟨rfl, N13⟩
      refine own_st (fun _ k => XS.iloadN X12.here hx rfl (hb hby at_31) rfl k) ?_
      show own_Go p e s below _ _ _ T12 (mkF m 32 #[.val (.int p0), .val (.int p1), .val (.ref aL), .val (.int t), .unset, .unset] [(.int t)])
      refine own_st (fun _ k => XS.iconst X12.here hx rfl (hb hby at_32) k) ?_
      show own_Go p e s below _ _ _ T12 (mkF m 33 #[.val (.int p0), .val (.int p1), .val (.ref aL), .val (.int t), .unset, .unset] [(.int (4 : Int32)), (.int t)])
      by_cases k1 : t < (4 : Int32)
      · refine own_st (fun _ k => XS.icmpYes X12.here hx rfl (pc0 := 33) (pc' := 46) rfl (hb hby at_33) rfl (tlt k1).1 (by decide) (by decide) k) ?_
        show own_Go p e s below _ _ _ T12 (mkF m 46 #[.val (.int p0), .val (.int p1), .val (.ref aL), .val (.int t), .unset, .unset] [])
        refine own_st (fun _ k => XS.iconst X12.here hx rfl (hb hby at_46) k) ?_
        show own_Go p e s below _ _ _ T12 (mkF m 47 #[.val (.int p0), .val (.int p1), .val (.ref aL), .val (.int t), .unset, .unset] [(.int (0 : Int32))])
        refine own_st (fun _ k => XS.istore X12.here hx rfl (hb hby at_47) rfl (l' := #[.val (.int p0), .val (.int p1), .val (.ref aL), .val (.int t), .val (.int (0 : Int32)), .unset]) rfl k) ?_
        show own_Go p e s below _ _ _ T12 (mkF m 49 #[.val (.int p0), .val (.int p1), .val (.ref aL), .val (.int t), .val (.int (0 : Int32)), .unset] [])
        refine own_st (fun _ k => XS.iload X12.here hx rfl (hb hby at_49) rfl k) ?_
        show own_Go p e s below _ _ _ T12 (mkF m 51 #[.val (.int p0), .val (.int p1), .val (.ref aL), .val (.int t), .val (.int (0 : Int32)), .unset] [(.int (0 : Int32))])
        refine own_st (fun _ k => XS.ifYes X12.here hx rfl (pc0 := 51) (pc' := 69) rfl (hb hby at_51) rfl (by decide) (by decide) (by decide) k) ?_
        show own_Go p e s below _ _ _ T12 (mkF m 69 #[.val (.int p0), .val (.int p1), .val (.ref aL), .val (.int t), .val (.int (0 : Int32)), .unset] [])
        refine own_st (fun _ k => XS.iconst X12.here hx rfl (hb hby at_69) k) ?_
        show own_Go p e s below _ _ _ T12 (mkF m 70 #[.val (.int p0), .val (.int p1), .val (.ref aL), .val (.int t), .val (.int (0 : Int32)), .unset] [(.int (0 : Int32))])
        exact J70 _ _ (by rw [own_bf (by simp only [own_I, Int32.lt_iff_toInt_lt, ← Int32.toInt_inj, Int32.reduceToInt] at k1 ⊢; omega)])
      refine own_st (fun _ k => XS.icmpNo X12.here hx rfl (hb hby at_33) rfl (flt k1).1 k) ?_
      show own_Go p e s below _ _ _ T12 (mkF m 36 #[.val (.int p0), .val (.int p1), .val (.ref aL), .val (.int t), .unset, .unset] [])
      refine own_st (fun _ k => XS.iloadN X12.here hx rfl (hb hby at_36) rfl k) ?_
      show own_Go p e s below _ _ _ T12 (mkF m 37 #[.val (.int p0), .val (.int p1), .val (.ref aL), .val (.int t), .unset, .unset] [(.int t)])
      refine own_st (fun _ k => XS.bipush X12.here hx rfl (hb hby at_37) k) ?_
      show own_Go p e s below _ _ _ T12 (mkF m 39 #[.val (.int p0), .val (.int p1), .val (.ref aL), .val (.int t), .unset, .unset] [(.int (11 : Int32)), (.int t)])
      by_cases k2 : (11 : Int32) < t
      · refine own_st (fun _ k => XS.icmpYes X12.here hx rfl (pc0 := 39) (pc' := 46) rfl (hb hby at_39) rfl (tlt k2).2.2.1 (by decide) (by decide) k) ?_
        show own_Go p e s below _ _ _ T12 (mkF m 46 #[.val (.int p0), .val (.int p1), .val (.ref aL), .val (.int t), .unset, .unset] [])
        refine own_st (fun _ k => XS.iconst X12.here hx rfl (hb hby at_46) k) ?_
        show own_Go p e s below _ _ _ T12 (mkF m 47 #[.val (.int p0), .val (.int p1), .val (.ref aL), .val (.int t), .unset, .unset] [(.int (0 : Int32))])
        refine own_st (fun _ k => XS.istore X12.here hx rfl (hb hby at_47) rfl (l' := #[.val (.int p0), .val (.int p1), .val (.ref aL), .val (.int t), .val (.int (0 : Int32)), .unset]) rfl k) ?_
        show own_Go p e s below _ _ _ T12 (mkF m 49 #[.val (.int p0), .val (.int p1), .val (.ref aL), .val (.int t), .val (.int (0 : Int32)), .unset] [])
        refine own_st (fun _ k => XS.iload X12.here hx rfl (hb hby at_49) rfl k) ?_
        show own_Go p e s below _ _ _ T12 (mkF m 51 #[.val (.int p0), .val (.int p1), .val (.ref aL), .val (.int t), .val (.int (0 : Int32)), .unset] [(.int (0 : Int32))])
        refine own_st (fun _ k => XS.ifYes X12.here hx rfl (pc0 := 51) (pc' := 69) rfl (hb hby at_51) rfl (by decide) (by decide) (by decide) k) ?_
        show own_Go p e s below _ _ _ T12 (mkF m 69 #[.val (.int p0), .val (.int p1), .val (.ref aL), .val (.int t), .val (.int (0 : Int32)), .unset] [])
        refine own_st (fun _ k => XS.iconst X12.here hx rfl (hb hby at_69) k) ?_
        show own_Go p e s below _ _ _ T12 (mkF m 70 #[.val (.int p0), .val (.int p1), .val (.ref aL), .val (.int t), .val (.int (0 : Int32)), .unset] [(.int (0 : Int32))])
        exact J70 _ _ (by rw [own_bf (by simp only [own_I, Int32.lt_iff_toInt_lt, ← Int32.toInt_inj, Int32.reduceToInt] at k2 ⊢; omega)])
      refine own_st (fun _ k => XS.icmpNo X12.here hx rfl (hb hby at_39) rfl (flt k2).2.2.1 k) ?_
      show own_Go p e s below _ _ _ T12 (mkF m 42 #[.val (.int p0), .val (.int p1), .val (.ref aL), .val (.int t), .unset, .unset] [])
      have ht := own_rng k1 k2
      refine own_st (fun _ k => XS.iconst X12.here hx rfl (hb hby at_42) k) ?_
      show own_Go p e s below _ _ _ T12 (mkF m 43 #[.val (.int p0), .val (.int p1), .val (.ref aL), .val (.int t), .unset, .unset] [(.int (1 : Int32))])
      refine own_st (fun _ k => XS.goto X12.here hx rfl (pc0 := 43) (pc' := 47) rfl (hb hby at_43) (by decide) (by decide) k) ?_
      show own_Go p e s below _ _ _ T12 (mkF m 47 #[.val (.int p0), .val (.int p1), .val (.ref aL), .val (.int t), .unset, .unset] [(.int (1 : Int32))])
      refine own_st (fun _ k => XS.istore X12.here hx rfl (hb hby at_47) rfl (l' := #[.val (.int p0), .val (.int p1), .val (.ref aL), .val (.int t), .val (.int (1 : Int32)), .unset]) rfl k) ?_
      show own_Go p e s below _ _ _ T12 (mkF m 49 #[.val (.int p0), .val (.int p1), .val (.ref aL), .val (.int t), .val (.int (1 : Int32)), .unset] [])
      refine own_st (fun _ k => XS.iload X12.here hx rfl (hb hby at_49) rfl k) ?_
      show own_Go p e s below _ _ _ T12 (mkF m 51 #[.val (.int p0), .val (.int p1), .val (.ref aL), .val (.int t), .val (.int (1 : Int32)), .unset] [(.int (1 : Int32))])
      refine own_st (fun _ k => XS.ifNo X12.here hx rfl (hb hby at_51) rfl (by decide) k) ?_
      show own_Go p e s below _ _ _ T12 (mkF m 54 #[.val (.int p0), .val (.int p1), .val (.ref aL), .val (.int t), .val (.int (1 : Int32)), .unset] [])
      refine own_st (fun _ k => XS.iloadN X12.here hx rfl (hb hby at_54) rfl k) ?_
      show own_Go p e s below _ _ _ T12 (mkF m 55 #[.val (.int p0), .val (.int p1), .val (.ref aL), .val (.int t), .val (.int (1 : Int32)), .unset] [(.int t)])
      refine own_callS X12 hx hZ (y := (⟨"com/example/fyris/fyris/BinaryFormat", "fixedSize", "(I)I"⟩ : MethodName)) hown (hw _ (List.mem_of_getElem? (i := 10) rfl)) (hw _ (List.mem_of_getElem? (i := 11) rfl)) (hw _ (List.mem_of_getElem? (i := 12) rfl)) (hw _ (List.mem_of_getElem? (i := 13) rfl)) (by decide) e12 (rm2 l Z a0 hw [] t h0 n0 Z0 ht) 0 (by decide) (by decide) (g := (mkF m 55 #[.val (.int p0), .val (.int p1), .val (.ref aL), .val (.int t), .val (.int (1 : Int32)), .unset] [(.int t)])) rfl (by rw [hml]; rfl) (argsL := [(.int t)]) (rest := []) pd1 rfl rfl rfl (by show 2 * 0 + _ ≤ _; exact Nat.le_of_eq rfl) (hb hby at_55) (by decide) (by decide) ?_
      intro T14 v14 L14 X14 hQ14
      obtain ⟨rfl, N14q, e14⟩ := hQ14
      have N14 := Fr.app N0 N14q
      show own_Go p e s below _ _ _ T14 (mkF m 58 #[.val (.int p0), .val (.int p1), .val (.ref aL), .val (.int t), .val (.int (1 : Int32)), .unset] [(.int (own_fx t))])
      refine own_st (fun _ k => XS.aloadN X14.here hx rfl (hb hby at_58) rfl rfl k) ?_
      show own_Go p e s below _ _ _ T14 (mkF m 59 #[.val (.int p0), .val (.int p1), .val (.ref aL), .val (.int t), .val (.int (1 : Int32)), .unset] [(.ref aL), (.int (own_fx t))])
      refine own_callV X14 hx hZ (y := (⟨"com/example/fyris/fyris/BinaryFormat$Layout", "fieldSize", "()I"⟩ : MethodName)) hown (hw _ (List.mem_of_getElem? (i := 14) rfl)) (hw _ (List.mem_of_getElem? (i := 15) rfl)) (hw _ (List.mem_of_getElem? (i := 17) rfl)) (hw _ (List.mem_of_getElem? (i := 16) rfl)) (hw _ (List.mem_of_getElem? (i := 1) rfl)) (hw _ (List.mem_of_getElem? (i := 18) rfl)) (by decide) e14 (rm3 l Z a0 hw [] aL (4 : Int32) h0 n0 Z0 F_aL) 1 (by decide) (by decide) E_aL (g := (mkF m 59 #[.val (.int p0), .val (.int p1), .val (.ref aL), .val (.int t), .val (.int (1 : Int32)), .unset] [(.ref aL), (.int (own_fx t))])) rfl (by rw [hml]; rfl) (argsL := []) (rest := [(.int (own_fx t))]) pd2 rfl rfl rfl (by show 2 * 0 + _ ≤ _; exact Nat.le_of_eq rfl) (hb hby at_59) (by decide) (by decide) ?_
      intro T15 v15 L15 X15 hQ15
      obtain ⟨rfl, N15q, e15⟩ := hQ15
      have N15 := Fr.app N14 N15q
      show own_Go p e s below _ _ _ T15 (mkF m 62 #[.val (.int p0), .val (.int p1), .val (.ref aL), .val (.int t), .val (.int (1 : Int32)), .unset] [(.int (4 : Int32)), (.int (own_fx t))])
      have J70' : ∀  (bz : Int32) (_ : bz = own_b (own_I t (aL = aL))), own_Go p e s below (fun (v : Option Value) (h : Heap) (L : List Loc) => v = some (.int 1) ∧ Fr n0 L) 0 0 T15 (mkF m 70 #[.val (.int p0), .val (.int p1), .val (.ref aL), .val (.int t), .val (.int (1 : Int32)), .unset] [(.int bz)]) := by
        rintro _ rfl
        show own_Go p e s below _ _ _ T15 (mkF m 70 #[.val (.int p0), .val (.int p1), .val (.ref aL), .val (.int t), .val (.int (1 : Int32)), .unset] [(.int (own_b (own_I t (aL = aL))))])
        refine own_st (fun _ k => XS.istore X15.here hx rfl (hb hby at_70) rfl (l' := #[.val (.int p0), .val (.int p1), .val (.ref aL), .val (.int t), .val (.int (1 : Int32)), .val (.int (own_b (own_I t (aL = aL))))]) rfl k) ?_
        show own_Go p e s below _ _ _ T15 (mkF m 72 #[.val (.int p0), .val (.int p1), .val (.ref aL), .val (.int t), .val (.int (1 : Int32)), .val (.int (own_b (own_I t (aL = aL))))] [])
        refine own_st (fun _ k => XS.aloadN X15.here hx rfl (hb hby at_72) rfl rfl k) ?_
        show own_Go p e s below _ _ _ T15 (mkF m 73 #[.val (.int p0), .val (.int p1), .val (.ref aL), .val (.int t), .val (.int (1 : Int32)), .val (.int (own_b (own_I t (aL = aL))))] [(.ref aL)])
        refine own_st (fun _ k => XS.iloadN X15.here hx rfl (hb hby at_73) rfl k) ?_
        show own_Go p e s below _ _ _ T15 (mkF m 74 #[.val (.int p0), .val (.int p1), .val (.ref aL), .val (.int t), .val (.int (1 : Int32)), .val (.int (own_b (own_I t (aL = aL))))] [(.int t), (.ref aL)])
        refine own_callV X15 hx hZ (y := (⟨"com/example/fyris/fyris/BinaryFormat$Layout", "inlines", "(I)Z"⟩ : MethodName)) hown (hw _ (List.mem_of_getElem? (i := 3) rfl)) (hw _ (List.mem_of_getElem? (i := 4) rfl)) (hw _ (List.mem_of_getElem? (i := 6) rfl)) (hw _ (List.mem_of_getElem? (i := 5) rfl)) (hw _ (List.mem_of_getElem? (i := 1) rfl)) (hw _ (List.mem_of_getElem? (i := 7) rfl)) (by decide) e15 (rm1 l Z a0 hw [] aL aL t h0 n0 Z0 S_L) 0 (by decide) (by decide) E_aL (g := (mkF m 74 #[.val (.int p0), .val (.int p1), .val (.ref aL), .val (.int t), .val (.int (1 : Int32)), .val (.int (own_b (own_I t (aL = aL))))] [(.int t), (.ref aL)])) rfl (by rw [hml]; rfl) (argsL := [(.int t)]) (rest := []) pd0 rfl rfl rfl (by show 2 * 0 + _ ≤ _; exact Nat.le_of_eq rfl) (hb hby at_74) (by decide) (by decide) ?_
        intro T16 v16 L16 X16 hQ16
        obtain ⟨rfl, N16q, e16⟩ := hQ16
        have N16 := Fr.app N15 N16q
        show own_Go p e s below _ _ _ T16 (mkF m 77 #[.val (.int p0), .val (.int p1), .val (.ref aL), .val (.int t), .val (.int (1 : Int32)), .val (.int (own_b (own_I t (aL = aL))))] [(.int (own_b (own_I t (aL = aL))))])
        refine own_st (fun _ k => XS.iload X16.here hx rfl (hb hby at_77) rfl k) ?_
        show own_Go p e s below _ _ _ T16 (mkF m 79 #[.val (.int p0), .val (.int p1), .val (.ref aL), .val (.int t), .val (.int (1 : Int32)), .val (.int (own_b (own_I t (aL = aL))))] [(.int (own_b (own_I t (aL = aL)))), (.int (own_b (own_I t (aL = aL))))])
        refine own_st (fun _ k => XS.icmpNo X16.here hx rfl (hb hby at_79) rfl (teq (rfl : (own_b (own_I t (aL = aL))) = (own_b (own_I t (aL = aL))))).2 k) ?_
        show own_Go p e s below _ _ _ T16 (mkF m 82 #[.val (.int p0), .val (.int p1), .val (.ref aL), .val (.int t), .val (.int (1 : Int32)), .val (.int (own_b (own_I t (aL = aL))))] [])
        refine own_st (fun _ k => XS.iconst X16.here hx rfl (hb hby at_82) k) ?_
        show own_Go p e s below _ _ _ T16 (mkF m 83 #[.val (.int p0), .val (.int p1), .val (.ref aL), .val (.int t), .val (.int (1 : Int32)), .val (.int (own_b (own_I t (aL = aL))))] [(.int (1 : Int32))])
        refine own_st (fun _ k => XS.goto X16.here hx rfl (pc0 := 83) (pc' := 87) rfl (hb hby at_83) (by decide) (by decide) k) ?_
        show own_Go p e s below _ _ _ T16 (mkF m 87 #[.val (.int p0), .val (.int p1), .val (.ref aL), .val (.int t), .val (.int (1 : Int32)), .val (.int (own_b (own_I t (aL = aL))))] [(.int (1 : Int32))])
        exact own_retN X16 hx hlk (t := .boolean) hret (by simp) (hb hby at_87) (z' := (1 : Int32)) rfl (by decide) (by decide) ⟨rfl, N16⟩
      by_cases c62_17 : (4 : Int32) < (own_fx t)
      · refine own_st (fun _ k => XS.icmpYes X15.here hx rfl (pc0 := 62) (pc' := 69) rfl (hb hby at_62) rfl (tlt c62_17).2.2.1 (by decide) (by decide) k) ?_
        show own_Go p e s below _ _ _ T15 (mkF m 69 #[.val (.int p0), .val (.int p1), .val (.ref aL), .val (.int t), .val (.int (1 : Int32)), .unset] [])
        refine own_st (fun _ k => XS.iconst X15.here hx rfl (hb hby at_69) k) ?_
        show own_Go p e s below _ _ _ T15 (mkF m 70 #[.val (.int p0), .val (.int p1), .val (.ref aL), .val (.int t), .val (.int (1 : Int32)), .unset] [(.int (0 : Int32))])
        exact J70'  _ (by rw [own_bf (fun z => (own_law (fs := 4) (Or.inl ⟨rfl, rfl⟩) ht).mpr z c62_17)])
      · refine own_st (fun _ k => XS.icmpNo X15.here hx rfl (hb hby at_62) rfl (flt c62_17).2.2.1 k) ?_
        show own_Go p e s below _ _ _ T15 (mkF m 65 #[.val (.int p0), .val (.int p1), .val (.ref aL), .val (.int t), .val (.int (1 : Int32)), .unset] [])
        refine own_st (fun _ k => XS.iconst X15.here hx rfl (hb hby at_65) k) ?_
        show own_Go p e s below _ _ _ T15 (mkF m 66 #[.val (.int p0), .val (.int p1), .val (.ref aL), .val (.int t), .val (.int (1 : Int32)), .unset] [(.int (1 : Int32))])
        refine own_st (fun _ k => XS.goto X15.here hx rfl (pc0 := 66) (pc' := 70) rfl (hb hby at_66) (by decide) (by decide) k) ?_
        show own_Go p e s below _ _ _ T15 (mkF m 70 #[.val (.int p0), .val (.int p1), .val (.ref aL), .val (.int t), .val (.int (1 : Int32)), .unset] [(.int (1 : Int32))])
        exact J70'  _ (by rw [own_bt ((own_law (fs := 4) (Or.inl ⟨rfl, rfl⟩) ht).mp c62_17)])
    refine own_st (fun _ k => XS.iloadN X12.here hx rfl (hb hby at_16) rfl k) ?_
    show own_Go p e s below _ _ _ T12 (mkF m 17 #[.val (.int p0), .val (.int p1), .val (.ref aL), .unset, .unset, .unset] [(.int p1)])
    refine own_st (fun _ k => XS.iconst X12.here hx rfl (hb hby at_17) k) ?_
    show own_Go p e s below _ _ _ T12 (mkF m 18 #[.val (.int p0), .val (.int p1), .val (.ref aL), .unset, .unset, .unset] [(.int (2 : Int32)), (.int p1)])
    refine own_st (fun _ k => XS.iand X12.here hx rfl (hb hby at_18) rfl k) ?_
    show own_Go p e s below _ _ _ T12 (mkF m 19 #[.val (.int p0), .val (.int p1), .val (.ref aL), .unset, .unset, .unset] [(.int (p1 &&& (2 : Int32)))])
    by_cases c19_18 : (p1 &&& (2 : Int32)) = (0 : Int32)
    · refine own_st (fun _ k => XS.ifYes X12.here hx rfl (pc0 := 19) (pc' := 26) rfl (hb hby at_19) rfl ((if0 _ _).trans (teq c19_18).1) (by decide) (by decide) k) ?_
      show own_Go p e s below _ _ _ T12 (mkF m 26 #[.val (.int p0), .val (.int p1), .val (.ref aL), .unset, .unset, .unset] [])
      refine own_st (fun _ k => XS.iloadN X12.here hx rfl (hb hby at_26) rfl k) ?_
      show own_Go p e s below _ _ _ T12 (mkF m 27 #[.val (.int p0), .val (.int p1), .val (.ref aL), .unset, .unset, .unset] [(.int p0)])
      refine own_st (fun _ k => XS.bipush X12.here hx rfl (hb hby at_27) k) ?_
      show own_Go p e s below _ _ _ T12 (mkF m 29 #[.val (.int p0), .val (.int p1), .val (.ref aL), .unset, .unset, .unset] [(.int (15 : Int32)), (.int p0)])
      refine own_st (fun _ k => XS.iand X12.here hx rfl (hb hby at_29) rfl k) ?_
      show own_Go p e s below _ _ _ T12 (mkF m 30 #[.val (.int p0), .val (.int p1), .val (.ref aL), .unset, .unset, .unset] [(.int (p0 &&& (15 : Int32)))])
      exact J30 _
    · refine own_st (fun _ k => XS.ifNo X12.here hx rfl (hb hby at_19) rfl ((if0 _ _).trans (feq c19_18).1) k) ?_
      show own_Go p e s below _ _ _ T12 (mkF m 22 #[.val (.int p0), .val (.int p1), .val (.ref aL), .unset, .unset, .unset] [])
      refine own_st (fun _ k => XS.iloadN X12.here hx rfl (hb hby at_22) rfl k) ?_
      show own_Go p e s below _ _ _ T12 (mkF m 23 #[.val (.int p0), .val (.int p1), .val (.ref aL), .unset, .unset, .unset] [(.int p0)])
      refine own_st (fun _ k => XS.goto X12.here hx rfl (pc0 := 23) (pc' := 30) rfl (hb hby at_23) (by decide) (by decide) k) ?_
      show own_Go p e s below _ _ _ T12 (mkF m 30 #[.val (.int p0), .val (.int p1), .val (.ref aL), .unset, .unset, .unset] [(.int p0)])
      exact J30 _
theorem own_fv {args : Array Value} {s : State} {t : Term} {x : Addr} {C n d : String} {k : Int32} (ht : t.eval args s none [] s = some (.ref x)) (h : (Jvm.Cond.eq (Term.field t C n d) (Term.int k)).value args s none s [] = some true) : Fld s s.heap x C n d (.int k) := by
  refine Fld.start ?_
  rw [← fld_at (args := args) (first := s) (o := none) (idx := []) ht]
  obtain ⟨y, z, e1, e2, kin⟩ := cmp_v (Or.inl h)
  have e3 : z = .int k := Option.some.inj (e2.symm.trans (Term.int_eval k))
  subst e3
  rw [e1]
  simp only [Cond.value, e1, Term.int_eval] at h
  cases y <;> simp [Kin] at kin h ⊢
  exact h
set_option maxRecDepth 65536 in
set_option maxHeartbeats 40000000 in
theorem comes_1 {Post : Tables → Env → Array Value → State → Outcome → State → Prop} (hpost : ∀ tb e args s v u, (limb_1_1.after args s (.returned v) u = true ∧ limb_1_2.after args s (.returned v) u = true ∧ True) → FrameEnd s (.returned v) u (Jvm.fieldLocs frame_1_writes args s ++ Jvm.arrayLocs frame_1_arrays args s ++ Jvm.staticLocs frame_1_statics s) 0 0 → Post tb e args s (.returned v) u) :
    ArmFor flags0 classFile x code maxLocals ret World_1 tables_1 room_1 Calls_1 rest_1 Pre_1 Post := by
  intro l hfl _ _ p e ha hc hk s m args below hf hA hF happ hP
  obtain ⟨hcalls, hrest, hpre⟩ := hP
  obtain ⟨-, -, -, hnamed, -, -, -, hat⟩ := (Spec.applies_iff hf).mp happ
  obtain ⟨hg, hn⟩ := and_e (Cond.before_iff.mp (show (Jvm.Cond.and given_1 narrow_1).before args s = true from hpre))
  obtain ⟨h1, hr0⟩ := and_e hg
  obtain ⟨w0, w1, rfl⟩ : ∃ w0 w1 : Value, args = #[w0, w1] := by
    have hs : args.size = 2 := by simpa [Cond.value, given_1] using h1
    obtain ⟨L⟩ := args
    match L, hs with
    | [w0, w1], _ => exact ⟨w0, w1, rfl⟩
  have hw := fun d (hd : d ∈ tables_1) => atoms_spec (ws := Jvm.Cond.code x code maxLocals ret :: tables_1) hat d (List.mem_cons_of_mem _ hd)
  obtain ⟨ha0, hr1⟩ := and_e hr0
  obtain ⟨i0, e0⟩ := is_v ha0
  obtain rfl : w0 = (.int i0) := Option.some.inj e0
  obtain ⟨i1, e1⟩ := is_v hr1
  obtain rfl : w1 = (.int i1) := Option.some.inj e1
  obtain ⟨n1, hn⟩ := and_e hn
  obtain ⟨n2, hn⟩ := and_e hn
  obtain ⟨n3, hn⟩ := and_e hn
  obtain ⟨n4, hn⟩ := and_e hn
  obtain ⟨n5, n6⟩ := and_e hn
  obtain ⟨aL, eL⟩ := exa_v n1
  obtain ⟨aS, eS⟩ := exa_v n2
  have EL := Exa.start eL n1
  have ES := Exa.start eS n2
  have FL := own_fv eL n6
  have FS := own_fv eS n3
  have hne : ¬ aS = aL := fun q => Fld.ne FS FL (by decide) q
  have SL := Sta.start eL (Or.inr ⟨hw _ (List.mem_of_getElem? (i := 1) rfl), hw _ (List.mem_of_getElem? (i := 2) rfl)⟩)
  have SS := Sta.start eS (Or.inr ⟨hw _ (List.mem_of_getElem? (i := 1) rfl), hw _ (List.mem_of_getElem? (i := 9) rfl)⟩)
  obtain ⟨n, o, h1, h2, h3, _, L, rfl, ⟨rfl, N⟩, hq⟩ := rm0 l s _ hw tables_1 i0 i1 s.heap s.heap.size (Nat.le_refl _) aL aS SL SS EL ES FL FS hne p e ha hc hk s m _ below hf ((Spec.applies_iff_loose hf).mp happ).1 ⟨rfl, State.Warmed39.refl s, rfl⟩ trivial
  refine ⟨n, _, h1, h2, h3, hpost _ _ _ _ _ _ ⟨Cond.after_iff.mpr rfl, Cond.after_iff.mpr (eq_i res_at (Term.int_eval (1)) rfl), trivial⟩ ⟨hq.1, hq.2.1, (hq.2.2.sift fun y hy => Or.inr (N y hy)).mono (by decide) (by decide)⟩⟩
theorem main_1_1 : Claimed_1_1 := comes_1 fun _ _ _ _ _ _ h hF => ⟨h.1, hF⟩
theorem main_1_2 : Claimed_1_2 := comes_1 fun _ _ _ _ _ _ h hF => ⟨h.2.1, hF⟩
end Jvm.Pilot.@@N@@
namespace Jvm.Pilot.@@N@@
open Jvm Jvm.ClassFile Sem Op Lib Jvm.Free Jvm.Stand Jvm.Pilot.@@N@@.Jvm.D
/-! MADE BY PROGRAM (witnessworld.py) out of the Statement's table words and the real class files: 13 classes; the members and pool entries that the words name. The judged class is class 1, her method 1. -/
namespace start1
open Jvm.ClassFile
def u (s : String) : CpInfo := .utf8 (stringToUtf16 s)
/-- a pool by its gaps: so many unusable entries, then the entry; so many at the end -/
def gap : Nat → List CpInfo → List CpInfo
  | 0, r => r
  | n + 1, r => .unusable :: gap n r
def poolList (es : List (Nat × CpInfo)) (last : Nat) : List CpInfo := es.foldr (fun e r => gap e.1 (e.2 :: r)) (gap last [])
def pool (es : List (Nat × CpInfo)) (last : Nat) : Array CpInfo := ⟨poolList es last⟩
def fileOf (pool : Array CpInfo) (this : Nat) (attrs : Array Attribute := #[]) (ms : Array MethodInfo := #[]) (fl : Nat := 33) (sup : Nat := 0) (ifs : Array Nat := #[]) (fds : Array FieldInfo := #[]) : ClassFile where
  minorVersion := 0
  majorVersion := 65
  constantPool := pool
  accessFlags := fl
  thisClass := this
  superClass := sup
  interfaces := ifs
  fields := fds
  methods := ms
  attributes := attrs
def plain (name : String) (sup : Option ClassId) : Class where
  name := name
  kind := .ordinary
  loader := none
  accessFlags := 33
  super := sup
  interfaces := #[]
  cf := none
  fields := #[]
  methods := #[]
  instanceTypes := #[]
  staticTypes := #[]
  resolved := #[]
  callSites := []
  init := .initialized
  statics := none
  mirror := none

def pool0 : Array CpInfo := pool [(5, u "<init>"), (0, u "()V"), (1, .class_ 10), (1, u "java/lang/Object")] 113

def k0m0 : Method := { name := "<init>", desc := "()V", sig := { parameters := [], returnType := none }, accessFlags := 1, code := none }
/-- java/lang/Object -/
def k0 : Class := { plain "java/lang/Object" none with
  accessFlags := 33
  interfaces := #[]
  cf := some (fileOf pool0 8 #[] #[{ accessFlags := 1, nameIndex := 5, descriptorIndex := 6, attributes := #[] }] 33 0 #[] #[])
  fields := #[]
  methods := #[k0m0]
  instanceTypes := #[]
  staticTypes := #[]
  resolved := Array.replicate 124 none
  statics := none }

def pool1 : Array CpInfo := pool [(2, .class_ 4), (1, u "java/lang/Object"), (0, u "<init>"), (0, u "()V"), (0, .fieldref 8 9), (0, .class_ 10), (0, .nameAndType 11 12), (0, u "com/example/fyris/fyris/BinaryFormat$Layout"), (0, u "LARGE"), (0, u "Lcom/example/fyris/fyris/BinaryFormat$Layout;"), (0, .fieldref 8 14), (0, .nameAndType 15 12), (0, u "SMALL"), (0, .class_ 17), (0, u "com/example/fyris/fyris/BinaryFormat"), (0, .methodref 16 19), (0, .nameAndType 20 21), (0, u "fixedSize"), (0, u "(I)I"), (0, .methodref 8 23), (0, .nameAndType 24 25), (0, u "fieldSize"), (0, u "()I"), (0, .methodref 8 27), (0, .nameAndType 28 29), (0, u "inlines"), (0, u "(I)Z"), (0, .class_ 31), (0, u "com/example/fyris/fyris/LayoutInlinesPinLaw"), (2, u "law"), (0, u "(II)Z")] 5

def k1m0 : Method := { name := "<init>", desc := "()V", sig := { parameters := [], returnType := none }, accessFlags := 2, code := none }
def k1c1 : Code := { maxStack := 2, maxLocals := 6, code := code, exceptionTable := #[], attributes := #[] }
def k1m1 : Method := { name := "law", desc := "(II)Z", sig := { parameters := [.int, .int], returnType := some .boolean }, accessFlags := 9, code := some k1c1 }
/-- com/example/fyris/fyris/LayoutInlinesPinLaw -/
def k1 : Class := { plain "com/example/fyris/fyris/LayoutInlinesPinLaw" (some 0) with
  accessFlags := 49
  interfaces := #[]
  cf := some (fileOf pool1 30 #[] #[{ accessFlags := 2, nameIndex := 5, descriptorIndex := 6, attributes := #[] }, { accessFlags := 9, nameIndex := 34, descriptorIndex := 35, attributes := #[] }] 49 2 #[] #[])
  fields := #[]
  methods := #[k1m0, k1m1]
  instanceTypes := #[]
  staticTypes := #[]
  resolved := Array.replicate 41 none
  statics := none }

def pool2 : Array CpInfo := pool [(1, .class_ 2), (0, u "java/lang/constant/Constable"), (0, .class_ 4), (0, u "java/lang/Object")] 6

/-- java/lang/constant/Constable -/
def k2 : Class := { plain "java/lang/constant/Constable" (some 0) with
  accessFlags := 1537
  interfaces := #[]
  cf := some (fileOf pool2 1 #[] #[] 1537 3 #[] #[])
  fields := #[]
  methods := #[]
  instanceTypes := #[]
  staticTypes := #[]
  resolved := Array.replicate 11 none
  statics := none }

def pool3 : Array CpInfo := pool [(1, .class_ 2), (0, u "java/lang/Comparable"), (0, .class_ 4), (0, u "java/lang/Object")] 7

/-- java/lang/Comparable -/
def k3 : Class := { plain "java/lang/Comparable" (some 0) with
  accessFlags := 1537
  interfaces := #[]
  cf := some (fileOf pool3 1 #[] #[] 1537 3 #[] #[])
  fields := #[]
  methods := #[]
  instanceTypes := #[]
  staticTypes := #[]
  resolved := Array.replicate 12 none
  statics := none }

def pool4 : Array CpInfo := pool [(1, .class_ 2), (0, u "java/io/Serializable"), (0, .class_ 4), (0, u "java/lang/Object")] 2

/-- java/io/Serializable -/
def k4 : Class := { plain "java/io/Serializable" (some 0) with
  accessFlags := 1537
  interfaces := #[]
  cf := some (fileOf pool4 1 #[] #[] 1537 3 #[] #[])
  fields := #[]
  methods := #[]
  instanceTypes := #[]
  staticTypes := #[]
  resolved := Array.replicate 7 none
  statics := none }

def pool5 : Array CpInfo := pool [(2, .class_ 4), (1, u "java/lang/Enum"), (0, u "name"), (0, u "Ljava/lang/String;"), (2, u "ordinal"), (0, u "I"), (1, .class_ 14), (1, u "java/lang/Object"), (4, u "hash"), (86, .class_ 108), (1, u "java/lang/Enum$EnumDesc"), (2, .class_ 112), (0, u "java/lang/constant/Constable"), (0, .class_ 114), (0, u "java/lang/Comparable"), (0, .class_ 116), (0, u "java/io/Serializable")] 87

/-- java/lang/Enum -/
def k5 : Class := { plain "java/lang/Enum" (some 0) with
  accessFlags := 1057
  interfaces := #[2, 3, 4]
  cf := some (fileOf pool5 2 #[.nestMembers #[106]] #[] 1057 12 #[111, 113, 115] #[{ accessFlags := 18, nameIndex := 5, descriptorIndex := 6, attributes := #[] }, { accessFlags := 18, nameIndex := 9, descriptorIndex := 10, attributes := #[] }, { accessFlags := 2, nameIndex := 19, descriptorIndex := 10, attributes := #[] }])
  fields := #[{ name := "name", type := (.object "java/lang/String"), accessFlags := 18, slot := 0, constantValue := 0 }, { name := "ordinal", type := .int, accessFlags := 18, slot := 1, constantValue := 0 }, { name := "hash", type := .int, accessFlags := 2, slot := 2, constantValue := 0 }]
  methods := #[]
  instanceTypes := #[(.object "java/lang/String"), .int, .int]
  staticTypes := #[]
  resolved := Array.replicate 204 none
  statics := none }

def pool6 : Array CpInfo := pool [(1, .class_ 2), (0, u "com/example/fyris/fyris/BinaryFormat"), (0, .class_ 4), (0, u "com/example/fyris/fyris/BinaryFormat$Layout"), (2, u "SMALL"), (0, u "Lcom/example/fyris/fyris/BinaryFormat$Layout;"), (0, .fieldref 3 10), (0, .nameAndType 11 8), (0, u "LARGE"), (2, u "$VALUES"), (0, u "[Lcom/example/fyris/fyris/BinaryFormat$Layout;"), (6, .class_ 24), (1, u "java/lang/Enum"), (6, .fieldref 3 32), (0, .nameAndType 33 34), (0, u "fieldSize"), (0, u "I"), (2, u "objectType"), (2, u "arrayType"), (12, u "SMALL_LIMIT"), (0, u "J"), (12, u "()I"), (3, u "(I)Z"), (3, u "inlines")] 8

def k6c0 : Code := { maxStack := 1, maxLocals := 1, code := prog_2_method_5_code, exceptionTable := #[], attributes := #[] }
def k6m0 : Method := { name := "fieldSize", desc := "()I", sig := { parameters := [], returnType := some .int }, accessFlags := 0, code := some k6c0 }
def k6c1 : Code := { maxStack := 2, maxLocals := 2, code := prog_2_method_11_code, exceptionTable := #[], attributes := #[] }
def k6m1 : Method := { name := "inlines", desc := "(I)Z", sig := { parameters := [.int], returnType := some .boolean }, accessFlags := 0, code := some k6c1 }
/-- com/example/fyris/fyris/BinaryFormat$Layout -/
def k6 : Class := { plain "com/example/fyris/fyris/BinaryFormat$Layout" (some 5) with
  accessFlags := 16432
  interfaces := #[]
  cf := some (fileOf pool6 3 #[.nestHost 1] #[{ accessFlags := 0, nameIndex := 33, descriptorIndex := 67, attributes := #[] }, { accessFlags := 0, nameIndex := 75, descriptorIndex := 71, attributes := #[] }] 16432 22 #[] #[{ accessFlags := 16409, nameIndex := 7, descriptorIndex := 8, attributes := #[] }, { accessFlags := 16409, nameIndex := 11, descriptorIndex := 8, attributes := #[] }, { accessFlags := 24, nameIndex := 53, descriptorIndex := 54, attributes := #[] }, { accessFlags := 18, nameIndex := 33, descriptorIndex := 34, attributes := #[] }, { accessFlags := 18, nameIndex := 37, descriptorIndex := 34, attributes := #[] }, { accessFlags := 18, nameIndex := 40, descriptorIndex := 34, attributes := #[] }, { accessFlags := 4122, nameIndex := 14, descriptorIndex := 15, attributes := #[] }])
  fields := #[{ name := "SMALL", type := (.object "com/example/fyris/fyris/BinaryFormat$Layout"), accessFlags := 16409, slot := 0, constantValue := 0 }, { name := "LARGE", type := (.object "com/example/fyris/fyris/BinaryFormat$Layout"), accessFlags := 16409, slot := 1, constantValue := 0 }, { name := "SMALL_LIMIT", type := .long, accessFlags := 24, slot := 2, constantValue := 0 }, { name := "fieldSize", type := .int, accessFlags := 18, slot := 3, constantValue := 0 }, { name := "objectType", type := .int, accessFlags := 18, slot := 4, constantValue := 0 }, { name := "arrayType", type := .int, accessFlags := 18, slot := 5, constantValue := 0 }, { name := "$VALUES", type := (.array (.object "com/example/fyris/fyris/BinaryFormat$Layout")), accessFlags := 4122, slot := 3, constantValue := 0 }]
  methods := #[k6m0, k6m1]
  instanceTypes := #[(.object "java/lang/String"), .int, .int, .int, .int, .int]
  staticTypes := #[(.object "com/example/fyris/fyris/BinaryFormat$Layout"), (.object "com/example/fyris/fyris/BinaryFormat$Layout"), .long, (.array (.object "com/example/fyris/fyris/BinaryFormat$Layout"))]
  resolved := Array.replicate 84 none
  statics := some 0 }

def pool7 : Array CpInfo := pool [(2, .class_ 4), (1, u "java/lang/Object"), (0, u "<init>"), (0, u "()V"), (0, .class_ 8), (0, u "com/example/fyris/fyris/BinaryFormat"), (9, u "SMALL_OBJECT"), (0, u "I"), (2, u "LARGE_OBJECT"), (1, u "SMALL_ARRAY"), (1, u "LARGE_ARRAY"), (1, u "LITERAL"), (1, u "INT16"), (1, u "UINT16"), (1, u "INT32"), (1, u "UINT32"), (1, u "INT64"), (1, u "UINT64"), (1, u "DOUBLE"), (1, u "STRING"), (1, u "OPAQUE"), (1, u "NULL_LITERAL"), (0, u "TRUE_LITERAL"), (0, u "FALSE_LITERAL"), (0, u "KEY_LENGTH_SIZE"), (0, u "MAX_KEY_LENGTH"), (1, u "MAX_LENGTH_PREFIX"), (9, u "fixedSize"), (0, u "(I)I"), (3, .class_ 70), (0, u "com/example/fyris/fyris/BinaryFormat$Layout")] 16

def k7m0 : Method := { name := "<init>", desc := "()V", sig := { parameters := [], returnType := none }, accessFlags := 2, code := none }
def k7c1 : Code := { maxStack := 3, maxLocals := 1, code := prog_1_method_5_code, exceptionTable := #[], attributes := #[] }
def k7m1 : Method := { name := "fixedSize", desc := "(I)I", sig := { parameters := [.int], returnType := some .int }, accessFlags := 8, code := some k7c1 }
/-- com/example/fyris/fyris/BinaryFormat -/
def k7 : Class := { plain "com/example/fyris/fyris/BinaryFormat" (some 0) with
  accessFlags := 48
  interfaces := #[]
  cf := some (fileOf pool7 7 #[.nestMembers #[69]] #[{ accessFlags := 2, nameIndex := 5, descriptorIndex := 6, attributes := #[] }, { accessFlags := 8, nameIndex := 64, descriptorIndex := 65, attributes := #[] }] 48 2 #[] #[{ accessFlags := 24, nameIndex := 18, descriptorIndex := 19, attributes := #[] }, { accessFlags := 24, nameIndex := 22, descriptorIndex := 19, attributes := #[] }, { accessFlags := 24, nameIndex := 24, descriptorIndex := 19, attributes := #[] }, { accessFlags := 24, nameIndex := 26, descriptorIndex := 19, attributes := #[] }, { accessFlags := 24, nameIndex := 28, descriptorIndex := 19, attributes := #[] }, { accessFlags := 24, nameIndex := 30, descriptorIndex := 19, attributes := #[] }, { accessFlags := 24, nameIndex := 32, descriptorIndex := 19, attributes := #[] }, { accessFlags := 24, nameIndex := 34, descriptorIndex := 19, attributes := #[] }, { accessFlags := 24, nameIndex := 36, descriptorIndex := 19, attributes := #[] }, { accessFlags := 24, nameIndex := 38, descriptorIndex := 19, attributes := #[] }, { accessFlags := 24, nameIndex := 40, descriptorIndex := 19, attributes := #[] }, { accessFlags := 24, nameIndex := 42, descriptorIndex := 19, attributes := #[] }, { accessFlags := 24, nameIndex := 44, descriptorIndex := 19, attributes := #[] }, { accessFlags := 24, nameIndex := 46, descriptorIndex := 19, attributes := #[] }, { accessFlags := 24, nameIndex := 48, descriptorIndex := 19, attributes := #[] }, { accessFlags := 24, nameIndex := 49, descriptorIndex := 19, attributes := #[] }, { accessFlags := 24, nameIndex := 50, descriptorIndex := 19, attributes := #[] }, { accessFlags := 24, nameIndex := 51, descriptorIndex := 19, attributes := #[] }, { accessFlags := 24, nameIndex := 52, descriptorIndex := 19, attributes := #[] }, { accessFlags := 24, nameIndex := 54, descriptorIndex := 19, attributes := #[] }])
  fields := #[{ name := "SMALL_OBJECT", type := .int, accessFlags := 24, slot := 0, constantValue := 0 }, { name := "LARGE_OBJECT", type := .int, accessFlags := 24, slot := 1, constantValue := 0 }, { name := "SMALL_ARRAY", type := .int, accessFlags := 24, slot := 2, constantValue := 0 }, { name := "LARGE_ARRAY", type := .int, accessFlags := 24, slot := 3, constantValue := 0 }, { name := "LITERAL", type := .int, accessFlags := 24, slot := 4, constantValue := 0 }, { name := "INT16", type := .int, accessFlags := 24, slot := 5, constantValue := 0 }, { name := "UINT16", type := .int, accessFlags := 24, slot := 6, constantValue := 0 }, { name := "INT32", type := .int, accessFlags := 24, slot := 7, constantValue := 0 }, { name := "UINT32", type := .int, accessFlags := 24, slot := 8, constantValue := 0 }, { name := "INT64", type := .int, accessFlags := 24, slot := 9, constantValue := 0 }, { name := "UINT64", type := .int, accessFlags := 24, slot := 10, constantValue := 0 }, { name := "DOUBLE", type := .int, accessFlags := 24, slot := 11, constantValue := 0 }, { name := "STRING", type := .int, accessFlags := 24, slot := 12, constantValue := 0 }, { name := "OPAQUE", type := .int, accessFlags := 24, slot := 13, constantValue := 0 }, { name := "NULL_LITERAL", type := .int, accessFlags := 24, slot := 14, constantValue := 0 }, { name := "TRUE_LITERAL", type := .int, accessFlags := 24, slot := 15, constantValue := 0 }, { name := "FALSE_LITERAL", type := .int, accessFlags := 24, slot := 16, constantValue := 0 }, { name := "KEY_LENGTH_SIZE", type := .int, accessFlags := 24, slot := 17, constantValue := 0 }, { name := "MAX_KEY_LENGTH", type := .int, accessFlags := 24, slot := 18, constantValue := 0 }, { name := "MAX_LENGTH_PREFIX", type := .int, accessFlags := 24, slot := 19, constantValue := 0 }]
  methods := #[k7m0, k7m1]
  instanceTypes := #[]
  staticTypes := #[.int, .int, .int, .int, .int, .int, .int, .int, .int, .int, .int, .int, .int, .int, .int, .int, .int, .int, .int, .int]
  resolved := Array.replicate 87 none
  statics := none }

def pool8 : Array CpInfo := pool [(1, u "java/lang/Cloneable"), (0, .class_ 1), (0, u "java/lang/Object"), (0, .class_ 3)] 3

/-- java/lang/Cloneable -/
def k8 : Class := { plain "java/lang/Cloneable" (some 0) with
  accessFlags := 1537
  interfaces := #[]
  cf := some (fileOf pool8 2 #[] #[] 1537 4 #[] #[])
  fields := #[]
  methods := #[]
  instanceTypes := #[]
  staticTypes := #[]
  resolved := Array.replicate 8 none
  statics := none }

/-- the primitive byte -/
def k9 : Class := { plain "byte" none with kind := .primitive 'B', accessFlags := 0x411 }
/-- [B -/
def k10 : Class := { plain "[B" (some 0) with kind := .array 9 .byte, interfaces := #[8, 4], accessFlags := 1041 }

/-- the primitive int -/
def k11 : Class := { plain "int" none with kind := .primitive 'I', accessFlags := 0x411 }
/-- [I -/
def k12 : Class := { plain "[I" (some 0) with kind := .array 11 .int, interfaces := #[8, 4], accessFlags := 1041 }

def heap : Heap := #[{ cls := 6, slots := #[.ref 1, .ref 2, .long 0, .null], vm := .statics 6 },
  { cls := 6, slots := #[.null, .int 0, .int 0, .int 2, .int 0, .int 0], vm := .none },
  { cls := 6, slots := #[.null, .int 1, .int 0, .int 4, .int 0, .int 0], vm := .none }]
def classes : Array Class := #[k0, k1, k2, k3, k4, k5, k6, k7, k8, k9, k10, k11, k12]
def interned : List (Array UInt16 × Addr) := []
def slotsUsed : Nat := 16
def theMethod : MethodId := ⟨1, 1⟩
def args0 : Array Value := #[.int 5, .int 3]
def aboutOver (below : List Frame) : State where
  vm := { classes := classes, interned := interned.toArray }
  heap := heap
  slotsUsed := slotsUsed
  threads := #[{ frames := .invoking theMethod args0 :: below }]
def below0 : List Frame := [.native { method := ⟨0, 0⟩, args := #[] }]
def about1 : State := aboutOver below0
def p0 : Program := .bare "" "" ""
def e0 : Env := launch0.env 0 0 0
theorem w_frames : about1.frames = Frame.invoking theMethod args0 :: below0 := rfl
set_option maxRecDepth 65536 in
theorem w_args : argsFit about1.vm theMethod args0 = true := by decide +kernel
set_option maxRecDepth 65536 in
theorem w_heap : heapFits about1 = true := by decide +kernel
set_option maxRecDepth 65536 in
theorem w_runnable : about1.curStatus? = some .runnable := by decide +kernel
set_option maxRecDepth 65536 in
theorem w_alone : about1.alone = true := by decide +kernel
set_option maxRecDepth 65536 in
theorem w_named : about1.methodNamed? x = some theMethod := by decide +kernel
set_option maxRecDepth 65536 in
theorem w_hears : about1.hears theMethod below0 = true := by decide +kernel
set_option maxRecDepth 65536 in
theorem w_ripe : about1.ripe theMethod args0 below0 = true := by decide +kernel
theorem w_running : about1.status = .running := rfl
set_option maxRecDepth 65536 in
theorem w_room : about1.hasRoom e0.platform room_1 = true :=
  launch0.hasRoom_least _ room_1 (by decide +kernel) (by decide +kernel) (by decide +kernel) (by decide +kernel) (by decide +kernel) (by decide +kernel)
theorem allAtoms_all (ts : List Jvm.Cond) (a : Array Jvm.Value) (st : Jvm.State) : (allAtoms ts).before a st = ts.all (fun c => c.before a st) := by
  induction ts with
  | nil => rfl
  | cons c t ih =>
    show (Jvm.Cond.and c (allAtoms t)).before a st = _
    rw [Jvm.Cond.before_and, ih, List.all_cons]
def words1 : List Jvm.Cond := Jvm.Cond.code x code maxLocals ret :: tables_1
/-- a 'code' word, met by the world's own term for the bytes: nothing is compared byte by byte -/
theorem code_word {y : MethodName} {bytes : ByteArray} {mx : Nat} {rt : Option FieldType} {a : Array Value} {s : State} {m : MethodId} {meth : Method} {c : Code} (h1 : s.methodNamed? y = some m) (h2 : s.vm.method? m = some meth) (h3 : meth.code = some c) (h4 : c.code = bytes)
    (h5 : (c.maxLocals == mx && c.exceptionTable.isEmpty && decide (c.maxStack ≤ mostOperands) && decide (meth.sig.returnType = rt) && !meth.locks && decide (parseMethodDescriptor y.desc = some meth.sig)) = true) : (Jvm.Cond.code y bytes mx rt).before a s = true := by
  simp only [Bool.and_eq_true, beq_iff_eq, Bool.not_eq_true', decide_eq_true_eq] at h5
  obtain ⟨⟨⟨⟨⟨g1, g2⟩, g3⟩, g4⟩, g5⟩, g6⟩ := h5
  simp [Cond.before, Cond.holds, Cond.value, h1, h2, h3, h4, g1, g2, g3, g4, g5, g6]
def isCode : Jvm.Cond → Bool
  | .code _ _ _ _ => true
  | _ => false
theorem all_split {L : List Jvm.Cond} {P : Jvm.Cond → Bool} (h1 : L.all (fun c => isCode c || P c) = true) (h2 : ∀ c ∈ L.filter isCode, P c = true) : L.all P = true := by
  refine List.all_eq_true.mpr fun c hc => ?_
  have h := List.all_eq_true.mp h1 c hc
  rcases Bool.eq_false_or_eq_true (isCode c) with hi | hi
  · exact h2 c (List.mem_filter.mpr ⟨hc, hi⟩)
  · simpa [hi] using h
set_option maxRecDepth 65536 in
theorem w_c0 : (Jvm.Cond.code x code maxLocals ret).before args0 about1 = true := code_word (m := ⟨1, 1⟩) (meth := k1m1) (c := k1c1) (by decide +kernel) rfl rfl rfl (by decide +kernel)
set_option maxRecDepth 65536 in
theorem w_c1 : (Jvm.Cond.code ({ cls := "com/example/fyris/fyris/BinaryFormat$Layout", name := "inlines", desc := "(I)Z" } : Jvm.MethodName) prog_2_method_11_code (2 : Nat) (Option.some Jvm.ClassFile.FieldType.boolean)).before args0 about1 = true := code_word (m := ⟨6, 1⟩) (meth := k6m1) (c := k6c1) (by decide +kernel) rfl rfl rfl (by decide +kernel)
set_option maxRecDepth 65536 in
theorem w_c2 : (Jvm.Cond.code ({ cls := "com/example/fyris/fyris/BinaryFormat", name := "fixedSize", desc := "(I)I" } : Jvm.MethodName) prog_1_method_5_code (1 : Nat) (Option.some Jvm.ClassFile.FieldType.int)).before args0 about1 = true := code_word (m := ⟨7, 1⟩) (meth := k7m1) (c := k7c1) (by decide +kernel) rfl rfl rfl (by decide +kernel)
set_option maxRecDepth 65536 in
theorem w_c3 : (Jvm.Cond.code ({ cls := "com/example/fyris/fyris/BinaryFormat$Layout", name := "fieldSize", desc := "()I" } : Jvm.MethodName) prog_2_method_5_code (1 : Nat) (Option.some Jvm.ClassFile.FieldType.int)).before args0 about1 = true := code_word (m := ⟨6, 0⟩) (meth := k6m0) (c := k6c0) (by decide +kernel) rfl rfl rfl (by decide +kernel)
def codes1 : List Jvm.Cond := [Jvm.Cond.code x code maxLocals ret, Jvm.Cond.code ({ cls := "com/example/fyris/fyris/BinaryFormat$Layout", name := "inlines", desc := "(I)Z" } : Jvm.MethodName) prog_2_method_11_code (2 : Nat) (Option.some Jvm.ClassFile.FieldType.boolean), Jvm.Cond.code ({ cls := "com/example/fyris/fyris/BinaryFormat", name := "fixedSize", desc := "(I)I" } : Jvm.MethodName) prog_1_method_5_code (1 : Nat) (Option.some Jvm.ClassFile.FieldType.int), Jvm.Cond.code ({ cls := "com/example/fyris/fyris/BinaryFormat$Layout", name := "fieldSize", desc := "()I" } : Jvm.MethodName) prog_2_method_5_code (1 : Nat) (Option.some Jvm.ClassFile.FieldType.int)]
set_option maxRecDepth 65536 in
theorem codes_eq : words1.filter isCode = codes1 := rfl
theorem w_codes : ∀ c ∈ words1.filter isCode, c.before args0 about1 = true := by
  rw [codes_eq]
  intro c hc
  simp only [codes1, List.mem_cons, List.not_mem_nil, or_false] at hc
  rcases hc with rfl | rfl | rfl | rfl
  · exact w_c0
  · exact w_c1
  · exact w_c2
  · exact w_c3
set_option maxRecDepth 65536 in
theorem w_t1 : words1.all (fun c => isCode c || c.before args0 about1) = true := by decide +kernel
theorem w_tables : (allAtoms (Jvm.Cond.code x code maxLocals ret :: tables_1)).before args0 about1 = true := by
  rw [allAtoms_all]
  show words1.all (fun c => c.before args0 about1) = true
  refine all_split ?_ w_codes
  rw [w_t1]
set_option maxRecDepth 65536 in
theorem w_case : (Jvm.Cond.and given_1 narrow_1).before args0 about1 = true := by decide +kernel
theorem w_applies : (headSpec (Jvm.Cond.code x code maxLocals ret :: tables_1) room_1).applies x e0.platform about1 = true :=
  (Spec.applies_iff w_frames).mpr ⟨w_running, w_runnable, w_alone, w_named, w_hears, w_ripe, w_room, w_tables⟩
theorem atStart : AtStart classFile x code maxLocals ret World_1 tables_1 room_1 Calls_1 rest_1 Pre_1 launch0 p0 e0 about1 theMethod args0 below0 :=
  ⟨lists_1, trivial, launch0.admits_env _ _ _, launch0.least_env, fairChoices_fair.cas, fairChoices_fair.clock, w_frames, w_args, w_heap, w_applies, trivial, trivial, w_case⟩
end start1
theorem witness_1 : WitnessClaimed_1 := ⟨start1.p0, start1.e0, start1.about1, start1.theMethod, start1.args0, start1.below0, start1.atStart⟩
end Jvm.Pilot.@@N@@
