import JvmDerived
import JvmDerived.Pilot.@@N@@Statement
import JvmDerived.Pilot.@@N@@Code
set_option linter.unusedVariables false
set_option linter.unusedSimpArgs false
namespace Jvm.Pilot.@@N@@
open Jvm Jvm.ClassFile Sem Op Lib Jvm.Free Jvm.Stand Jvm.LawKit Jvm.RoadKit Bundle Jvm.Pilot.@@N@@.Jvm.D
/-! the walk in the form of what is still to be run: own_Go T g says that the run from the frame g on T ends as promised -/
section OwnKit
variable {p : Program} {l : Launch} {e : Env} {R : Room} {s : State} {m : MethodId} {args : Array Value} {below : List Frame} {meth : Method} {c : Code} {T : State} {locs : List Loc} {cells slots : Nat} {Z : State} {h : Heap} {a0 : Array Value} {Q : Option Value → Heap → List Loc → Prop} {cm sm : Nat}
def own_Go (p : Program) (e : Env) (s : State) (below : List Frame) (Q : Option Value → Heap → List Loc → Prop) (cm sm : Nat) (T : State) (g : JFrame) : Prop :=
  ∃ (U : State) (o : Outcome), Steps p.tables e below (T.setTop g) U ∧ U.status = .running ∧ Ended U below o ∧ ∃ v L, o = .returned v ∧ Q v U.heap L ∧ FrameEnd s o U L cm sm
theorem own_st {T' : State} {g g' : JFrame} (h : ∀ t, Steps p.tables e below (T'.setTop g') t → Steps p.tables e below (T.setTop g) t) (k : own_Go p e s below Q cm sm T' g') : own_Go p e s below Q cm sm T g := by
  obtain ⟨U, o, h1, h2⟩ := k
  exact ⟨U, o, h U h1, h2⟩
abbrev own_Met (l : Launch) (Z : State) (y : MethodName) (bytes : ByteArray) (ml : Nat) (ret : Option FieldType) (rm : Room) (ws : List Jvm.Cond) (as : Array Value) (h : Heap) (Q : Option Value → Heap → List Loc → Prop) (cm sm : Nat) : Prop :=
  MetFree l y (head1 (Jvm.Cond.code y bytes ml ret :: ws) rm) (fun a U => a = as ∧ Z.Warmed39 U.vm ∧ U.heap = h) (fun _ _ _ _ _ => True) (fun _ U o U' => ∃ v L, o = .returned v ∧ Q v U'.heap L ∧ FrameEnd U o U' L cm sm)
theorem own_enter {y : MethodName} {bytes : ByteArray} {ml : Nat} {ret : Option FieldType} {rm : Room} {ws : List Jvm.Cond} {as : Array Value} {Ls : Array Slot}
    (hp : plainFor y = true) (hef : ∀ m, entryFrame m as ml = mkF m 0 Ls [])
    (body : ∀ (p : Program) (e : Env) (s : State) (m : MethodId) (below : List Frame) (meth : Method) (c : Code) (T : State), p.tables.exec = Jvm.exec → c.code = bytes → c.maxLocals = ml → s.vm.findClass y.cls = some m.cls → meth.name = y.name → meth.sig.returnType = ret → meth.locks = false → Z.Warmed39 s.vm →
      Stand p l e rm s m as below meth c T [] 0 0 → T.heap = h → own_Go p e s below Q cm sm T (mkF m 0 Ls [])) :
    own_Met l Z y bytes ml ret rm ws as h Q cm sm := by
  refine MetFree.of_bodySF hp hisR ?_
  intro p e s m args below meth c s₁ Bd hml0 hP hK
  obtain ⟨rfl, hZ, hh⟩ := hP
  obtain ⟨U, o, h1, h2⟩ := body p e s m below meth c s₁ Bd.exec Bd.bytes hml0 (findClass_of_methodNamed Bd.named) (name_of_methodNamed Bd.named Bd.method).1 Bd.returns (BodyLoose.notSynchronized Bd) hZ (Stand.of_body Bd) (by rw [← hh, Bd.state]; rfl)
  exact ⟨U, o, castTop (hef m) h1, h2⟩
/-! returns -/
theorem own_retN (X : Stand p l e R s m args below meth c T locs cells slots) (hx : p.tables.exec = Jvm.exec) (hlk : meth.locks = false) {t : FieldType} (hret : meth.sig.returnType = some t) (ht : t = .boolean ∨ t = .byte ∨ t = .char ∨ t = .short) {pc : Nat} {Ls : Array Slot} {z z' : Int32} {rest : List Value}
    (hd : decode c.code pc = .ok (.ireturn, 1)) (hz : nar t z = z') (hc : cells ≤ cm) (hs : slots ≤ sm) (hQ : Q (some (.int z')) T.heap locs) : own_Go p e s below Q cm sm T (mkF m pc Ls (.int z :: rest)) := by
  subst hz
  obtain ⟨fs, hr, hrun, hended, hW, hsame⟩ := X.leave (v := some (.int (nar t z))) (fun h => by rw [hret] at h; cases h) hlk
  exact ⟨_, _, retN X hx hret ht hd hr, hrun, hended, _, _, rfl, hQ, ⟨_, rfl⟩, hW, hsame.mono hc hs⟩
theorem own_retI (X : Stand p l e R s m args below meth c T locs cells slots) (hx : p.tables.exec = Jvm.exec) (hlk : meth.locks = false) (hret : meth.sig.returnType = some .int) {pc : Nat} {Ls : Array Slot} {z : Int32} {rest : List Value}
    (hd : decode c.code pc = .ok (.ireturn, 1)) (hc : cells ≤ cm) (hs : slots ≤ sm) (hQ : Q (some (.int z)) T.heap locs) : own_Go p e s below Q cm sm T (mkF m pc Ls (.int z :: rest)) := by
  obtain ⟨fs, hr, hrun, hended, hW, hsame⟩ := X.leave (v := some (.int z)) (fun h => by rw [hret] at h; cases h) hlk
  exact ⟨_, _, retOut X hx hret rfl (Or.inl ⟨rfl, Or.inl rfl, _, rfl⟩) hd hr, hrun, hended, _, _, rfl, hQ, ⟨_, rfl⟩, hW, hsame.mono hc hs⟩
theorem own_retJ (X : Stand p l e R s m args below meth c T locs cells slots) (hx : p.tables.exec = Jvm.exec) (hlk : meth.locks = false) (hret : meth.sig.returnType = some .long) {pc : Nat} {Ls : Array Slot} {z : Int64} {rest : List Value}
    (hd : decode c.code pc = .ok (.lreturn, 1)) (hc : cells ≤ cm) (hs : slots ≤ sm) (hQ : Q (some (.long z)) T.heap locs) : own_Go p e s below Q cm sm T (mkF m pc Ls (.long z :: rest)) := by
  obtain ⟨fs, hr, hrun, hended, hW, hsame⟩ := X.leave (v := some (.long z)) (fun h => by rw [hret] at h; cases h) hlk
  exact ⟨_, _, retOut X hx hret rfl (Or.inr (Or.inl ⟨rfl, rfl, _, rfl⟩)) hd hr, hrun, hended, _, _, rfl, hQ, ⟨_, rfl⟩, hW, hsame.mono hc hs⟩
theorem own_retR (X : Stand p l e R s m args below meth c T locs cells slots) (hx : p.tables.exec = Jvm.exec) (hlk : meth.locks = false) {t : FieldType} (hret : meth.sig.returnType = some t) (ht : t.isReference = true) {pc : Nat} {Ls : Array Slot} {w : Value} (hw : w.isRef = true) (hn : narrow t w = w) {rest : List Value}
    (hd : decode c.code pc = .ok (.areturn, 1)) (hc : cells ≤ cm) (hs : slots ≤ sm) (hQ : Q (some w) T.heap locs) : own_Go p e s below Q cm sm T (mkF m pc Ls (w :: rest)) := by
  obtain ⟨fs, hr, hrun, hended, hW, hsame⟩ := X.leave (v := some w) (fun h => by rw [hret] at h; cases h) hlk
  exact ⟨_, _, retOut X hx hret hn (Or.inr (Or.inr (Or.inr (Or.inr ⟨rfl, ht, hw⟩)))) hd hr, hrun, hended, _, _, rfl, hQ, ⟨_, rfl⟩, hW, hsame.mono hc hs⟩
theorem own_ret0 (X : Stand p l e R s m args below meth c T locs cells slots) (hx : p.tables.exec = Jvm.exec) (hlk : meth.locks = false) (hret : meth.sig.returnType = none) {pc : Nat} {Ls : Array Slot}
    (hd : decode c.code pc = .ok (.return_, 1)) (hc : cells ≤ cm) (hs : slots ≤ sm) (hQ : Q none T.heap locs) : own_Go p e s below Q cm sm T (mkF m pc Ls []) := by
  obtain ⟨fs, hr, hrun, hended, hW, hsame⟩ := X.leave (v := none) (fun _ => rfl) hlk
  exact ⟨_, _, X.returnOut hx hret hd hr, hrun, hended, _, _, rfl, hQ, ⟨_, rfl⟩, hW, hsame.mono hc hs⟩
/-! calls by the callee's contract -/
theorem own_callS (X : Stand p l e R s m args below meth c T locs cells slots) (hx : p.tables.exec = Jvm.exec) (hZ : Z.Warmed39 s.vm) {own : String} {index : Nat} {y : MethodName} {bytes : ByteArray} {maxL : Nat} {ret : Option FieldType} (hown : s.vm.findClass own = some m.cls)
    (w1 : (Jvm.Cond.methodLink own index y).before a0 Z = true) (w2 : (Jvm.Cond.static y).before a0 Z = true) (w3 : (Jvm.Cond.initialized y.cls).before a0 Z = true) (w4 : (Jvm.Cond.code y bytes maxL ret).before a0 Z = true)
    (hy : y.cls ≠ "java/lang/invoke/MethodHandle" ∧ y.cls ≠ "java/lang/invoke/VarHandle") {rm : Room} {as : Array Value} {Qc : Option Value → Heap → List Loc → Prop} (eT : T.heap = h)
    (hM : own_Met l Z y bytes maxL ret rm [] as h Qc rm.cells rm.slots) (W : Nat) (hf : rm.frames + 1 ≤ R.frames) (hl : W + (maxL + 11) + rm.locals ≤ R.locals)
    {g : JFrame} (hg : g.method = m) (hsize : g.locals.size = c.maxLocals) {argsL rest : List Value} {ps : List FieldType} {r : Option FieldType} (hpd : parseMethodDescriptor y.desc = some ⟨ps, r⟩) (hlen : argsL.length = ps.length) (has : argsL.toArray = as)
    (hstack : g.stack = argsL.reverse ++ rest) (hW : 2 * g.monitorRoom + (rest.map fun v => v.category).sum ≤ W) (hdg : decode c.code g.pc = .ok (.invokestatic index, 3)) (hc : cells + rm.cells ≤ R.cells) (hs : slots + rm.slots ≤ R.slots)
    (k : ∀ (T' : State) (v : Option Value) (Lc : List Loc), Stand p l e R s m args below meth c T' (locs ++ Lc) (cells + rm.cells) (slots + rm.slots) → Qc v T'.heap Lc → own_Go p e s below Q cm sm T' { g with pc := g.pc + 3, stack := v.toList ++ rest }) :
    own_Go p e s below Q cm sm T g := by
  obtain ⟨v, _, ⟨T', L', k', n'⟩, -, X', ⟨Lc, hQ, l1, y1, z1⟩, st⟩ := Jvm.LawKit.callS X hx (y := y) hown (mvT hZ w1) (mvT hZ w2) (mvT hZ w3) (mvT hZ w4) hy (backOf (W := W) hM hZ w4 w3 hf hl) hg hsize (argsL := argsL) (rest := rest) (lenOf hpd hlen) hstack hW hdg (fun _ _ => ⟨has, eT, hc, hs⟩)
  dsimp only [Pt.U, Pt.locs, Pt.cells, Pt.slots] at X' l1 y1 z1 st hQ
  subst l1 y1 z1
  exact own_st st (k T' v Lc X' hQ)
theorem own_callN (X : Stand p l e R s m args below meth c T locs cells slots) (hx : p.tables.exec = Jvm.exec) (hZ : Z.Warmed39 s.vm) {own : String} {index : Nat} {y : MethodName} {bytes : ByteArray} {maxL : Nat} (hy1 : y.name = "<init>") (hown : s.vm.findClass own = some m.cls)
    (w1 : (Jvm.Cond.methodLink own index y).before a0 Z = true) (w2 : (Jvm.Cond.instanceMethod y).before a0 Z = true) (w3 : (Jvm.Cond.initialized y.cls).before a0 Z = true) (w4 : (Jvm.Cond.code y bytes maxL none).before a0 Z = true)
    (hy : y.cls ≠ "java/lang/invoke/MethodHandle" ∧ y.cls ≠ "java/lang/invoke/VarHandle") {rm : Room} {as : Array Value} {Qc : Option Value → Heap → List Loc → Prop} (eT : T.heap = h)
    (hM : own_Met l Z y bytes maxL none rm [] as h Qc rm.cells rm.slots) (W : Nat) (hf : rm.frames + 1 ≤ R.frames) (hl : W + (maxL + 11) + rm.locals ≤ R.locals)
    {g : JFrame} (hg : g.method = m) (hsize : g.locals.size = c.maxLocals) {a : Addr} {argsL rest : List Value} {ps : List FieldType} {r : Option FieldType} (hpd : parseMethodDescriptor y.desc = some ⟨ps, r⟩) (hlen : argsL.length = ps.length) (has : (Value.ref a :: argsL).toArray = as)
    (hstack : g.stack = argsL.reverse ++ .ref a :: rest) (hW : 2 * g.monitorRoom + (rest.map fun v => v.category).sum ≤ W) (hdg : decode c.code g.pc = .ok (.invokespecial index, 3)) (hc : cells + rm.cells ≤ R.cells) (hs : slots + rm.slots ≤ R.slots)
    (k : ∀ (T' : State) (v : Option Value) (Lc : List Loc), Stand p l e R s m args below meth c T' (locs ++ Lc) (cells + rm.cells) (slots + rm.slots) → Qc v T'.heap Lc → own_Go p e s below Q cm sm T' { g with pc := g.pc + 3, stack := v.toList ++ rest }) :
    own_Go p e s below Q cm sm T g := by
  obtain ⟨v, _, ⟨T', L', k', n'⟩, -, X', ⟨Lc, hQ, l1, y1, z1⟩, st⟩ := X.specialBack hx (y := y) hy1 hown (mvT hZ w1) (mvT hZ w2) (mvT hZ w4) hy (backOf (W := W) hM hZ w4 w3 hf hl) hg hsize (Steps.refl _) (a := a) (argsL := argsL) (rest := rest) (lenOf hpd hlen) hstack hW hdg (fun _ _ => ⟨has, eT, hc, hs⟩)
  dsimp only [Pt.U, Pt.locs, Pt.cells, Pt.slots] at X' l1 y1 z1 st hQ
  subst l1 y1 z1
  exact own_st (fun _ q => st.trans q) (k T' v Lc X' hQ)
theorem own_callV (X : Stand p l e R s m args below meth c T locs cells slots) (hx : p.tables.exec = Jvm.exec) (hZ : Z.Warmed39 s.vm) {own C : String} {index : Nat} {y : MethodName} {bytes : ByteArray} {maxL : Nat} {ret : Option FieldType} (hown : s.vm.findClass own = some m.cls)
    (w1 : (Jvm.Cond.methodLink own index y).before a0 Z = true) (w2 : (Jvm.Cond.declares y).before a0 Z = true) (w5 : (Jvm.Cond.selects C y y).before a0 Z = true) (w6 : (Jvm.Cond.instanceMethod y).before a0 Z = true) (w3 : (Jvm.Cond.initialized y.cls).before a0 Z = true) (w4 : (Jvm.Cond.code y bytes maxL ret).before a0 Z = true)
    (hy : y.cls ≠ "java/lang/invoke/MethodHandle" ∧ y.cls ≠ "java/lang/invoke/VarHandle") {rm : Room} {as : Array Value} {Qc : Option Value → Heap → List Loc → Prop} (eT : T.heap = h)
    (hM : own_Met l Z y bytes maxL ret rm [] as h Qc rm.cells rm.slots) (W : Nat) (hf : rm.frames + 1 ≤ R.frames) (hl : W + (maxL + 11) + rm.locals ≤ R.locals) {a : Addr} (E : Exa Z h a C)
    {g : JFrame} (hg : g.method = m) (hsize : g.locals.size = c.maxLocals) {argsL rest : List Value} {ps : List FieldType} {r : Option FieldType} (hpd : parseMethodDescriptor y.desc = some ⟨ps, r⟩) (hlen : argsL.length = ps.length) (has : (Value.ref a :: argsL).toArray = as)
    (hstack : g.stack = argsL.reverse ++ .ref a :: rest) (hW : 2 * g.monitorRoom + (rest.map fun v => v.category).sum ≤ W) (hdg : decode c.code g.pc = .ok (.invokevirtual index, 3)) (hc : cells + rm.cells ≤ R.cells) (hs : slots + rm.slots ≤ R.slots)
    (k : ∀ (T' : State) (v : Option Value) (Lc : List Loc), Stand p l e R s m args below meth c T' (locs ++ Lc) (cells + rm.cells) (slots + rm.slots) → Qc v T'.heap Lc → own_Go p e s below Q cm sm T' { g with pc := g.pc + 3, stack := v.toList ++ rest }) :
    own_Go p e s below Q cm sm T g := by
  obtain ⟨cq, kq, qa, qb, qc⟩ := isOf hZ eT E
  obtain ⟨v, _, ⟨T', L', k', n'⟩, -, X', ⟨Lc, hQ, l1, y1, z1⟩, st⟩ := X.virtualBack hx (y := y) (z := y) hown (mvT hZ w1) (mvT hZ w2) (notFace_of_selects (args := #[]) (mvT hZ w5)) (mvT hZ w5) (mvT hZ w6) hy (backOf (W := W) hM hZ w4 w3 hf hl) qa qc hg hsize (Steps.refl _) (argsL := argsL) (rest := rest) (lenOf hpd hlen) hstack hW hdg (fun _ _ => ⟨has, eT, hc, hs⟩)
  dsimp only [Pt.U, Pt.locs, Pt.cells, Pt.slots] at X' l1 y1 z1 st hQ
  subst l1 y1 z1
  exact own_st (fun _ q => st.trans q) (k T' v Lc X' hQ)
/-! arrays by the list of their values -/
theorem own_ix {n j : Int32} {vs : List Value} {d : Value} {a : Addr} {k : ClassId} {ty : FieldType} (V : Arv Z h a k ty n vs d) (hj : ¬ j < 0 ∧ j < n) : ∃ cl : Cell, Arr Z h a cl ty ∧ ¬ (j < 0 ∨ cl.slots.size ≤ j.toNatClampNeg) ∧ cl.slots[j.toNatClampNeg]? = some (vs.getD j.toNatClampNeg d) := by
  obtain ⟨cl, A, -, S, N, H, -⟩ := V
  have q := inb_of S hj
  exact ⟨cl, A, q, H _ (Nat.lt_of_not_le fun y => q (Or.inr y))⟩
theorem own_len (X : Stand p l e R s m args below meth c T locs cells slots) (hx : p.tables.exec = Jvm.exec) (hZ : Z.Warmed39 s.vm) (eT : T.heap = h) {a : Addr} {k : ClassId} {ty : FieldType} {n : Int32} {vs : List Value} {d : Value} (V : Arv Z h a k ty n vs d)
    {g : JFrame} (hg : g.method = m) {rest : List Value} (hs : g.stack = .ref a :: rest) (hd : decode c.code g.pc = .ok (.arraylength, 1)) :
    ∀ t, Steps p.tables e below (T.setTop { g with pc := g.pc + 1, stack := .int n :: rest }) t → Steps p.tables e below (T.setTop g) t := by
  obtain ⟨cl, A, -, S, N, -, -⟩ := V
  intro t k
  refine X.arraylength hx (by rw [eT]; exact A.1) (State.isArrayOf_alike hZ.alike A.2.1) hg hs hd t ?_
  rw [len_of S N]; exact k
theorem own_ldI (X : Stand p l e R s m args below meth c T locs cells slots) (hx : p.tables.exec = Jvm.exec) (hZ : Z.Warmed39 s.vm) (eT : T.heap = h) {a : Addr} {k : ClassId} {n : Int32} {vs : List Value} {d : Value} (V : Arv Z h a k .int n vs d) {j x : Int32} (hj : ¬ j < 0 ∧ j < n) (hv : vs.getD j.toNatClampNeg d = .int x)
    {g : JFrame} (hg : g.method = m) {rest : List Value} (hs : g.stack = .int j :: .ref a :: rest) (hd : decode c.code g.pc = .ok (.iaload, 1)) :
    ∀ t, Steps p.tables e below (T.setTop { g with pc := g.pc + 1, stack := .int x :: rest }) t → Steps p.tables e below (T.setTop g) t := by
  obtain ⟨cl, A, q, H⟩ := own_ix V hj
  exact X.iaload hx (j := j) (v := .int x) (by rw [eT]; exact A.1) (State.isArrayOf_alike hZ.alike A.2.1) A.2.2 q (hv ▸ H) hg hs hd
theorem own_ldB (X : Stand p l e R s m args below meth c T locs cells slots) (hx : p.tables.exec = Jvm.exec) (hZ : Z.Warmed39 s.vm) (eT : T.heap = h) {a : Addr} {k : ClassId} {n : Int32} {vs : List Value} {d : Value} (V : Arv Z h a k .byte n vs d) {j x : Int32} (hj : ¬ j < 0 ∧ j < n) (hv : vs.getD j.toNatClampNeg d = .int x)
    {g : JFrame} (hg : g.method = m) {rest : List Value} (hs : g.stack = .int j :: .ref a :: rest) (hd : decode c.code g.pc = .ok (.baload, 1)) :
    ∀ t, Steps p.tables e below (T.setTop { g with pc := g.pc + 1, stack := .int x :: rest }) t → Steps p.tables e below (T.setTop g) t := by
  obtain ⟨cl, A, q, H⟩ := own_ix V hj
  exact X.baloadBytes hx (j := j) (v := .int x) (by rw [eT]; exact A.1) (State.isArrayOf_alike hZ.alike A.2.1) A.2.2 q (hv ▸ H) hg hs hd
theorem own_ldJ (X : Stand p l e R s m args below meth c T locs cells slots) (hx : p.tables.exec = Jvm.exec) (hZ : Z.Warmed39 s.vm) (eT : T.heap = h) {a : Addr} {k : ClassId} {n : Int32} {vs : List Value} {d : Value} (V : Arv Z h a k .long n vs d) {j : Int32} {x : Int64} (hj : ¬ j < 0 ∧ j < n) (hv : vs.getD j.toNatClampNeg d = .long x)
    {g : JFrame} (hg : g.method = m) {rest : List Value} (hs : g.stack = .int j :: .ref a :: rest) (hd : decode c.code g.pc = .ok (.laload, 1)) :
    ∀ t, Steps p.tables e below (T.setTop { g with pc := g.pc + 1, stack := .long x :: rest }) t → Steps p.tables e below (T.setTop g) t := by
  obtain ⟨cl, A, q, H⟩ := own_ix V hj
  exact X.laload hx (j := j) (v := .long x) (by rw [eT]; exact A.1) (State.isArrayOf_alike hZ.alike A.2.1) A.2.2 q (hv ▸ H) hg hs hd
theorem own_stI (X : Stand p l e R s m args below meth c T locs cells slots) (hx : p.tables.exec = Jvm.exec) (hZ : Z.Warmed39 s.vm) (eT : T.heap = h) {a : Addr} {k : ClassId} {n : Int32} {vs : List Value} {d : Value} (V : Arv Z h a k .int n vs d) {j x : Int32} (hj : ¬ j < 0 ∧ j < n) (hl : j.toNatClampNeg < vs.length)
    {g : JFrame} (hg : g.method = m) {rest : List Value} (hs : g.stack = .int x :: .int j :: .ref a :: rest) (hd : decode c.code g.pc = .ok (.iastore, 1)) :
    ∃ T' h', Stand p l e R s m args below meth c T' (locs ++ [⟨a, j.toNatClampNeg⟩]) cells slots ∧ T'.heap = h' ∧ Wr h h' a j.toNatClampNeg (.int x) ∧ Arv Z h' a k .int n (vs.set j.toNatClampNeg (.int x)) d ∧ ∀ t, Steps p.tables e below (T'.setTop { g with pc := g.pc + 1, stack := rest }) t → Steps p.tables e below (T.setTop g) t := by
  obtain ⟨cl, A, q1, S, N, H, G⟩ := V
  obtain ⟨T', h', X', e', W, st⟩ := stI X hx hZ eT A (j := j) (inb_of S hj) hg hs hd
  exact ⟨T', h', X', e', W, Arv.set A q1 S N H G rfl W _ rfl hl, st⟩
theorem own_stJ (X : Stand p l e R s m args below meth c T locs cells slots) (hx : p.tables.exec = Jvm.exec) (hZ : Z.Warmed39 s.vm) (eT : T.heap = h) {a : Addr} {k : ClassId} {n : Int32} {vs : List Value} {d : Value} (V : Arv Z h a k .long n vs d) {j : Int32} {x : Int64} (hj : ¬ j < 0 ∧ j < n) (hl : j.toNatClampNeg < vs.length)
    {g : JFrame} (hg : g.method = m) {rest : List Value} (hs : g.stack = .long x :: .int j :: .ref a :: rest) (hd : decode c.code g.pc = .ok (.lastore, 1)) :
    ∃ T' h', Stand p l e R s m args below meth c T' (locs ++ [⟨a, j.toNatClampNeg⟩]) cells slots ∧ T'.heap = h' ∧ Wr h h' a j.toNatClampNeg (.long x) ∧ Arv Z h' a k .long n (vs.set j.toNatClampNeg (.long x)) d ∧ ∀ t, Steps p.tables e below (T'.setTop { g with pc := g.pc + 1, stack := rest }) t → Steps p.tables e below (T.setTop g) t := by
  obtain ⟨cl, A, q1, S, N, H, G⟩ := V
  obtain ⟨T', h', X', e', W, st⟩ := stJ X hx hZ eT A (j := j) (inb_of S hj) hg hs hd
  exact ⟨T', h', X', e', W, Arv.set A q1 S N H G rfl W _ rfl hl, st⟩
theorem own_stB (X : Stand p l e R s m args below meth c T locs cells slots) (hx : p.tables.exec = Jvm.exec) (hZ : Z.Warmed39 s.vm) (eT : T.heap = h) {a : Addr} {k : ClassId} {n : Int32} {vs : List Value} {d : Value} (V : Arv Z h a k .byte n vs d) {j x x' : Int32} (hj : ¬ j < 0 ∧ j < n) (hl : j.toNatClampNeg < vs.length) (hn : x.toInt8.toInt32 = x')
    {g : JFrame} (hg : g.method = m) {rest : List Value} (hs : g.stack = .int x :: .int j :: .ref a :: rest) (hd : decode c.code g.pc = .ok (.bastore, 1)) :
    ∃ T' h', Stand p l e R s m args below meth c T' (locs ++ [⟨a, j.toNatClampNeg⟩]) cells slots ∧ T'.heap = h' ∧ Wr h h' a j.toNatClampNeg (.int x') ∧ Arv Z h' a k .byte n (vs.set j.toNatClampNeg (.int x')) d ∧ ∀ t, Steps p.tables e below (T'.setTop { g with pc := g.pc + 1, stack := rest }) t → Steps p.tables e below (T.setTop g) t := by
  subst hn
  obtain ⟨cl, A, q1, S, N, H, G⟩ := V
  obtain ⟨T', h', X', e', W, st⟩ := stB X hx hZ eT A (j := j) (inb_of S hj) hg hs hd
  exact ⟨T', h', X', e', W, Arv.set A q1 S N H G (fits_nar_byte _) W _ rfl hl, st⟩
theorem own_ldR (X : Stand p l e R s m args below meth c T locs cells slots) (hx : p.tables.exec = Jvm.exec) (hZ : Z.Warmed39 s.vm) (eT : T.heap = h) {a : Addr} {k : ClassId} {ty : FieldType} {n : Int32} {vs : List Value} {d : Value} (V : Arv Z h a k ty n vs d) (hty : ty.isReference = true) {j : Int32} {v : Value} (hj : ¬ j < 0 ∧ j < n) (hv : vs.getD j.toNatClampNeg d = v)
    {g : JFrame} (hg : g.method = m) {rest : List Value} (hs : g.stack = .int j :: .ref a :: rest) (hd : decode c.code g.pc = .ok (.aaload, 1)) :
    ∀ t, Steps p.tables e below (T.setTop { g with pc := g.pc + 1, stack := v :: rest }) t → Steps p.tables e below (T.setTop g) t := by
  obtain ⟨cl, A, q, H⟩ := own_ix V hj
  exact X.aaload hx (j := j) (v := v) (by rw [eT]; exact A.1) (State.isArrayOf_alike hZ.alike A.2.1) hty A.2.2 q (hv ▸ H) hg hs hd
theorem own_stR (X : Stand p l e R s m args below meth c T locs cells slots) (hx : p.tables.exec = Jvm.exec) (hZ : Z.Warmed39 s.vm) (eT : T.heap = h) {a : Addr} {k : ClassId} {ty : FieldType} {n : Int32} {vs : List Value} {d : Value} (V : Arv Z h a k ty n vs d) (hty : ty.isReference = true) {v : Value} (F : ∀ cl : Cell, Arr Z h a cl ty → cl.cls = k → Sto Z h a v) (hf : fits ty v = true) {j : Int32} (hj : ¬ j < 0 ∧ j < n) (hl : j.toNatClampNeg < vs.length)
    {g : JFrame} (hg : g.method = m) {rest : List Value} (hs : g.stack = v :: .int j :: .ref a :: rest) (hd : decode c.code g.pc = .ok (.aastore, 1)) :
    ∃ T' h', Stand p l e R s m args below meth c T' (locs ++ [⟨a, j.toNatClampNeg⟩]) cells slots ∧ T'.heap = h' ∧ Wr h h' a j.toNatClampNeg v ∧ Arv Z h' a k ty n (vs.set j.toNatClampNeg v) d ∧ ∀ t, Steps p.tables e below (T'.setTop { g with pc := g.pc + 1, stack := rest }) t → Steps p.tables e below (T.setTop g) t := by
  obtain ⟨cl, A, q1, S, N, H, G⟩ := V
  obtain ⟨T', h', X', e', W, st⟩ := stR X hx hZ eT A (j := j) (inb_of S hj) hty (F cl A q1) hg hs hd
  exact ⟨T', h', X', e', W, Arv.set A q1 S N H G hf W _ rfl hl, st⟩
/-! booleans -/
def own_b (P : Prop) [Decidable P] : Int32 := if P then 1 else 0
theorem own_bt {P : Prop} [Decidable P] (q : P) : own_b P = 1 := if_pos q
theorem own_bf {P : Prop} [Decidable P] (q : ¬ P) : own_b P = 0 := if_neg q
theorem own_bnar {P : Prop} [Decidable P] : nar .boolean (own_b P) = own_b P := by
  by_cases q : P
  · rw [own_bt q]; decide
  · rw [own_bf q]; decide
theorem own_bnw {P : Prop} [Decidable P] : narrow .boolean (.int (own_b P)) = .int (own_b P) := congrArg Value.int (own_bnar (P := P))
theorem own_by {P : Prop} [Decidable P] (q : P) : ifCond.holds .ne (own_b P) = true ∧ ifCond.holds .eq (own_b P) = false := by rw [own_bt q]; decide
theorem own_bn {P : Prop} [Decidable P] (q : ¬ P) : ifCond.holds .eq (own_b P) = true ∧ ifCond.holds .ne (own_b P) = false := by rw [own_bf q]; decide
theorem own_beq {P P' : Prop} [Decidable P] [Decidable P'] (q : P ↔ P') : own_b P = own_b P' := by
  by_cases r : P
  · rw [own_bt r, own_bt (q.mp r)]
  · rw [own_bf r, own_bf fun x => r (q.mpr x)]
end OwnKit

theorem d1_0 : decode jdk_42_method_139_code 0 = .ok (.getstatic 38, 3) := by decide +kernel
theorem d1_3 : decode jdk_42_method_139_code 3 = .ok (.ifCond .eq 23, 3) := by decide +kernel
theorem d1_6 : decode jdk_42_method_139_code 6 = .ok (.iload_n 0, 1) := by decide +kernel
theorem d1_7 : decode jdk_42_method_139_code 7 = .ok (.invokestatic 1015, 3) := by decide +kernel
theorem d1_10 : decode jdk_42_method_139_code 10 = .ok (.ifCond .eq 16, 3) := by decide +kernel
theorem d1_13 : decode jdk_42_method_139_code 13 = .ok (.new 10, 3) := by decide +kernel
theorem d1_16 : decode jdk_42_method_139_code 16 = .ok (.dup, 1) := by decide +kernel
theorem d1_17 : decode jdk_42_method_139_code 17 = .ok (.iload_n 0, 1) := by decide +kernel
theorem d1_18 : decode jdk_42_method_139_code 18 = .ok (.invokestatic 1018, 3) := by decide +kernel
theorem d1_21 : decode jdk_42_method_139_code 21 = .ok (.iconst 0, 1) := by decide +kernel
theorem d1_22 : decode jdk_42_method_139_code 22 = .ok (.invokespecial 209, 3) := by decide +kernel
theorem d1_25 : decode jdk_42_method_139_code 25 = .ok (.areturn, 1) := by decide +kernel
theorem d1_26 : decode jdk_42_method_139_code 26 = .ok (.new 10, 3) := by decide +kernel
theorem d1_29 : decode jdk_42_method_139_code 29 = .ok (.dup, 1) := by decide +kernel
theorem d1_30 : decode jdk_42_method_139_code 30 = .ok (.iload_n 0, 1) := by decide +kernel
theorem d1_31 : decode jdk_42_method_139_code 31 = .ok (.invokestatic 1021, 3) := by decide +kernel
theorem d1_34 : decode jdk_42_method_139_code 34 = .ok (.iconst 1, 1) := by decide +kernel
theorem d1_35 : decode jdk_42_method_139_code 35 = .ok (.invokespecial 209, 3) := by decide +kernel
theorem d1_38 : decode jdk_42_method_139_code 38 = .ok (.areturn, 1) := by decide +kernel
theorem pf1 : plainFor (⟨"java/lang/String", "valueOf", "(C)Ljava/lang/String;"⟩ : MethodName) = true := by first | (exact plainFor_of_name (by first | (simp [plainName, overriddenIn]; done) | decide +kernel)) | decide +kernel
theorem d2_0 : decode jdk_43_method_3_code 0 = .ok (.iload_n 0, 1) := by decide +kernel
theorem d2_1 : decode jdk_43_method_3_code 1 = .ok (.sipush 255, 3) := by decide +kernel
theorem d2_4 : decode jdk_43_method_3_code 4 = .ok (.if_icmp .gt 7, 3) := by decide +kernel
theorem d2_7 : decode jdk_43_method_3_code 7 = .ok (.iconst 1, 1) := by decide +kernel
theorem d2_8 : decode jdk_43_method_3_code 8 = .ok (.goto 4, 3) := by decide +kernel
theorem d2_11 : decode jdk_43_method_3_code 11 = .ok (.iconst 0, 1) := by decide +kernel
theorem d2_12 : decode jdk_43_method_3_code 12 = .ok (.ireturn, 1) := by decide +kernel
theorem pf2 : plainFor (⟨"java/lang/StringLatin1", "canEncode", "(C)Z"⟩ : MethodName) = true := by first | (exact plainFor_of_name (by first | (simp [plainName, overriddenIn]; done) | decide +kernel)) | decide +kernel
theorem d3_0 : decode jdk_43_method_46_code 0 = .ok (.iconst 1, 1) := by decide +kernel
theorem d3_1 : decode jdk_43_method_46_code 1 = .ok (.newarray .byte, 2) := by decide +kernel
theorem d3_3 : decode jdk_43_method_46_code 3 = .ok (.dup, 1) := by decide +kernel
theorem d3_4 : decode jdk_43_method_46_code 4 = .ok (.iconst 0, 1) := by decide +kernel
theorem d3_5 : decode jdk_43_method_46_code 5 = .ok (.iload_n 0, 1) := by decide +kernel
theorem d3_6 : decode jdk_43_method_46_code 6 = .ok (.i2b, 1) := by decide +kernel
theorem d3_7 : decode jdk_43_method_46_code 7 = .ok (.bastore, 1) := by decide +kernel
theorem d3_8 : decode jdk_43_method_46_code 8 = .ok (.areturn, 1) := by decide +kernel
theorem pf3 : plainFor (⟨"java/lang/StringLatin1", "toBytes", "(C)[B"⟩ : MethodName) = true := by first | (exact plainFor_of_name (by first | (simp [plainName, overriddenIn]; done) | decide +kernel)) | decide +kernel
theorem d4_0 : decode jdk_42_method_151_code 0 = .ok (.aload_n 0, 1) := by decide +kernel
theorem d4_1 : decode jdk_42_method_151_code 1 = .ok (.invokespecial 1, 3) := by decide +kernel
theorem d4_4 : decode jdk_42_method_151_code 4 = .ok (.aload_n 0, 1) := by decide +kernel
theorem d4_5 : decode jdk_42_method_151_code 5 = .ok (.aload_n 1, 1) := by decide +kernel
theorem d4_6 : decode jdk_42_method_151_code 6 = .ok (.putfield 9, 3) := by decide +kernel
theorem d4_9 : decode jdk_42_method_151_code 9 = .ok (.aload_n 0, 1) := by decide +kernel
theorem d4_10 : decode jdk_42_method_151_code 10 = .ok (.iload_n 2, 1) := by decide +kernel
theorem d4_11 : decode jdk_42_method_151_code 11 = .ok (.putfield 15, 3) := by decide +kernel
theorem d4_14 : decode jdk_42_method_151_code 14 = .ok (.return_, 1) := by decide +kernel
theorem pf4 : plainFor (⟨"java/lang/String", "<init>", "([BB)V"⟩ : MethodName) = true := by first | (exact plainFor_of_name (by first | (simp [plainName, overriddenIn]; done) | decide +kernel)) | decide +kernel
theorem d6_0 : decode prog_1_method_1_code 0 = .ok (.aload_n 0, 1) := by decide +kernel
theorem d6_1 : decode prog_1_method_1_code 1 = .ok (.invokespecial 1, 3) := by decide +kernel
theorem d6_4 : decode prog_1_method_1_code 4 = .ok (.aload_n 0, 1) := by decide +kernel
theorem d6_5 : decode prog_1_method_1_code 5 = .ok (.aload_n 1, 1) := by decide +kernel
theorem d6_6 : decode prog_1_method_1_code 6 = .ok (.invokevirtual 7, 3) := by decide +kernel
theorem d6_9 : decode prog_1_method_1_code 9 = .ok (.checkcast 8, 3) := by decide +kernel
theorem d6_12 : decode prog_1_method_1_code 12 = .ok (.putfield 13, 3) := by decide +kernel
theorem d6_15 : decode prog_1_method_1_code 15 = .ok (.return_, 1) := by decide +kernel
theorem pf6 : plainFor (⟨"com/example/chronotope/chronotope/Arguments", "<init>", "([Ljava/lang/String;)V"⟩ : MethodName) = true := by first | (exact plainFor_of_name (by first | (simp [plainName, overriddenIn]; done) | decide +kernel)) | decide +kernel
theorem d7_0 : decode prog_1_method_2_code 0 = .ok (.aload_n 0, 1) := by decide +kernel
theorem d7_1 : decode prog_1_method_2_code 1 = .ok (.getfield 18, 3) := by decide +kernel
theorem d7_4 : decode prog_1_method_2_code 4 = .ok (.aload_n 0, 1) := by decide +kernel
theorem d7_5 : decode prog_1_method_2_code 5 = .ok (.getfield 13, 3) := by decide +kernel
theorem d7_8 : decode prog_1_method_2_code 8 = .ok (.arraylength, 1) := by decide +kernel
theorem d7_9 : decode prog_1_method_2_code 9 = .ok (.if_icmp .ge 7, 3) := by decide +kernel
theorem d7_12 : decode prog_1_method_2_code 12 = .ok (.iconst 1, 1) := by decide +kernel
theorem d7_13 : decode prog_1_method_2_code 13 = .ok (.goto 4, 3) := by decide +kernel
theorem d7_16 : decode prog_1_method_2_code 16 = .ok (.iconst 0, 1) := by decide +kernel
theorem d7_17 : decode prog_1_method_2_code 17 = .ok (.ireturn, 1) := by decide +kernel
theorem pf7 : plainFor (⟨"com/example/chronotope/chronotope/Arguments", "hasNext", "()Z"⟩ : MethodName) = true := by first | (exact plainFor_of_name (by first | (simp [plainName, overriddenIn]; done) | decide +kernel)) | decide +kernel
theorem d8_0 : decode prog_1_method_3_code 0 = .ok (.aload_n 0, 1) := by decide +kernel
theorem d8_1 : decode prog_1_method_3_code 1 = .ok (.invokevirtual 22, 3) := by decide +kernel
theorem d8_4 : decode prog_1_method_3_code 4 = .ok (.ifCond .ne 13, 3) := by decide +kernel
theorem d8_7 : decode prog_1_method_3_code 7 = .ok (.new 26, 3) := by decide +kernel
theorem d8_10 : decode prog_1_method_3_code 10 = .ok (.dup, 1) := by decide +kernel
theorem d8_11 : decode prog_1_method_3_code 11 = .ok (.ldc 28, 2) := by decide +kernel
theorem d8_13 : decode prog_1_method_3_code 13 = .ok (.invokespecial 30, 3) := by decide +kernel
theorem d8_16 : decode prog_1_method_3_code 16 = .ok (.athrow, 1) := by decide +kernel
theorem d8_17 : decode prog_1_method_3_code 17 = .ok (.aload_n 0, 1) := by decide +kernel
theorem d8_18 : decode prog_1_method_3_code 18 = .ok (.getfield 13, 3) := by decide +kernel
theorem d8_21 : decode prog_1_method_3_code 21 = .ok (.aload_n 0, 1) := by decide +kernel
theorem d8_22 : decode prog_1_method_3_code 22 = .ok (.dup, 1) := by decide +kernel
theorem d8_23 : decode prog_1_method_3_code 23 = .ok (.getfield 18, 3) := by decide +kernel
theorem d8_26 : decode prog_1_method_3_code 26 = .ok (.dup_x1, 1) := by decide +kernel
theorem d8_27 : decode prog_1_method_3_code 27 = .ok (.iconst 1, 1) := by decide +kernel
theorem d8_28 : decode prog_1_method_3_code 28 = .ok (.iadd, 1) := by decide +kernel
theorem d8_29 : decode prog_1_method_3_code 29 = .ok (.putfield 18, 3) := by decide +kernel
theorem d8_32 : decode prog_1_method_3_code 32 = .ok (.aaload, 1) := by decide +kernel
theorem d8_33 : decode prog_1_method_3_code 33 = .ok (.areturn, 1) := by decide +kernel
theorem pf8 : plainFor (⟨"com/example/chronotope/chronotope/Arguments", "next", "()Ljava/lang/String;"⟩ : MethodName) = true := by first | (exact plainFor_of_name (by first | (simp [plainName, overriddenIn]; done) | decide +kernel)) | decide +kernel
theorem d9_0 : decode jdk_42_method_66_code 0 = .ok (.aload_n 0, 1) := by decide +kernel
theorem d9_1 : decode jdk_42_method_66_code 1 = .ok (.aload_n 1, 1) := by decide +kernel
theorem d9_2 : decode jdk_42_method_66_code 2 = .ok (.if_acmp .ne 5, 3) := by decide +kernel
theorem d9_5 : decode jdk_42_method_66_code 5 = .ok (.iconst 1, 1) := by decide +kernel
theorem d9_6 : decode jdk_42_method_66_code 6 = .ok (.ireturn, 1) := by decide +kernel
theorem d9_7 : decode jdk_42_method_66_code 7 = .ok (.aload_n 1, 1) := by decide +kernel
theorem d9_8 : decode jdk_42_method_66_code 8 = .ok (.instanceof 10, 3) := by decide +kernel
theorem d9_11 : decode jdk_42_method_66_code 11 = .ok (.ifCond .eq 43, 3) := by decide +kernel
theorem d9_14 : decode jdk_42_method_66_code 14 = .ok (.aload_n 1, 1) := by decide +kernel
theorem d9_15 : decode jdk_42_method_66_code 15 = .ok (.checkcast 10, 3) := by decide +kernel
theorem d9_18 : decode jdk_42_method_66_code 18 = .ok (.astore_n 2, 1) := by decide +kernel
theorem d9_19 : decode jdk_42_method_66_code 19 = .ok (.getstatic 38, 3) := by decide +kernel
theorem d9_22 : decode jdk_42_method_66_code 22 = .ok (.ifCond .eq 14, 3) := by decide +kernel
theorem d9_25 : decode jdk_42_method_66_code 25 = .ok (.aload_n 0, 1) := by decide +kernel
theorem d9_26 : decode jdk_42_method_66_code 26 = .ok (.getfield 15, 3) := by decide +kernel
theorem d9_29 : decode jdk_42_method_66_code 29 = .ok (.aload_n 2, 1) := by decide +kernel
theorem d9_30 : decode jdk_42_method_66_code 30 = .ok (.getfield 15, 3) := by decide +kernel
theorem d9_33 : decode jdk_42_method_66_code 33 = .ok (.if_icmp .ne 21, 3) := by decide +kernel
theorem d9_36 : decode jdk_42_method_66_code 36 = .ok (.aload_n 0, 1) := by decide +kernel
theorem d9_37 : decode jdk_42_method_66_code 37 = .ok (.getfield 9, 3) := by decide +kernel
theorem d9_40 : decode jdk_42_method_66_code 40 = .ok (.aload_n 2, 1) := by decide +kernel
theorem d9_41 : decode jdk_42_method_66_code 41 = .ok (.getfield 9, 3) := by decide +kernel
theorem d9_44 : decode jdk_42_method_66_code 44 = .ok (.invokestatic 541, 3) := by decide +kernel
theorem d9_47 : decode jdk_42_method_66_code 47 = .ok (.ifCond .eq 7, 3) := by decide +kernel
theorem d9_50 : decode jdk_42_method_66_code 50 = .ok (.iconst 1, 1) := by decide +kernel
theorem d9_51 : decode jdk_42_method_66_code 51 = .ok (.goto 4, 3) := by decide +kernel
theorem d9_54 : decode jdk_42_method_66_code 54 = .ok (.iconst 0, 1) := by decide +kernel
theorem d9_55 : decode jdk_42_method_66_code 55 = .ok (.ireturn, 1) := by decide +kernel
theorem pf9 : plainFor (⟨"java/lang/String", "equals", "(Ljava/lang/Object;)Z"⟩ : MethodName) = true := by first | (exact plainFor_of_name (by first | (simp [plainName, overriddenIn]; done) | decide +kernel)) | decide +kernel
theorem pf0 : plainFor x = true := plainFor_of_name (by first | (simp [x, plainName, overriddenIn]; done) | decide +kernel)
theorem pd0 : parseMethodDescriptor "(C)Ljava/lang/String;" = some ⟨[.char], some (.object "java/lang/String")⟩ := by decide +kernel
theorem pd1 : parseMethodDescriptor "(C)Z" = some ⟨[.char], some .boolean⟩ := by decide +kernel
theorem pd2 : parseMethodDescriptor "(C)[B" = some ⟨[.char], some (.array .byte)⟩ := by decide +kernel
theorem pd3 : parseMethodDescriptor "([BB)V" = some ⟨[(.array .byte), .byte], none⟩ := by decide +kernel
theorem pd4 : parseMethodDescriptor "([Ljava/lang/String;)V" = some ⟨[(.array (.object "java/lang/String"))], none⟩ := by decide +kernel
theorem pd5 : parseMethodDescriptor "()Z" = some ⟨[], some .boolean⟩ := by decide +kernel
theorem pd6 : parseMethodDescriptor "()Ljava/lang/String;" = some ⟨[], some (.object "java/lang/String")⟩ := by decide +kernel
theorem pd7 : parseMethodDescriptor "(Ljava/lang/Object;)Z" = some ⟨[(.object "java/lang/Object")], some .boolean⟩ := by decide +kernel
theorem ef_rm2 (m : MethodId) (z0 : Int32) : entryFrame m #[(.int z0)] 1 = mkF m 0 #[.val (.int z0)] [] := by first | (simp [entryFrame, mkF, argsToLocals, Value.category]; done) | rfl
set_option maxRecDepth 65536 in
set_option maxHeartbeats 40000000 in
theorem rm2 (l : Launch) (Z : State) (a0 : Array Value) (hw : ∀ d ∈ tables_1, d.before a0 Z = true) (ws : List Jvm.Cond) (ch : Int32) (h0 : Heap) (n0 : Nat) (Z0 : n0 ≤ h0.size) (hch : ¬ (255 : Int32) < ch) :
    own_Met l Z (⟨"java/lang/StringLatin1", "canEncode", "(C)Z"⟩ : MethodName) jdk_43_method_3_code 1 (some .boolean) ({ frames := 0, cells := 0, slots := 0, locals := 0 } : Room) ws #[(.int ch)] h0 (fun v h L => v = some (.int 1) ∧ Fr n0 L ∧ h = h0) 0 0 := by
  refine own_enter pf2 (fun m => ef_rm2 m ch) ?_
  intro p e s m below meth c T0 hx hby hml hown hnm hret hlk hZ X0 e0
  have N0 := Fr.nil n0
  show own_Go p e s below _ _ _ T0 (mkF m 0 #[.val (.int ch)] [])
  refine own_st (fun _ k => XS.iloadN X0.here hx rfl (hb hby d2_0) rfl k) ?_
  show own_Go p e s below _ _ _ T0 (mkF m 1 #[.val (.int ch)] [(.int ch)])
  refine own_st (fun _ k => XS.sipush X0.here hx rfl (hb hby d2_1) k) ?_
  show own_Go p e s below _ _ _ T0 (mkF m 4 #[.val (.int ch)] [(.int (255 : Int32)), (.int ch)])
  refine own_st (fun _ k => XS.icmpNo X0.here hx rfl (hb hby d2_4) rfl (flt hch).2.2.1 k) ?_
  show own_Go p e s below _ _ _ T0 (mkF m 7 #[.val (.int ch)] [])
  refine own_st (fun _ k => XS.iconst X0.here hx rfl (hb hby d2_7) k) ?_
  show own_Go p e s below _ _ _ T0 (mkF m 8 #[.val (.int ch)] [(.int (1 : Int32))])
  refine own_st (fun _ k => XS.goto X0.here hx rfl (pc0 := 8) (pc' := 12) rfl (hb hby d2_8) (by decide) (by decide) k) ?_
  show own_Go p e s below _ _ _ T0 (mkF m 12 #[.val (.int ch)] [(.int (1 : Int32))])
  exact own_retN X0 hx hlk (t := .boolean) hret (by simp) (hb hby d2_12) (z' := (1 : Int32)) rfl (by decide) (by decide) ⟨rfl, N0, e0⟩
theorem own_idem (x : Int32) : (x.toInt8.toInt32).toInt8.toInt32 = x.toInt8.toInt32 := by
  rw [← Int32.toInt_inj]
  have h1 := c_i2b x
  have h2 := c_i2b x.toInt8.toInt32
  omega
theorem ef_rm3 (m : MethodId) (z0 : Int32) : entryFrame m #[(.int z0)] 1 = mkF m 0 #[.val (.int z0)] [] := by first | (simp [entryFrame, mkF, argsToLocals, Value.category]; done) | rfl
set_option maxRecDepth 65536 in
set_option maxHeartbeats 40000000 in
theorem rm3 (l : Launch) (Z : State) (a0 : Array Value) (hw : ∀ d ∈ tables_1, d.before a0 Z = true) (ws : List Jvm.Cond) (ch : Int32) (h0 : Heap) (n0 : Nat) (Z0 : n0 ≤ h0.size)  :
    own_Met l Z (⟨"java/lang/StringLatin1", "toBytes", "(C)[B"⟩ : MethodName) jdk_43_method_46_code 1 (some (.array .byte)) ({ frames := 0, cells := 1, slots := 1, locals := 0 } : Room) ws #[(.int ch)] h0 (fun v h L => ∃ b : Addr, v = some (.ref b) ∧ Fr n0 L ∧ Keep h0 h [] ∧ (h0.size ≤ b) ∧ (Exa Z h b "[B")) 1 1 := by
  refine own_enter pf3 (fun m => ef_rm3 m ch) ?_
  intro p e s m below meth c T0 hx hby hml hown hnm hret hlk hZ X0 e0
  have N0 := Fr.nil n0
  show own_Go p e s below _ _ _ T0 (mkF m 0 #[.val (.int ch)] [])
  have K_0 := Keep.refl h0 []
  refine own_st (fun _ k => XS.iconst X0.here hx rfl (hb hby d3_0) k) ?_
  show own_Go p e s below _ _ _ T0 (mkF m 1 #[.val (.int ch)] [(.int (1 : Int32))])
  obtain ⟨T1, h1, k1, X1, e1, E1, A1, Ex1, st1⟩ := newPE X0 hx hZ (hw _ (List.mem_of_getElem? (i := 14) rfl)) e0 (g := (mkF m 1 #[.val (.int ch)] [(.int (1 : Int32))])) rfl (hb hby d3_1) rfl (by decide) (cap := 1) (by decide) (by decide) (by decide) (by decide) (ad := "[B") (by decide)
  obtain ⟨b, g1⟩ : ∃ z, z = h0.size := ⟨_, rfl⟩
  rw [← g1] at A1 Ex1 st1
  have g_b : n0 ≤ b := Nat.le_trans Z0 (Nat.le_of_eq g1.symm)
  have sz_b := Nat.le_trans K_0.1 (Nat.le_of_eq g1.symm)
  have Z2 := Nat.le_trans Z0 E1.1
  have K3 := K_0.ext E1
  have V_b : Arv Z h1 b k1 .byte (1 : Int32) [(.int (0 : Int32))] (.int (0 : Int32)) := (Arv.new A1 (by decide)).pad (pad_rep [] (.int (0 : Int32)) 1)
  have E_b := Ex1
  refine own_st st1 ?_
  show own_Go p e s below _ _ _ T1 (mkF m 3 #[.val (.int ch)] [(.ref b)])
  refine own_st (fun _ k => XS.dup X1.here hx rfl (hb hby d3_3) rfl rfl k) ?_
  show own_Go p e s below _ _ _ T1 (mkF m 4 #[.val (.int ch)] [(.ref b), (.ref b)])
  refine own_st (fun _ k => XS.iconst X1.here hx rfl (hb hby d3_4) k) ?_
  show own_Go p e s below _ _ _ T1 (mkF m 5 #[.val (.int ch)] [(.int (0 : Int32)), (.ref b), (.ref b)])
  refine own_st (fun _ k => XS.iloadN X1.here hx rfl (hb hby d3_5) rfl k) ?_
  show own_Go p e s below _ _ _ T1 (mkF m 6 #[.val (.int ch)] [(.int ch), (.int (0 : Int32)), (.ref b), (.ref b)])
  refine own_st (fun _ k => XS.i2b X1.here hx rfl (hb hby d3_6) rfl k) ?_
  show own_Go p e s below _ _ _ T1 (mkF m 7 #[.val (.int ch)] [(.int (ch.toInt8.toInt32)), (.int (0 : Int32)), (.ref b), (.ref b)])
  obtain ⟨T4, h4, X4, e4, W4, V4, st4⟩ := own_stB X1 hx hZ e1 V_b (j := (0 : Int32)) ⟨by decide, by decide⟩ (Nat.le_of_ble_eq_true rfl) (x' := (ch.toInt8.toInt32)) (by exact own_idem _) (g := (mkF m 7 #[.val (.int ch)] [(.int (ch.toInt8.toInt32)), (.int (0 : Int32)), (.ref b), (.ref b)])) rfl rfl (hb hby d3_7)
  clear V_b
  have V_b : Arv Z h4 b k1 .byte (1 : Int32) [(.int (ch.toInt8.toInt32))] (.int (0 : Int32)) := V4
  replace E_b := E_b.wr W4
  have Z5 := Nat.le_trans Z2 (Keep.of_wr W4).1
  have K6 := K3.wr W4 (Or.inr sz_b)
  have N4 := Fr.snoc X4 N0 g_b
  refine own_st st4 ?_
  show own_Go p e s below _ _ _ T4 (mkF m 8 #[.val (.int ch)] [(.ref b)])
  exact own_retR X4 hx hlk hret rfl rfl rfl (hb hby d3_8) (by decide) (by decide) (by rw [e4]; exact ⟨b, rfl, N4, K6, sz_b, E_b⟩)
theorem ef_rm4 (m : MethodId) (z0 : Addr) (z1 : Addr) (z2 : Int32) : entryFrame m #[(.ref z0), (.ref z1), (.int z2)] 3 = mkF m 0 #[.val (.ref z0), .val (.ref z1), .val (.int z2)] [] := by first | (simp [entryFrame, mkF, argsToLocals, Value.category]; done) | rfl
set_option maxRecDepth 65536 in
set_option maxHeartbeats 40000000 in
theorem rm4 (l : Launch) (Z : State) (a0 : Array Value) (hw : ∀ d ∈ tables_1, d.before a0 Z = true) (ws : List Jvm.Cond) (a b : Addr) (h0 : Heap) (n0 : Nat) (Z0 : n0 ≤ h0.size) (E_a : (Exa Z h0 a "java/lang/String")) (F_value_a : (Fld Z h0 a "java/lang/String" "value" "[B" .null)) (F_coder_a : (Fld Z h0 a "java/lang/String" "coder" "B" (.int (0 : Int32)))) (g_a : n0 ≤ a) :
    own_Met l Z (⟨"java/lang/String", "<init>", "([BB)V"⟩ : MethodName) jdk_42_method_151_code 3 none ({ frames := 1, cells := 0, slots := 0, locals := 12 } : Room) ws #[(.ref a), (.ref b), (.int (0 : Int32))] h0 (fun v h L => v = none ∧ Fr n0 L ∧ Keep h0 h [a] ∧ (Exa Z h a "java/lang/String")) 0 0 := by
  refine own_enter pf4 (fun m => ef_rm4 m a b (0 : Int32)) ?_
  intro p e s m below meth c T0 hx hby hml hown hnm hret hlk hZ X0 e0
  have N0 := Fr.nil n0
  show own_Go p e s below _ _ _ T0 (mkF m 0 #[.val (.ref a), .val (.ref b), .val (.int (0 : Int32))] [])
  have K_0 := Keep.refl h0 [a]
  refine own_st (fun _ k => XS.aloadN X0.here hx rfl (hb hby d4_0) rfl rfl k) ?_
  show own_Go p e s below _ _ _ T0 (mkF m 1 #[.val (.ref a), .val (.ref b), .val (.int (0 : Int32))] [(.ref a)])
  obtain ⟨T7, X7, e7, st7⟩ := initO X0 hx hZ hown (hw _ (List.mem_of_getElem? (i := 19) rfl)) (hw _ (List.mem_of_getElem? (i := 20) rfl)) (hw _ (List.mem_of_getElem? (i := 21) rfl)) e0 (g := (mkF m 1 #[.val (.ref a), .val (.ref b), .val (.int (0 : Int32))] [(.ref a)])) rfl (by rw [hml]; rfl) rfl (hb hby d4_1) (by decide) (W := 0) (by show 2 * 0 + _ ≤ _; exact Nat.le_of_eq rfl) (by decide)
  refine own_st st7 ?_
  show own_Go p e s below _ _ _ T7 (mkF m 4 #[.val (.ref a), .val (.ref b), .val (.int (0 : Int32))] [])
  refine own_st (fun _ k => XS.aloadN X7.here hx rfl (hb hby d4_4) rfl rfl k) ?_
  show own_Go p e s below _ _ _ T7 (mkF m 5 #[.val (.ref a), .val (.ref b), .val (.int (0 : Int32))] [(.ref a)])
  refine own_st (fun _ k => XS.aloadN X7.here hx rfl (hb hby d4_5) rfl rfl k) ?_
  show own_Go p e s below _ _ _ T7 (mkF m 6 #[.val (.ref a), .val (.ref b), .val (.int (0 : Int32))] [(.ref b), (.ref a)])
  obtain ⟨T8, h8, X8, e8, W8, st8⟩ := putF X7 hx hZ hown (host := "") (Or.inl (hw _ (List.mem_of_getElem? (i := 22) rfl))) Via.refl e7 F_value_a E_a (Or.inr ⟨hw _ (List.mem_of_getElem? (i := 23) rfl), rfl, hnm⟩) (hw _ (List.mem_of_getElem? (i := 10) rfl)) (ty := (.array .byte)) (by decide) rfl rfl (g := (mkF m 6 #[.val (.ref a), .val (.ref b), .val (.int (0 : Int32))] [(.ref b), (.ref a)])) rfl rfl (hb hby d4_6)
  refine own_st st8 ?_
  replace F_value_a := F_value_a.same W8
  replace E_a := E_a.wr W8
  replace F_coder_a := F_coder_a.other W8 (Or.inr (slot_ne (Or.inr (hw _ (List.mem_of_getElem? (i := 25) rfl))) (Or.inr (hw _ (List.mem_of_getElem? (i := 23) rfl))) (by decide) (t := .byte) (t' := (.array .byte)) (by decide) (by decide)))
  have Z9 := Nat.le_trans Z0 (Keep.of_wr W8).1
  have K10 := K_0.wr W8 (Or.inl (List.mem_of_getElem? (i := 0) rfl))
  have N8 := Fr.snoc X8 N0 g_a
  show own_Go p e s below _ _ _ T8 (mkF m 9 #[.val (.ref a), .val (.ref b), .val (.int (0 : Int32))] [])
  refine own_st (fun _ k => XS.aloadN X8.here hx rfl (hb hby d4_9) rfl rfl k) ?_
  show own_Go p e s below _ _ _ T8 (mkF m 10 #[.val (.ref a), .val (.ref b), .val (.int (0 : Int32))] [(.ref a)])
  refine own_st (fun _ k => XS.iloadN X8.here hx rfl (hb hby d4_10) rfl k) ?_
  show own_Go p e s below _ _ _ T8 (mkF m 11 #[.val (.ref a), .val (.ref b), .val (.int (0 : Int32))] [(.int (0 : Int32)), (.ref a)])
  obtain ⟨T11, h11, X11, e11, W11, st11⟩ := putFN X8 hx hZ hown (hw _ (List.mem_of_getElem? (i := 24) rfl)) Via.refl e8 F_coder_a E_a (Or.inr ⟨hw _ (List.mem_of_getElem? (i := 25) rfl), rfl, hnm⟩) (hw _ (List.mem_of_getElem? (i := 10) rfl)) (ty := .byte) (v := (.int (0 : Int32))) (v' := (.int (0 : Int32))) (by decide) rfl (by decide) (g := (mkF m 11 #[.val (.ref a), .val (.ref b), .val (.int (0 : Int32))] [(.int (0 : Int32)), (.ref a)])) rfl rfl (hb hby d4_11)
  refine own_st st11 ?_
  replace F_coder_a := F_coder_a.same W11
  replace E_a := E_a.wr W11
  replace F_value_a := F_value_a.other W11 (Or.inr (slot_ne (Or.inr (hw _ (List.mem_of_getElem? (i := 23) rfl))) (Or.inr (hw _ (List.mem_of_getElem? (i := 25) rfl))) (by decide) (t := (.array .byte)) (t' := .byte) (by decide) (by decide)))
  have Z12 := Nat.le_trans Z9 (Keep.of_wr W11).1
  have K13 := K10.wr W11 (Or.inl (List.mem_of_getElem? (i := 0) rfl))
  have N11 := Fr.snoc X11 N8 g_a
  show own_Go p e s below _ _ _ T11 (mkF m 14 #[.val (.ref a), .val (.ref b), .val (.int (0 : Int32))] [])
  exact own_ret0 X11 hx hlk hret (hb hby d4_14) (by decide) (by decide) (by rw [e11]; exact ⟨rfl, N11, K13, E_a⟩)
theorem ef_rm1 (m : MethodId) (z0 : Int32) : entryFrame m #[(.int z0)] 1 = mkF m 0 #[.val (.int z0)] [] := by first | (simp [entryFrame, mkF, argsToLocals, Value.category]; done) | rfl
set_option maxRecDepth 65536 in
set_option maxHeartbeats 40000000 in
theorem rm1 (l : Launch) (Z : State) (a0 : Array Value) (hw : ∀ d ∈ tables_1, d.before a0 Z = true) (ws : List Jvm.Cond) (ch cs : Int32) (h0 : Heap) (n0 : Nat) (Z0 : n0 ≤ h0.size) (S_cs : Sta Z h0 "java/lang/String" "COMPACT_STRINGS" "Z" (.int cs)) (hcs : ¬ cs = 0) (hch : ¬ (255 : Int32) < ch) :
    own_Met l Z (⟨"java/lang/String", "valueOf", "(C)Ljava/lang/String;"⟩ : MethodName) jdk_42_method_139_code 1 (some (.object "java/lang/String")) ({ frames := 2, cells := 2, slots := 5, locals := 32 } : Room) ws #[(.int ch)] h0 (fun v h L => ∃ a : Addr, v = some (.ref a) ∧ Fr n0 L ∧ Keep h0 h [] ∧ (h0.size ≤ a) ∧ (Exa Z h a "java/lang/String")) 2 5 := by
  refine own_enter pf1 (fun m => ef_rm1 m ch) ?_
  intro p e s m below meth c T0 hx hby hml hown hnm hret hlk hZ X0 e0
  have N0 := Fr.nil n0
  show own_Go p e s below _ _ _ T0 (mkF m 0 #[.val (.int ch)] [])
  have K_0 := Keep.refl h0 []
  obtain ⟨T14, X14, e14, st14⟩ := getS2 X0 hx hZ hown (host := "") (Or.inl (hw _ (List.mem_of_getElem? (i := 4) rfl))) Via.refl e0 S_cs (g := (mkF m 0 #[.val (.int ch)] [])) rfl (hb hby d1_0)
  refine own_st st14 ?_
  show own_Go p e s below _ _ _ T14 (mkF m 3 #[.val (.int ch)] [(.int cs)])
  refine own_st (fun _ k => XS.ifNo X14.here hx rfl (hb hby d1_3) rfl ((if0 _ _).trans (feq hcs).1) k) ?_
  show own_Go p e s below _ _ _ T14 (mkF m 6 #[.val (.int ch)] [])
  refine own_st (fun _ k => XS.iloadN X14.here hx rfl (hb hby d1_6) rfl k) ?_
  show own_Go p e s below _ _ _ T14 (mkF m 7 #[.val (.int ch)] [(.int ch)])
  refine own_callS X14 hx hZ (y := (⟨"java/lang/StringLatin1", "canEncode", "(C)Z"⟩ : MethodName)) hown (hw _ (List.mem_of_getElem? (i := 5) rfl)) (hw _ (List.mem_of_getElem? (i := 6) rfl)) (hw _ (List.mem_of_getElem? (i := 7) rfl)) (hw _ (List.mem_of_getElem? (i := 8) rfl)) (by decide) e14 (rm2 l Z a0 hw [] ch h0 n0 Z0 hch) 0 (by decide) (by decide) (g := (mkF m 7 #[.val (.int ch)] [(.int ch)])) rfl (by rw [hml]; rfl) (argsL := [(.int ch)]) (rest := []) pd1 rfl rfl rfl (by show 2 * 0 + _ ≤ _; exact Nat.le_of_eq rfl) (hb hby d1_7) (by decide) (by decide) ?_
  intro T15 v15 L15 X15 hQ15
  obtain ⟨rfl, N15q, e15⟩ := hQ15
  have N15 := Fr.app N0 N15q
  show own_Go p e s below _ _ _ T15 (mkF m 10 #[.val (.int ch)] [(.int (1 : Int32))])
  refine own_st (fun _ k => XS.ifNo X15.here hx rfl (hb hby d1_10) rfl (by decide) k) ?_
  show own_Go p e s below _ _ _ T15 (mkF m 13 #[.val (.int ch)] [])
  obtain ⟨T16, h16, X16, e16, E16, A16, D16, -, st16⟩ := newO X15 hx hZ hown (hw _ (List.mem_of_getElem? (i := 9) rfl)) (hw _ (List.mem_of_getElem? (i := 10) rfl)) (hw _ (List.mem_of_getElem? (i := 2) rfl)) e15 (g := (mkF m 13 #[.val (.int ch)] [])) rfl (hb hby d1_13) (by decide) (by decide)
  obtain ⟨a, g16⟩ : ∃ z, z = h0.size := ⟨_, rfl⟩
  rw [← g16] at A16 D16 st16
  have g_a : n0 ≤ a := Nat.le_trans Z0 (Nat.le_of_eq g16.symm)
  have sz_a := Nat.le_trans K_0.1 (Nat.le_of_eq g16.symm)
  have Z17 := Nat.le_trans Z0 E16.1
  have K18 := K_0.ext E16
  have E_a := A16
  have F_value_a : Fld Z h16 a "java/lang/String" "value" "[B" .null := D16 (Or.inr (hw _ (List.mem_of_getElem? (i := 23) rfl))) (ty := (.array .byte)) (by decide)
  have F_coder_a : Fld Z h16 a "java/lang/String" "coder" "B" (.int (0 : Int32)) := D16 (Or.inr (hw _ (List.mem_of_getElem? (i := 25) rfl))) (ty := .byte) (by decide)
  refine own_st st16 ?_
  show own_Go p e s below _ _ _ T16 (mkF m 16 #[.val (.int ch)] [(.ref a)])
  refine own_st (fun _ k => XS.dup X16.here hx rfl (hb hby d1_16) rfl rfl k) ?_
  show own_Go p e s below _ _ _ T16 (mkF m 17 #[.val (.int ch)] [(.ref a), (.ref a)])
  refine own_st (fun _ k => XS.iloadN X16.here hx rfl (hb hby d1_17) rfl k) ?_
  show own_Go p e s below _ _ _ T16 (mkF m 18 #[.val (.int ch)] [(.int ch), (.ref a), (.ref a)])
  refine own_callS X16 hx hZ (y := (⟨"java/lang/StringLatin1", "toBytes", "(C)[B"⟩ : MethodName)) hown (hw _ (List.mem_of_getElem? (i := 11) rfl)) (hw _ (List.mem_of_getElem? (i := 12) rfl)) (hw _ (List.mem_of_getElem? (i := 7) rfl)) (hw _ (List.mem_of_getElem? (i := 13) rfl)) (by decide) e16 (rm3 l Z a0 hw [] ch h16 n0 Z17) 2 (by decide) (by decide) (g := (mkF m 18 #[.val (.int ch)] [(.int ch), (.ref a), (.ref a)])) rfl (by rw [hml]; rfl) (argsL := [(.int ch)]) (rest := [(.ref a), (.ref a)]) pd2 rfl rfl rfl (by show 2 * 0 + _ ≤ _; exact Nat.le_of_eq rfl) (hb hby d1_18) (by decide) (by decide) ?_
  intro T19 v19 L19 X19 hQ19
  obtain ⟨b, rfl, N19q, K19q, sf_b, y19_0⟩ := hQ19
  have N19 := Fr.app N15 N19q
  have g_b := Nat.le_trans Z17 sf_b
  have sz_b := Nat.le_trans K18.1 sf_b
  have ne_a_b : a ≠ b := Nat.ne_of_lt (Nat.lt_of_lt_of_le E_a.lt sf_b)
  have ne_b_a := Ne.symm ne_a_b
  replace E_a := E_a.keep K19q
  replace F_value_a := F_value_a.keep K19q nin0
  replace F_coder_a := F_coder_a.keep K19q nin0
  have Z20 := Nat.le_trans Z17 K19q.1
  have K21 := K18.trans K19q all0
  have E_b := y19_0
  show own_Go p e s below _ _ _ T19 (mkF m 21 #[.val (.int ch)] [(.ref b), (.ref a), (.ref a)])
  refine own_st (fun _ k => XS.iconst X19.here hx rfl (hb hby d1_21) k) ?_
  show own_Go p e s below _ _ _ T19 (mkF m 22 #[.val (.int ch)] [(.int (0 : Int32)), (.ref b), (.ref a), (.ref a)])
  refine own_callN X19 hx hZ (y := (⟨"java/lang/String", "<init>", "([BB)V"⟩ : MethodName)) rfl hown (hw _ (List.mem_of_getElem? (i := 15) rfl)) (hw _ (List.mem_of_getElem? (i := 16) rfl)) (hw _ (List.mem_of_getElem? (i := 2) rfl)) (hw _ (List.mem_of_getElem? (i := 18) rfl)) (by decide) rfl (rm4 l Z a0 hw [] a b T19.heap n0 Z20 E_a F_value_a F_coder_a g_a) 1 (by decide) (by decide) (g := (mkF m 22 #[.val (.int ch)] [(.int (0 : Int32)), (.ref b), (.ref a), (.ref a)])) rfl (by rw [hml]; rfl) (a := a) (argsL := [(.ref b), (.int (0 : Int32))]) (rest := [(.ref a)]) pd3 rfl rfl rfl (by show 2 * 0 + _ ≤ _; exact Nat.le_of_eq rfl) (hb hby d1_22) (by decide) (by decide) ?_
  intro T22 v22 L22 X22 hQ22
  obtain ⟨rfl, N22q, K22q, y22_0⟩ := hQ22
  have N22 := Fr.app N19 N22q
  replace E_a := E_a.keep K22q
  clear F_value_a
  clear F_coder_a
  replace E_b := E_b.keep K22q
  have Z23 := Nat.le_trans Z20 K22q.1
  have K24 := K21.trans K22q (allS (Or.inr sz_a) all0)
  have E_a := y22_0
  show own_Go p e s below _ _ _ T22 (mkF m 25 #[.val (.int ch)] [(.ref a)])
  exact own_retR X22 hx hlk hret rfl rfl rfl (hb hby d1_25) (by decide) (by decide) ⟨a, rfl, N22, K24, sz_a, E_a⟩
theorem ef_rm6_0 (m : MethodId) (z0 : Addr) (z1 : Addr) : entryFrame m #[(.ref z0), (.ref z1)] 2 = mkF m 0 #[.val (.ref z0), .val (.ref z1)] [] := by first | (simp [entryFrame, mkF, argsToLocals, Value.category]; done) | rfl
set_option maxRecDepth 65536 in
set_option maxHeartbeats 40000000 in
theorem rm6_0 (l : Launch) (Z : State) (a0 : Array Value) (hw : ∀ d ∈ tables_1, d.before a0 Z = true) (ws : List Jvm.Cond) (a b : Addr) (k : ClassId)  (h0 : Heap) (n0 : Nat) (Z0 : n0 ≤ h0.size) (E_a : (Exa Z h0 a "com/example/chronotope/chronotope/Arguments")) (F_args_a : (Fld Z h0 a "com/example/chronotope/chronotope/Arguments" "args" "[Ljava/lang/String;" .null)) (F_next_a : (Fld Z h0 a "com/example/chronotope/chronotope/Arguments" "next" "I" (.int (0 : Int32)))) (V_b : Arv Z h0 b k (.object "java/lang/String") (0 : Int32) [] .null) (E_b : (Exa Z h0 b "[Ljava/lang/String;")) (ne_a_b : a ≠ b) (ne_b_a : b ≠ a) (g_a : n0 ≤ a) :
    own_Met l Z (⟨"com/example/chronotope/chronotope/Arguments", "<init>", "([Ljava/lang/String;)V"⟩ : MethodName) prog_1_method_1_code 2 none ({ frames := 1, cells := 1, slots := 0, locals := 15 } : Room) ws #[(.ref a), (.ref b)] h0 (fun v h L => ∃ d : Addr, v = none ∧ Fr n0 L ∧ Keep h0 h [a] ∧ (h0.size ≤ d) ∧ (Exa Z h a "com/example/chronotope/chronotope/Arguments") ∧ (Fld Z h a "com/example/chronotope/chronotope/Arguments" "args" "[Ljava/lang/String;" (.ref d)) ∧ (Fld Z h a "com/example/chronotope/chronotope/Arguments" "next" "I" (.int (0 : Int32))) ∧ (Arv Z h d k (.object "java/lang/String") (0 : Int32) [] .null)) 1 0 := by
  refine own_enter pf6 (fun m => ef_rm6_0 m a b) ?_
  intro p e s m below meth c T0 hx hby hml hown hnm hret hlk hZ X0 e0
  have N0 := Fr.nil n0
  show own_Go p e s below _ _ _ T0 (mkF m 0 #[.val (.ref a), .val (.ref b)] [])
  have K_0 := Keep.refl h0 [a]
  refine own_st (fun _ k => XS.aloadN X0.here hx rfl (hb hby d6_0) rfl rfl k) ?_
  show own_Go p e s below _ _ _ T0 (mkF m 1 #[.val (.ref a), .val (.ref b)] [(.ref a)])
  obtain ⟨T25, X25, e25, st25⟩ := initO X0 hx hZ hown (hw _ (List.mem_of_getElem? (i := 34) rfl)) (hw _ (List.mem_of_getElem? (i := 20) rfl)) (hw _ (List.mem_of_getElem? (i := 21) rfl)) e0 (g := (mkF m 1 #[.val (.ref a), .val (.ref b)] [(.ref a)])) rfl (by rw [hml]; rfl) rfl (hb hby d6_1) (by decide) (W := 0) (by show 2 * 0 + _ ≤ _; exact Nat.le_of_eq rfl) (by decide)
  refine own_st st25 ?_
  show own_Go p e s below _ _ _ T25 (mkF m 4 #[.val (.ref a), .val (.ref b)] [])
  refine own_st (fun _ k => XS.aloadN X25.here hx rfl (hb hby d6_4) rfl rfl k) ?_
  show own_Go p e s below _ _ _ T25 (mkF m 5 #[.val (.ref a), .val (.ref b)] [(.ref a)])
  refine own_st (fun _ k => XS.aloadN X25.here hx rfl (hb hby d6_5) rfl rfl k) ?_
  show own_Go p e s below _ _ _ T25 (mkF m 6 #[.val (.ref a), .val (.ref b)] [(.ref b), (.ref a)])
  obtain ⟨T26, h26, X26, e26, E26, V26, A26, st26⟩ := cloneH X25 hx hZ hown (hw _ (List.mem_of_getElem? (i := 35) rfl)) (hw _ (List.mem_of_getElem? (i := 36) rfl)) (hw _ (List.mem_of_getElem? (i := 40) rfl)) (hw _ (List.mem_of_getElem? (i := 38) rfl)) (hw _ (List.mem_of_getElem? (i := 39) rfl)) (hw _ (List.mem_of_getElem? (i := 41) rfl)) e25 V_b.arh E_b (g := (mkF m 6 #[.val (.ref a), .val (.ref b)] [(.ref b), (.ref a)])) rfl (by rw [hml]; rfl) rfl (hb hby d6_6) (by decide) (W := 1) (by show 2 * 0 + _ ≤ _; exact Nat.le_of_eq rfl) (by decide) (cap := 0) (by decide) (by decide) (by decide)
  obtain ⟨d, g26⟩ : ∃ z, z = h0.size := ⟨_, rfl⟩
  rw [← g26] at V26 A26 st26
  have g_d : n0 ≤ d := Nat.le_trans Z0 (Nat.le_of_eq g26.symm)
  have ne_a_d : a ≠ d := Nat.ne_of_lt (Nat.lt_of_lt_of_le E_a.lt (Nat.le_of_eq g26.symm))
  have ne_d_a := Ne.symm ne_a_d
  have ne_b_d : b ≠ d := Nat.ne_of_lt (Nat.lt_of_lt_of_le V_b.lt (Nat.le_of_eq g26.symm))
  have ne_d_b := Ne.symm ne_b_d
  have sz_d := Nat.le_trans K_0.1 (Nat.le_of_eq g26.symm)
  replace E_a := E_a.ext E26
  replace F_args_a := F_args_a.ext E26
  replace F_next_a := F_next_a.ext E26
  replace V_b := V_b.ext E26
  replace E_b := E_b.ext E26
  have Z27 := Nat.le_trans Z0 E26.1
  have K28 := K_0.ext E26
  have V_d : Arv Z h26 d k (.object "java/lang/String") (0 : Int32) [] .null := V26
  have E_d := A26
  refine own_st st26 ?_
  show own_Go p e s below _ _ _ T26 (mkF m 9 #[.val (.ref a), .val (.ref b)] [(.ref d), (.ref a)])
  obtain ⟨T29, X29, e29, st29⟩ := castY X26 hx hZ hown (hw _ (List.mem_of_getElem? (i := 42) rfl)) e26 (Ins.self E_d) (g := (mkF m 9 #[.val (.ref a), .val (.ref b)] [(.ref d), (.ref a)])) rfl rfl (hb hby d6_9)
  refine own_st st29 ?_
  show own_Go p e s below _ _ _ T29 (mkF m 12 #[.val (.ref a), .val (.ref b)] [(.ref d), (.ref a)])
  obtain ⟨T30, h30, X30, e30, W30, st30⟩ := putF X29 hx hZ hown (host := "") (Or.inl (hw _ (List.mem_of_getElem? (i := 44) rfl))) Via.refl e29 F_args_a E_a (Or.inr ⟨hw _ (List.mem_of_getElem? (i := 45) rfl), rfl, hnm⟩) (hw _ (List.mem_of_getElem? (i := 29) rfl)) (ty := (.array (.object "java/lang/String"))) (by decide) rfl rfl (g := (mkF m 12 #[.val (.ref a), .val (.ref b)] [(.ref d), (.ref a)])) rfl rfl (hb hby d6_12)
  refine own_st st30 ?_
  replace F_args_a := F_args_a.same W30
  replace E_a := E_a.wr W30
  replace F_next_a := F_next_a.other W30 (Or.inr (slot_ne (Or.inl (hw _ (List.mem_of_getElem? (i := 52) rfl))) (Or.inr (hw _ (List.mem_of_getElem? (i := 45) rfl))) (by decide) (t := .int) (t' := (.array (.object "java/lang/String"))) (by decide) (by decide)))
  replace V_b := V_b.other W30 ne_b_a
  replace E_b := E_b.wr W30
  replace V_d := V_d.other W30 ne_d_a
  replace E_d := E_d.wr W30
  have Z31 := Nat.le_trans Z27 (Keep.of_wr W30).1
  have K32 := K28.wr W30 (Or.inl (List.mem_of_getElem? (i := 0) rfl))
  have N30 := Fr.snoc X30 N0 g_a
  show own_Go p e s below _ _ _ T30 (mkF m 15 #[.val (.ref a), .val (.ref b)] [])
  exact own_ret0 X30 hx hlk hret (hb hby d6_15) (by decide) (by decide) (by rw [e30]; exact ⟨d, rfl, N30, K32, sz_d, E_a, F_args_a, F_next_a, V_d⟩)
theorem ef_rm6_1 (m : MethodId) (z0 : Addr) (z1 : Addr) : entryFrame m #[(.ref z0), (.ref z1)] 2 = mkF m 0 #[.val (.ref z0), .val (.ref z1)] [] := by first | (simp [entryFrame, mkF, argsToLocals, Value.category]; done) | rfl
set_option maxRecDepth 65536 in
set_option maxHeartbeats 40000000 in
theorem rm6_1 (l : Launch) (Z : State) (a0 : Array Value) (hw : ∀ d ∈ tables_1, d.before a0 Z = true) (ws : List Jvm.Cond) (a b : Addr) (k : ClassId) (u0 : Addr) (h0 : Heap) (n0 : Nat) (Z0 : n0 ≤ h0.size) (E_a : (Exa Z h0 a "com/example/chronotope/chronotope/Arguments")) (F_args_a : (Fld Z h0 a "com/example/chronotope/chronotope/Arguments" "args" "[Ljava/lang/String;" .null)) (F_next_a : (Fld Z h0 a "com/example/chronotope/chronotope/Arguments" "next" "I" (.int (0 : Int32)))) (V_b : Arv Z h0 b k (.object "java/lang/String") (1 : Int32) [(.ref u0)] .null) (E_b : (Exa Z h0 b "[Ljava/lang/String;")) (ne_a_b : a ≠ b) (ne_b_a : b ≠ a) (g_a : n0 ≤ a) :
    own_Met l Z (⟨"com/example/chronotope/chronotope/Arguments", "<init>", "([Ljava/lang/String;)V"⟩ : MethodName) prog_1_method_1_code 2 none ({ frames := 1, cells := 1, slots := 1, locals := 15 } : Room) ws #[(.ref a), (.ref b)] h0 (fun v h L => ∃ d : Addr, v = none ∧ Fr n0 L ∧ Keep h0 h [a] ∧ (h0.size ≤ d) ∧ (Exa Z h a "com/example/chronotope/chronotope/Arguments") ∧ (Fld Z h a "com/example/chronotope/chronotope/Arguments" "args" "[Ljava/lang/String;" (.ref d)) ∧ (Fld Z h a "com/example/chronotope/chronotope/Arguments" "next" "I" (.int (0 : Int32))) ∧ (Arv Z h d k (.object "java/lang/String") (1 : Int32) [(.ref u0)] .null)) 1 1 := by
  refine own_enter pf6 (fun m => ef_rm6_1 m a b) ?_
  intro p e s m below meth c T0 hx hby hml hown hnm hret hlk hZ X0 e0
  have N0 := Fr.nil n0
  show own_Go p e s below _ _ _ T0 (mkF m 0 #[.val (.ref a), .val (.ref b)] [])
  have K_0 := Keep.refl h0 [a]
  refine own_st (fun _ k => XS.aloadN X0.here hx rfl (hb hby d6_0) rfl rfl k) ?_
  show own_Go p e s below _ _ _ T0 (mkF m 1 #[.val (.ref a), .val (.ref b)] [(.ref a)])
  obtain ⟨T33, X33, e33, st33⟩ := initO X0 hx hZ hown (hw _ (List.mem_of_getElem? (i := 34) rfl)) (hw _ (List.mem_of_getElem? (i := 20) rfl)) (hw _ (List.mem_of_getElem? (i := 21) rfl)) e0 (g := (mkF m 1 #[.val (.ref a), .val (.ref b)] [(.ref a)])) rfl (by rw [hml]; rfl) rfl (hb hby d6_1) (by decide) (W := 0) (by show 2 * 0 + _ ≤ _; exact Nat.le_of_eq rfl) (by decide)
  refine own_st st33 ?_
  show own_Go p e s below _ _ _ T33 (mkF m 4 #[.val (.ref a), .val (.ref b)] [])
  refine own_st (fun _ k => XS.aloadN X33.here hx rfl (hb hby d6_4) rfl rfl k) ?_
  show own_Go p e s below _ _ _ T33 (mkF m 5 #[.val (.ref a), .val (.ref b)] [(.ref a)])
  refine own_st (fun _ k => XS.aloadN X33.here hx rfl (hb hby d6_5) rfl rfl k) ?_
  show own_Go p e s below _ _ _ T33 (mkF m 6 #[.val (.ref a), .val (.ref b)] [(.ref b), (.ref a)])
  obtain ⟨T34, h34, X34, e34, E34, V34, A34, st34⟩ := cloneH X33 hx hZ hown (hw _ (List.mem_of_getElem? (i := 35) rfl)) (hw _ (List.mem_of_getElem? (i := 36) rfl)) (hw _ (List.mem_of_getElem? (i := 40) rfl)) (hw _ (List.mem_of_getElem? (i := 38) rfl)) (hw _ (List.mem_of_getElem? (i := 39) rfl)) (hw _ (List.mem_of_getElem? (i := 41) rfl)) e33 V_b.arh E_b (g := (mkF m 6 #[.val (.ref a), .val (.ref b)] [(.ref b), (.ref a)])) rfl (by rw [hml]; rfl) rfl (hb hby d6_6) (by decide) (W := 1) (by show 2 * 0 + _ ≤ _; exact Nat.le_of_eq rfl) (by decide) (cap := 1) (by decide) (by decide) (by decide)
  obtain ⟨d, g34⟩ : ∃ z, z = h0.size := ⟨_, rfl⟩
  rw [← g34] at V34 A34 st34
  have g_d : n0 ≤ d := Nat.le_trans Z0 (Nat.le_of_eq g34.symm)
  have ne_a_d : a ≠ d := Nat.ne_of_lt (Nat.lt_of_lt_of_le E_a.lt (Nat.le_of_eq g34.symm))
  have ne_d_a := Ne.symm ne_a_d
  have ne_b_d : b ≠ d := Nat.ne_of_lt (Nat.lt_of_lt_of_le V_b.lt (Nat.le_of_eq g34.symm))
  have ne_d_b := Ne.symm ne_b_d
  have sz_d := Nat.le_trans K_0.1 (Nat.le_of_eq g34.symm)
  replace E_a := E_a.ext E34
  replace F_args_a := F_args_a.ext E34
  replace F_next_a := F_next_a.ext E34
  replace V_b := V_b.ext E34
  replace E_b := E_b.ext E34
  have Z35 := Nat.le_trans Z0 E34.1
  have K36 := K_0.ext E34
  have V_d : Arv Z h34 d k (.object "java/lang/String") (1 : Int32) [(.ref u0)] .null := V34
  have E_d := A34
  refine own_st st34 ?_
  show own_Go p e s below _ _ _ T34 (mkF m 9 #[.val (.ref a), .val (.ref b)] [(.ref d), (.ref a)])
  obtain ⟨T37, X37, e37, st37⟩ := castY X34 hx hZ hown (hw _ (List.mem_of_getElem? (i := 42) rfl)) e34 (Ins.self E_d) (g := (mkF m 9 #[.val (.ref a), .val (.ref b)] [(.ref d), (.ref a)])) rfl rfl (hb hby d6_9)
  refine own_st st37 ?_
  show own_Go p e s below _ _ _ T37 (mkF m 12 #[.val (.ref a), .val (.ref b)] [(.ref d), (.ref a)])
  obtain ⟨T38, h38, X38, e38, W38, st38⟩ := putF X37 hx hZ hown (host := "") (Or.inl (hw _ (List.mem_of_getElem? (i := 44) rfl))) Via.refl e37 F_args_a E_a (Or.inr ⟨hw _ (List.mem_of_getElem? (i := 45) rfl), rfl, hnm⟩) (hw _ (List.mem_of_getElem? (i := 29) rfl)) (ty := (.array (.object "java/lang/String"))) (by decide) rfl rfl (g := (mkF m 12 #[.val (.ref a), .val (.ref b)] [(.ref d), (.ref a)])) rfl rfl (hb hby d6_12)
  refine own_st st38 ?_
  replace F_args_a := F_args_a.same W38
  replace E_a := E_a.wr W38
  replace F_next_a := F_next_a.other W38 (Or.inr (slot_ne (Or.inl (hw _ (List.mem_of_getElem? (i := 52) rfl))) (Or.inr (hw _ (List.mem_of_getElem? (i := 45) rfl))) (by decide) (t := .int) (t' := (.array (.object "java/lang/String"))) (by decide) (by decide)))
  replace V_b := V_b.other W38 ne_b_a
  replace E_b := E_b.wr W38
  replace V_d := V_d.other W38 ne_d_a
  replace E_d := E_d.wr W38
  have Z39 := Nat.le_trans Z35 (Keep.of_wr W38).1
  have K40 := K36.wr W38 (Or.inl (List.mem_of_getElem? (i := 0) rfl))
  have N38 := Fr.snoc X38 N0 g_a
  show own_Go p e s below _ _ _ T38 (mkF m 15 #[.val (.ref a), .val (.ref b)] [])
  exact own_ret0 X38 hx hlk hret (hb hby d6_15) (by decide) (by decide) (by rw [e38]; exact ⟨d, rfl, N38, K40, sz_d, E_a, F_args_a, F_next_a, V_d⟩)
theorem ef_rm6_2 (m : MethodId) (z0 : Addr) (z1 : Addr) : entryFrame m #[(.ref z0), (.ref z1)] 2 = mkF m 0 #[.val (.ref z0), .val (.ref z1)] [] := by first | (simp [entryFrame, mkF, argsToLocals, Value.category]; done) | rfl
set_option maxRecDepth 65536 in
set_option maxHeartbeats 40000000 in
theorem rm6_2 (l : Launch) (Z : State) (a0 : Array Value) (hw : ∀ d ∈ tables_1, d.before a0 Z = true) (ws : List Jvm.Cond) (a b : Addr) (k : ClassId) (u0 : Addr) (u1 : Addr) (h0 : Heap) (n0 : Nat) (Z0 : n0 ≤ h0.size) (E_a : (Exa Z h0 a "com/example/chronotope/chronotope/Arguments")) (F_args_a : (Fld Z h0 a "com/example/chronotope/chronotope/Arguments" "args" "[Ljava/lang/String;" .null)) (F_next_a : (Fld Z h0 a "com/example/chronotope/chronotope/Arguments" "next" "I" (.int (0 : Int32)))) (V_b : Arv Z h0 b k (.object "java/lang/String") (2 : Int32) [(.ref u0), (.ref u1)] .null) (E_b : (Exa Z h0 b "[Ljava/lang/String;")) (ne_a_b : a ≠ b) (ne_b_a : b ≠ a) (g_a : n0 ≤ a) :
    own_Met l Z (⟨"com/example/chronotope/chronotope/Arguments", "<init>", "([Ljava/lang/String;)V"⟩ : MethodName) prog_1_method_1_code 2 none ({ frames := 1, cells := 1, slots := 2, locals := 15 } : Room) ws #[(.ref a), (.ref b)] h0 (fun v h L => ∃ d : Addr, v = none ∧ Fr n0 L ∧ Keep h0 h [a] ∧ (h0.size ≤ d) ∧ (Exa Z h a "com/example/chronotope/chronotope/Arguments") ∧ (Fld Z h a "com/example/chronotope/chronotope/Arguments" "args" "[Ljava/lang/String;" (.ref d)) ∧ (Fld Z h a "com/example/chronotope/chronotope/Arguments" "next" "I" (.int (0 : Int32))) ∧ (Arv Z h d k (.object "java/lang/String") (2 : Int32) [(.ref u0), (.ref u1)] .null)) 1 2 := by
  refine own_enter pf6 (fun m => ef_rm6_2 m a b) ?_
  intro p e s m below meth c T0 hx hby hml hown hnm hret hlk hZ X0 e0
  have N0 := Fr.nil n0
  show own_Go p e s below _ _ _ T0 (mkF m 0 #[.val (.ref a), .val (.ref b)] [])
  have K_0 := Keep.refl h0 [a]
  refine own_st (fun _ k => XS.aloadN X0.here hx rfl (hb hby d6_0) rfl rfl k) ?_
  show own_Go p e s below _ _ _ T0 (mkF m 1 #[.val (.ref a), .val (.ref b)] [(.ref a)])
  obtain ⟨T41, X41, e41, st41⟩ := initO X0 hx hZ hown (hw _ (List.mem_of_getElem? (i := 34) rfl)) (hw _ (List.mem_of_getElem? (i := 20) rfl)) (hw _ (List.mem_of_getElem? (i := 21) rfl)) e0 (g := (mkF m 1 #[.val (.ref a), .val (.ref b)] [(.ref a)])) rfl (by rw [hml]; rfl) rfl (hb hby d6_1) (by decide) (W := 0) (by show 2 * 0 + _ ≤ _; exact Nat.le_of_eq rfl) (by decide)
  refine own_st st41 ?_
  show own_Go p e s below _ _ _ T41 (mkF m 4 #[.val (.ref a), .val (.ref b)] [])
  refine own_st (fun _ k => XS.aloadN X41.here hx rfl (hb hby d6_4) rfl rfl k) ?_
  show own_Go p e s below _ _ _ T41 (mkF m 5 #[.val (.ref a), .val (.ref b)] [(.ref a)])
  refine own_st (fun _ k => XS.aloadN X41.here hx rfl (hb hby d6_5) rfl rfl k) ?_
  show own_Go p e s below _ _ _ T41 (mkF m 6 #[.val (.ref a), .val (.ref b)] [(.ref b), (.ref a)])
  obtain ⟨T42, h42, X42, e42, E42, V42, A42, st42⟩ := cloneH X41 hx hZ hown (hw _ (List.mem_of_getElem? (i := 35) rfl)) (hw _ (List.mem_of_getElem? (i := 36) rfl)) (hw _ (List.mem_of_getElem? (i := 40) rfl)) (hw _ (List.mem_of_getElem? (i := 38) rfl)) (hw _ (List.mem_of_getElem? (i := 39) rfl)) (hw _ (List.mem_of_getElem? (i := 41) rfl)) e41 V_b.arh E_b (g := (mkF m 6 #[.val (.ref a), .val (.ref b)] [(.ref b), (.ref a)])) rfl (by rw [hml]; rfl) rfl (hb hby d6_6) (by decide) (W := 1) (by show 2 * 0 + _ ≤ _; exact Nat.le_of_eq rfl) (by decide) (cap := 2) (by decide) (by decide) (by decide)
  obtain ⟨d, g42⟩ : ∃ z, z = h0.size := ⟨_, rfl⟩
  rw [← g42] at V42 A42 st42
  have g_d : n0 ≤ d := Nat.le_trans Z0 (Nat.le_of_eq g42.symm)
  have ne_a_d : a ≠ d := Nat.ne_of_lt (Nat.lt_of_lt_of_le E_a.lt (Nat.le_of_eq g42.symm))
  have ne_d_a := Ne.symm ne_a_d
  have ne_b_d : b ≠ d := Nat.ne_of_lt (Nat.lt_of_lt_of_le V_b.lt (Nat.le_of_eq g42.symm))
  have ne_d_b := Ne.symm ne_b_d
  have sz_d := Nat.le_trans K_0.1 (Nat.le_of_eq g42.symm)
  replace E_a := E_a.ext E42
  replace F_args_a := F_args_a.ext E42
  replace F_next_a := F_next_a.ext E42
  replace V_b := V_b.ext E42
  replace E_b := E_b.ext E42
  have Z43 := Nat.le_trans Z0 E42.1
  have K44 := K_0.ext E42
  have V_d : Arv Z h42 d k (.object "java/lang/String") (2 : Int32) [(.ref u0), (.ref u1)] .null := V42
  have E_d := A42
  refine own_st st42 ?_
  show own_Go p e s below _ _ _ T42 (mkF m 9 #[.val (.ref a), .val (.ref b)] [(.ref d), (.ref a)])
  obtain ⟨T45, X45, e45, st45⟩ := castY X42 hx hZ hown (hw _ (List.mem_of_getElem? (i := 42) rfl)) e42 (Ins.self E_d) (g := (mkF m 9 #[.val (.ref a), .val (.ref b)] [(.ref d), (.ref a)])) rfl rfl (hb hby d6_9)
  refine own_st st45 ?_
  show own_Go p e s below _ _ _ T45 (mkF m 12 #[.val (.ref a), .val (.ref b)] [(.ref d), (.ref a)])
  obtain ⟨T46, h46, X46, e46, W46, st46⟩ := putF X45 hx hZ hown (host := "") (Or.inl (hw _ (List.mem_of_getElem? (i := 44) rfl))) Via.refl e45 F_args_a E_a (Or.inr ⟨hw _ (List.mem_of_getElem? (i := 45) rfl), rfl, hnm⟩) (hw _ (List.mem_of_getElem? (i := 29) rfl)) (ty := (.array (.object "java/lang/String"))) (by decide) rfl rfl (g := (mkF m 12 #[.val (.ref a), .val (.ref b)] [(.ref d), (.ref a)])) rfl rfl (hb hby d6_12)
  refine own_st st46 ?_
  replace F_args_a := F_args_a.same W46
  replace E_a := E_a.wr W46
  replace F_next_a := F_next_a.other W46 (Or.inr (slot_ne (Or.inl (hw _ (List.mem_of_getElem? (i := 52) rfl))) (Or.inr (hw _ (List.mem_of_getElem? (i := 45) rfl))) (by decide) (t := .int) (t' := (.array (.object "java/lang/String"))) (by decide) (by decide)))
  replace V_b := V_b.other W46 ne_b_a
  replace E_b := E_b.wr W46
  replace V_d := V_d.other W46 ne_d_a
  replace E_d := E_d.wr W46
  have Z47 := Nat.le_trans Z43 (Keep.of_wr W46).1
  have K48 := K44.wr W46 (Or.inl (List.mem_of_getElem? (i := 0) rfl))
  have N46 := Fr.snoc X46 N0 g_a
  show own_Go p e s below _ _ _ T46 (mkF m 15 #[.val (.ref a), .val (.ref b)] [])
  exact own_ret0 X46 hx hlk hret (hb hby d6_15) (by decide) (by decide) (by rw [e46]; exact ⟨d, rfl, N46, K48, sz_d, E_a, F_args_a, F_next_a, V_d⟩)
theorem ef_rm6_3 (m : MethodId) (z0 : Addr) (z1 : Addr) : entryFrame m #[(.ref z0), (.ref z1)] 2 = mkF m 0 #[.val (.ref z0), .val (.ref z1)] [] := by first | (simp [entryFrame, mkF, argsToLocals, Value.category]; done) | rfl
set_option maxRecDepth 65536 in
set_option maxHeartbeats 40000000 in
theorem rm6_3 (l : Launch) (Z : State) (a0 : Array Value) (hw : ∀ d ∈ tables_1, d.before a0 Z = true) (ws : List Jvm.Cond) (a b : Addr) (k : ClassId) (u0 : Addr) (u1 : Addr) (u2 : Addr) (h0 : Heap) (n0 : Nat) (Z0 : n0 ≤ h0.size) (E_a : (Exa Z h0 a "com/example/chronotope/chronotope/Arguments")) (F_args_a : (Fld Z h0 a "com/example/chronotope/chronotope/Arguments" "args" "[Ljava/lang/String;" .null)) (F_next_a : (Fld Z h0 a "com/example/chronotope/chronotope/Arguments" "next" "I" (.int (0 : Int32)))) (V_b : Arv Z h0 b k (.object "java/lang/String") (3 : Int32) [(.ref u0), (.ref u1), (.ref u2)] .null) (E_b : (Exa Z h0 b "[Ljava/lang/String;")) (ne_a_b : a ≠ b) (ne_b_a : b ≠ a) (g_a : n0 ≤ a) :
    own_Met l Z (⟨"com/example/chronotope/chronotope/Arguments", "<init>", "([Ljava/lang/String;)V"⟩ : MethodName) prog_1_method_1_code 2 none ({ frames := 1, cells := 1, slots := 3, locals := 15 } : Room) ws #[(.ref a), (.ref b)] h0 (fun v h L => ∃ d : Addr, v = none ∧ Fr n0 L ∧ Keep h0 h [a] ∧ (h0.size ≤ d) ∧ (Exa Z h a "com/example/chronotope/chronotope/Arguments") ∧ (Fld Z h a "com/example/chronotope/chronotope/Arguments" "args" "[Ljava/lang/String;" (.ref d)) ∧ (Fld Z h a "com/example/chronotope/chronotope/Arguments" "next" "I" (.int (0 : Int32))) ∧ (Arv Z h d k (.object "java/lang/String") (3 : Int32) [(.ref u0), (.ref u1), (.ref u2)] .null)) 1 3 := by
  refine own_enter pf6 (fun m => ef_rm6_3 m a b) ?_
  intro p e s m below meth c T0 hx hby hml hown hnm hret hlk hZ X0 e0
  have N0 := Fr.nil n0
  show own_Go p e s below _ _ _ T0 (mkF m 0 #[.val (.ref a), .val (.ref b)] [])
  have K_0 := Keep.refl h0 [a]
  refine own_st (fun _ k => XS.aloadN X0.here hx rfl (hb hby d6_0) rfl rfl k) ?_
  show own_Go p e s below _ _ _ T0 (mkF m 1 #[.val (.ref a), .val (.ref b)] [(.ref a)])
  obtain ⟨T49, X49, e49, st49⟩ := initO X0 hx hZ hown (hw _ (List.mem_of_getElem? (i := 34) rfl)) (hw _ (List.mem_of_getElem? (i := 20) rfl)) (hw _ (List.mem_of_getElem? (i := 21) rfl)) e0 (g := (mkF m 1 #[.val (.ref a), .val (.ref b)] [(.ref a)])) rfl (by rw [hml]; rfl) rfl (hb hby d6_1) (by decide) (W := 0) (by show 2 * 0 + _ ≤ _; exact Nat.le_of_eq rfl) (by decide)
  refine own_st st49 ?_
  show own_Go p e s below _ _ _ T49 (mkF m 4 #[.val (.ref a), .val (.ref b)] [])
  refine own_st (fun _ k => XS.aloadN X49.here hx rfl (hb hby d6_4) rfl rfl k) ?_
  show own_Go p e s below _ _ _ T49 (mkF m 5 #[.val (.ref a), .val (.ref b)] [(.ref a)])
  refine own_st (fun _ k => XS.aloadN X49.here hx rfl (hb hby d6_5) rfl rfl k) ?_
  show own_Go p e s below _ _ _ T49 (mkF m 6 #[.val (.ref a), .val (.ref b)] [(.ref b), (.ref a)])
  obtain ⟨T50, h50, X50, e50, E50, V50, A50, st50⟩ := cloneH X49 hx hZ hown (hw _ (List.mem_of_getElem? (i := 35) rfl)) (hw _ (List.mem_of_getElem? (i := 36) rfl)) (hw _ (List.mem_of_getElem? (i := 40) rfl)) (hw _ (List.mem_of_getElem? (i := 38) rfl)) (hw _ (List.mem_of_getElem? (i := 39) rfl)) (hw _ (List.mem_of_getElem? (i := 41) rfl)) e49 V_b.arh E_b (g := (mkF m 6 #[.val (.ref a), .val (.ref b)] [(.ref b), (.ref a)])) rfl (by rw [hml]; rfl) rfl (hb hby d6_6) (by decide) (W := 1) (by show 2 * 0 + _ ≤ _; exact Nat.le_of_eq rfl) (by decide) (cap := 3) (by decide) (by decide) (by decide)
  obtain ⟨d, g50⟩ : ∃ z, z = h0.size := ⟨_, rfl⟩
  rw [← g50] at V50 A50 st50
  have g_d : n0 ≤ d := Nat.le_trans Z0 (Nat.le_of_eq g50.symm)
  have ne_a_d : a ≠ d := Nat.ne_of_lt (Nat.lt_of_lt_of_le E_a.lt (Nat.le_of_eq g50.symm))
  have ne_d_a := Ne.symm ne_a_d
  have ne_b_d : b ≠ d := Nat.ne_of_lt (Nat.lt_of_lt_of_le V_b.lt (Nat.le_of_eq g50.symm))
  have ne_d_b := Ne.symm ne_b_d
  have sz_d := Nat.le_trans K_0.1 (Nat.le_of_eq g50.symm)
  replace E_a := E_a.ext E50
  replace F_args_a := F_args_a.ext E50
  replace F_next_a := F_next_a.ext E50
  replace V_b := V_b.ext E50
  replace E_b := E_b.ext E50
  have Z51 := Nat.le_trans Z0 E50.1
  have K52 := K_0.ext E50
  have V_d : Arv Z h50 d k (.object "java/lang/String") (3 : Int32) [(.ref u0), (.ref u1), (.ref u2)] .null := V50
  have E_d := A50
  refine own_st st50 ?_
  show own_Go p e s below _ _ _ T50 (mkF m 9 #[.val (.ref a), .val (.ref b)] [(.ref d), (.ref a)])
  obtain ⟨T53, X53, e53, st53⟩ := castY X50 hx hZ hown (hw _ (List.mem_of_getElem? (i := 42) rfl)) e50 (Ins.self E_d) (g := (mkF m 9 #[.val (.ref a), .val (.ref b)] [(.ref d), (.ref a)])) rfl rfl (hb hby d6_9)
  refine own_st st53 ?_
  show own_Go p e s below _ _ _ T53 (mkF m 12 #[.val (.ref a), .val (.ref b)] [(.ref d), (.ref a)])
  obtain ⟨T54, h54, X54, e54, W54, st54⟩ := putF X53 hx hZ hown (host := "") (Or.inl (hw _ (List.mem_of_getElem? (i := 44) rfl))) Via.refl e53 F_args_a E_a (Or.inr ⟨hw _ (List.mem_of_getElem? (i := 45) rfl), rfl, hnm⟩) (hw _ (List.mem_of_getElem? (i := 29) rfl)) (ty := (.array (.object "java/lang/String"))) (by decide) rfl rfl (g := (mkF m 12 #[.val (.ref a), .val (.ref b)] [(.ref d), (.ref a)])) rfl rfl (hb hby d6_12)
  refine own_st st54 ?_
  replace F_args_a := F_args_a.same W54
  replace E_a := E_a.wr W54
  replace F_next_a := F_next_a.other W54 (Or.inr (slot_ne (Or.inl (hw _ (List.mem_of_getElem? (i := 52) rfl))) (Or.inr (hw _ (List.mem_of_getElem? (i := 45) rfl))) (by decide) (t := .int) (t' := (.array (.object "java/lang/String"))) (by decide) (by decide)))
  replace V_b := V_b.other W54 ne_b_a
  replace E_b := E_b.wr W54
  replace V_d := V_d.other W54 ne_d_a
  replace E_d := E_d.wr W54
  have Z55 := Nat.le_trans Z51 (Keep.of_wr W54).1
  have K56 := K52.wr W54 (Or.inl (List.mem_of_getElem? (i := 0) rfl))
  have N54 := Fr.snoc X54 N0 g_a
  show own_Go p e s below _ _ _ T54 (mkF m 15 #[.val (.ref a), .val (.ref b)] [])
  exact own_ret0 X54 hx hlk hret (hb hby d6_15) (by decide) (by decide) (by rw [e54]; exact ⟨d, rfl, N54, K56, sz_d, E_a, F_args_a, F_next_a, V_d⟩)
theorem ef_rm7 (m : MethodId) (z0 : Addr) : entryFrame m #[(.ref z0)] 1 = mkF m 0 #[.val (.ref z0)] [] := by first | (simp [entryFrame, mkF, argsToLocals, Value.category]; done) | rfl
set_option maxRecDepth 65536 in
set_option maxHeartbeats 40000000 in
theorem rm7 (l : Launch) (Z : State) (a0 : Array Value) (hw : ∀ d ∈ tables_1, d.before a0 Z = true) (ws : List Jvm.Cond) (a d : Addr) (j nn : Int32) (k : ClassId) (vs : List Value) (h0 : Heap) (n0 : Nat) (Z0 : n0 ≤ h0.size) (F_args_a : (Fld Z h0 a "com/example/chronotope/chronotope/Arguments" "args" "[Ljava/lang/String;" (.ref d))) (F_next_a : (Fld Z h0 a "com/example/chronotope/chronotope/Arguments" "next" "I" (.int j))) (V_d : Arv Z h0 d k (.object "java/lang/String") nn vs .null) :
    own_Met l Z (⟨"com/example/chronotope/chronotope/Arguments", "hasNext", "()Z"⟩ : MethodName) prog_1_method_2_code 1 (some .boolean) ({ frames := 0, cells := 0, slots := 0, locals := 0 } : Room) ws #[(.ref a)] h0 (fun v h L => v = some (.int (own_b (j < nn))) ∧ Fr n0 L ∧ h = h0) 0 0 := by
  refine own_enter pf7 (fun m => ef_rm7 m a) ?_
  intro p e s m below meth c T0 hx hby hml hown hnm hret hlk hZ X0 e0
  have N0 := Fr.nil n0
  show own_Go p e s below _ _ _ T0 (mkF m 0 #[.val (.ref a)] [])
  refine own_st (fun _ k => XS.aloadN X0.here hx rfl (hb hby d7_0) rfl rfl k) ?_
  show own_Go p e s below _ _ _ T0 (mkF m 1 #[.val (.ref a)] [(.ref a)])
  obtain ⟨T57, X57, e57, st57⟩ := getF X0 hx hZ hown (host := "") (Or.inl (hw _ (List.mem_of_getElem? (i := 51) rfl))) Via.refl e0 F_next_a (g := (mkF m 1 #[.val (.ref a)] [(.ref a)])) rfl rfl (hb hby d7_1)
  refine own_st st57 ?_
  show own_Go p e s below _ _ _ T57 (mkF m 4 #[.val (.ref a)] [(.int j)])
  refine own_st (fun _ k => XS.aloadN X57.here hx rfl (hb hby d7_4) rfl rfl k) ?_
  show own_Go p e s below _ _ _ T57 (mkF m 5 #[.val (.ref a)] [(.ref a), (.int j)])
  obtain ⟨T58, X58, e58, st58⟩ := getF X57 hx hZ hown (host := "") (Or.inl (hw _ (List.mem_of_getElem? (i := 44) rfl))) Via.refl e57 F_args_a (g := (mkF m 5 #[.val (.ref a)] [(.ref a), (.int j)])) rfl rfl (hb hby d7_5)
  refine own_st st58 ?_
  show own_Go p e s below _ _ _ T58 (mkF m 8 #[.val (.ref a)] [(.ref d), (.int j)])
  refine own_st (own_len X58 hx hZ e58 V_d (g := (mkF m 8 #[.val (.ref a)] [(.ref d), (.int j)])) rfl rfl (hb hby d7_8)) ?_
  show own_Go p e s below _ _ _ T58 (mkF m 9 #[.val (.ref a)] [(.int nn), (.int j)])
  by_cases c9_59 : j < nn
  · refine own_st (fun _ k => XS.icmpNo X58.here hx rfl (hb hby d7_9) rfl (tlt c9_59).2.1 k) ?_
    show own_Go p e s below _ _ _ T58 (mkF m 12 #[.val (.ref a)] [])
    refine own_st (fun _ k => XS.iconst X58.here hx rfl (hb hby d7_12) k) ?_
    show own_Go p e s below _ _ _ T58 (mkF m 13 #[.val (.ref a)] [(.int (1 : Int32))])
    refine own_st (fun _ k => XS.goto X58.here hx rfl (pc0 := 13) (pc' := 17) rfl (hb hby d7_13) (by decide) (by decide) k) ?_
    show own_Go p e s below _ _ _ T58 (mkF m 17 #[.val (.ref a)] [(.int (1 : Int32))])
    exact own_retN X58 hx hlk (t := .boolean) hret (by simp) (hb hby d7_17) (z' := (1 : Int32)) rfl (by decide) (by decide) ⟨by rw [own_bt c9_59], N0, e58⟩
  · refine own_st (fun _ k => XS.icmpYes X58.here hx rfl (pc0 := 9) (pc' := 16) rfl (hb hby d7_9) rfl (flt c9_59).2.1 (by decide) (by decide) k) ?_
    show own_Go p e s below _ _ _ T58 (mkF m 16 #[.val (.ref a)] [])
    refine own_st (fun _ k => XS.iconst X58.here hx rfl (hb hby d7_16) k) ?_
    show own_Go p e s below _ _ _ T58 (mkF m 17 #[.val (.ref a)] [(.int (0 : Int32))])
    exact own_retN X58 hx hlk (t := .boolean) hret (by simp) (hb hby d7_17) (z' := (0 : Int32)) rfl (by decide) (by decide) ⟨by rw [own_bf c9_59], N0, e58⟩
theorem ef_rm8 (m : MethodId) (z0 : Addr) : entryFrame m #[(.ref z0)] 1 = mkF m 0 #[.val (.ref z0)] [] := by first | (simp [entryFrame, mkF, argsToLocals, Value.category]; done) | rfl
set_option maxRecDepth 65536 in
set_option maxHeartbeats 40000000 in
theorem rm8 (l : Launch) (Z : State) (a0 : Array Value) (hw : ∀ d ∈ tables_1, d.before a0 Z = true) (ws : List Jvm.Cond) (a d : Addr) (j nn : Int32) (k : ClassId) (vs : List Value) (u : Addr) (h0 : Heap) (n0 : Nat) (Z0 : n0 ≤ h0.size) (F_args_a : (Fld Z h0 a "com/example/chronotope/chronotope/Arguments" "args" "[Ljava/lang/String;" (.ref d))) (F_next_a : (Fld Z h0 a "com/example/chronotope/chronotope/Arguments" "next" "I" (.int j))) (V_d : Arv Z h0 d k (.object "java/lang/String") nn vs .null) (E_a : (Exa Z h0 a "com/example/chronotope/chronotope/Arguments")) (ne_d_a : d ≠ a) (g_a : n0 ≤ a) (hj : ¬ j < 0 ∧ j < nn) (hv : vs.getD j.toNatClampNeg .null = .ref u) :
    own_Met l Z (⟨"com/example/chronotope/chronotope/Arguments", "next", "()Ljava/lang/String;"⟩ : MethodName) prog_1_method_3_code 1 (some (.object "java/lang/String")) ({ frames := 1, cells := 0, slots := 0, locals := 16 } : Room) ws #[(.ref a)] h0 (fun v h L => v = some (.ref u) ∧ Fr n0 L ∧ Keep h0 h [a] ∧ (Exa Z h a "com/example/chronotope/chronotope/Arguments") ∧ (Fld Z h a "com/example/chronotope/chronotope/Arguments" "args" "[Ljava/lang/String;" (.ref d)) ∧ (Fld Z h a "com/example/chronotope/chronotope/Arguments" "next" "I" (.int (j + (1 : Int32)))) ∧ (Arv Z h d k (.object "java/lang/String") nn vs .null)) 0 0 := by
  refine own_enter pf8 (fun m => ef_rm8 m a) ?_
  intro p e s m below meth c T0 hx hby hml hown hnm hret hlk hZ X0 e0
  have N0 := Fr.nil n0
  show own_Go p e s below _ _ _ T0 (mkF m 0 #[.val (.ref a)] [])
  have K_0 := Keep.refl h0 [a]
  refine own_st (fun _ k => XS.aloadN X0.here hx rfl (hb hby d8_0) rfl rfl k) ?_
  show own_Go p e s below _ _ _ T0 (mkF m 1 #[.val (.ref a)] [(.ref a)])
  refine own_callV X0 hx hZ (y := (⟨"com/example/chronotope/chronotope/Arguments", "hasNext", "()Z"⟩ : MethodName)) hown (hw _ (List.mem_of_getElem? (i := 58) rfl)) (hw _ (List.mem_of_getElem? (i := 47) rfl)) (hw _ (List.mem_of_getElem? (i := 49) rfl)) (hw _ (List.mem_of_getElem? (i := 48) rfl)) (hw _ (List.mem_of_getElem? (i := 30) rfl)) (hw _ (List.mem_of_getElem? (i := 50) rfl)) (by decide) e0 (rm7 l Z a0 hw [] a d j nn k vs h0 n0 Z0 F_args_a F_next_a V_d) 0 (by decide) (by decide) E_a (g := (mkF m 1 #[.val (.ref a)] [(.ref a)])) rfl (by rw [hml]; rfl) (argsL := []) (rest := []) pd5 rfl rfl rfl (by show 2 * 0 + _ ≤ _; exact Nat.le_of_eq rfl) (hb hby d8_1) (by decide) (by decide) ?_
  intro T60 v60 L60 X60 hQ60
  obtain ⟨rfl, N60q, e60⟩ := hQ60
  have N60 := Fr.app N0 N60q
  show own_Go p e s below _ _ _ T60 (mkF m 4 #[.val (.ref a)] [(.int (own_b (j < nn)))])
  refine own_st (fun _ k => XS.ifYes X60.here hx rfl (pc0 := 4) (pc' := 17) rfl (hb hby d8_4) rfl (own_by hj.2).1 (by decide) (by decide) k) ?_
  show own_Go p e s below _ _ _ T60 (mkF m 17 #[.val (.ref a)] [])
  refine own_st (fun _ k => XS.aloadN X60.here hx rfl (hb hby d8_17) rfl rfl k) ?_
  show own_Go p e s below _ _ _ T60 (mkF m 18 #[.val (.ref a)] [(.ref a)])
  obtain ⟨T61, X61, e61, st61⟩ := getF X60 hx hZ hown (host := "") (Or.inl (hw _ (List.mem_of_getElem? (i := 44) rfl))) Via.refl e60 F_args_a (g := (mkF m 18 #[.val (.ref a)] [(.ref a)])) rfl rfl (hb hby d8_18)
  refine own_st st61 ?_
  show own_Go p e s below _ _ _ T61 (mkF m 21 #[.val (.ref a)] [(.ref d)])
  refine own_st (fun _ k => XS.aloadN X61.here hx rfl (hb hby d8_21) rfl rfl k) ?_
  show own_Go p e s below _ _ _ T61 (mkF m 22 #[.val (.ref a)] [(.ref a), (.ref d)])
  refine own_st (fun _ k => XS.dup X61.here hx rfl (hb hby d8_22) rfl rfl k) ?_
  show own_Go p e s below _ _ _ T61 (mkF m 23 #[.val (.ref a)] [(.ref a), (.ref a), (.ref d)])
  obtain ⟨T62, X62, e62, st62⟩ := getF X61 hx hZ hown (host := "") (Or.inl (hw _ (List.mem_of_getElem? (i := 51) rfl))) Via.refl e61 F_next_a (g := (mkF m 23 #[.val (.ref a)] [(.ref a), (.ref a), (.ref d)])) rfl rfl (hb hby d8_23)
  refine own_st st62 ?_
  show own_Go p e s below _ _ _ T62 (mkF m 26 #[.val (.ref a)] [(.int j), (.ref a), (.ref d)])
  refine own_st (fun _ k => XS.dupX1 X62.here hx rfl (hb hby d8_26) rfl rfl rfl k) ?_
  show own_Go p e s below _ _ _ T62 (mkF m 27 #[.val (.ref a)] [(.int j), (.ref a), (.int j), (.ref d)])
  refine own_st (fun _ k => XS.iconst X62.here hx rfl (hb hby d8_27) k) ?_
  show own_Go p e s below _ _ _ T62 (mkF m 28 #[.val (.ref a)] [(.int (1 : Int32)), (.int j), (.ref a), (.int j), (.ref d)])
  refine own_st (fun _ k => XS.iadd X62.here hx rfl (hb hby d8_28) rfl k) ?_
  show own_Go p e s below _ _ _ T62 (mkF m 29 #[.val (.ref a)] [(.int (j + (1 : Int32))), (.ref a), (.int j), (.ref d)])
  obtain ⟨T63, h63, X63, e63, W63, st63⟩ := putF X62 hx hZ hown (host := "") (Or.inl (hw _ (List.mem_of_getElem? (i := 51) rfl))) Via.refl e62 F_next_a E_a (Or.inl (hw _ (List.mem_of_getElem? (i := 52) rfl))) (hw _ (List.mem_of_getElem? (i := 29) rfl)) (ty := .int) (by decide) rfl rfl (g := (mkF m 29 #[.val (.ref a)] [(.int (j + (1 : Int32))), (.ref a), (.int j), (.ref d)])) rfl rfl (hb hby d8_29)
  refine own_st st63 ?_
  replace F_next_a := F_next_a.same W63
  replace F_args_a := F_args_a.other W63 (Or.inr (slot_ne (Or.inr (hw _ (List.mem_of_getElem? (i := 45) rfl))) (Or.inl (hw _ (List.mem_of_getElem? (i := 52) rfl))) (by decide) (t := (.array (.object "java/lang/String"))) (t' := .int) (by decide) (by decide)))
  replace V_d := V_d.other W63 ne_d_a
  replace E_a := E_a.wr W63
  have Z64 := Nat.le_trans Z0 (Keep.of_wr W63).1
  have K65 := K_0.wr W63 (Or.inl (List.mem_of_getElem? (i := 0) rfl))
  have N63 := Fr.snoc X63 N60 g_a
  show own_Go p e s below _ _ _ T63 (mkF m 32 #[.val (.ref a)] [(.int j), (.ref d)])
  refine own_st (own_ldR X63 hx hZ e63 V_d rfl (j := j) (v := (.ref u)) hj hv (g := (mkF m 32 #[.val (.ref a)] [(.int j), (.ref d)])) rfl rfl (hb hby d8_32)) ?_
  show own_Go p e s below _ _ _ T63 (mkF m 33 #[.val (.ref a)] [(.ref u)])
  exact own_retR X63 hx hlk hret rfl rfl rfl (hb hby d8_33) (by decide) (by decide) (by rw [e63]; exact ⟨rfl, N63, K65, E_a, F_args_a, F_next_a, V_d⟩)
theorem ef_rm9 (m : MethodId) (z0 : Addr) (z1 : Addr) : entryFrame m #[(.ref z0), (.ref z1)] 3 = mkF m 0 #[.val (.ref z0), .val (.ref z1), .unset] [] := by first | (simp [entryFrame, mkF, argsToLocals, Value.category]; done) | rfl
set_option maxRecDepth 65536 in
set_option maxHeartbeats 40000000 in
theorem rm9 (l : Launch) (Z : State) (a0 : Array Value) (hw : ∀ d ∈ tables_1, d.before a0 Z = true) (ws : List Jvm.Cond) (a : Addr) (h0 : Heap) (n0 : Nat) (Z0 : n0 ≤ h0.size)  :
    own_Met l Z (⟨"java/lang/String", "equals", "(Ljava/lang/Object;)Z"⟩ : MethodName) jdk_42_method_66_code 3 (some .boolean) ({ frames := 0, cells := 0, slots := 0, locals := 0 } : Room) ws #[(.ref a), (.ref a)] h0 (fun v h L => v = some (.int 1) ∧ Fr n0 L ∧ h = h0) 0 0 := by
  refine own_enter pf9 (fun m => ef_rm9 m a a) ?_
  intro p e s m below meth c T0 hx hby hml hown hnm hret hlk hZ X0 e0
  have N0 := Fr.nil n0
  show own_Go p e s below _ _ _ T0 (mkF m 0 #[.val (.ref a), .val (.ref a), .unset] [])
  refine own_st (fun _ k => XS.aloadN X0.here hx rfl (hb hby d9_0) rfl rfl k) ?_
  show own_Go p e s below _ _ _ T0 (mkF m 1 #[.val (.ref a), .val (.ref a), .unset] [(.ref a)])
  refine own_st (fun _ k => XS.aloadN X0.here hx rfl (hb hby d9_1) rfl rfl k) ?_
  show own_Go p e s below _ _ _ T0 (mkF m 2 #[.val (.ref a), .val (.ref a), .unset] [(.ref a), (.ref a)])
  refine own_st (fun _ k => Jvm.RoadKit.acmp (g := (mkF m 2 #[.val (.ref a), .val (.ref a), .unset] [(.ref a), (.ref a)])) X0 hx rfl rfl rfl (pc0 := 2) (pc' := 5) (same := true) rfl (hb hby d9_2) rfl (decide_eq_true rfl) (by decide) (by decide) k) ?_
  show own_Go p e s below _ _ _ T0 (mkF m 5 #[.val (.ref a), .val (.ref a), .unset] [])
  refine own_st (fun _ k => XS.iconst X0.here hx rfl (hb hby d9_5) k) ?_
  show own_Go p e s below _ _ _ T0 (mkF m 6 #[.val (.ref a), .val (.ref a), .unset] [(.int (1 : Int32))])
  exact own_retN X0 hx hlk (t := .boolean) hret (by simp) (hb hby d9_6) (z' := (1 : Int32)) rfl (by decide) (by decide) ⟨rfl, N0, e0⟩
theorem own_n (y : Int32) : (y &&& (3 : Int32)) = 0 ∨ (y &&& (3 : Int32)) = 1 ∨ (y &&& (3 : Int32)) = 2 ∨ (y &&& (3 : Int32)) = 3 := by
  have m := c_mask y 3 2 (by decide) (by decide)
  simp only [← Int32.toInt_inj, Int32.reduceToInt]
  omega
theorem own_k0 (y : Int32) : ((y &&& (3 : Int32)) % (1 : Int32)) = 0 := by
  have m := c_mask y 3 2 (by decide) (by decide)
  have r := (c_irem (y &&& (3 : Int32)) 1 1 (by decide)).1 (by omega)
  simp only [← Int32.toInt_inj, Int32.reduceToInt]
  omega
theorem own_k1 (y : Int32) : ((y &&& (3 : Int32)) % (2 : Int32)) = 0 ∨ ((y &&& (3 : Int32)) % (2 : Int32)) = 1 := by
  have m := c_mask y 3 2 (by decide) (by decide)
  have r := (c_irem (y &&& (3 : Int32)) 2 2 (by decide)).1 (by omega)
  simp only [← Int32.toInt_inj, Int32.reduceToInt]
  omega
theorem own_k2 (y : Int32) : ((y &&& (3 : Int32)) % (3 : Int32)) = 0 ∨ ((y &&& (3 : Int32)) % (3 : Int32)) = 1 ∨ ((y &&& (3 : Int32)) % (3 : Int32)) = 2 := by
  have m := c_mask y 3 2 (by decide) (by decide)
  have r := (c_irem (y &&& (3 : Int32)) 3 3 (by decide)).1 (by omega)
  simp only [← Int32.toInt_inj, Int32.reduceToInt]
  omega
theorem own_k3 (y : Int32) : ((y &&& (3 : Int32)) % (4 : Int32)) = 0 ∨ ((y &&& (3 : Int32)) % (4 : Int32)) = 1 ∨ ((y &&& (3 : Int32)) % (4 : Int32)) = 2 ∨ ((y &&& (3 : Int32)) % (4 : Int32)) = 3 := by
  have m := c_mask y 3 2 (by decide) (by decide)
  have r := (c_irem (y &&& (3 : Int32)) 4 4 (by decide)).1 (by omega)
  simp only [← Int32.toInt_inj, Int32.reduceToInt]
  omega
theorem own_ch (y : Int32) : ¬ (255 : Int32) < (y &&& (255 : Int32)).toUInt32.toUInt16.toUInt32.toInt32 := by
  rw [i2c_mask]
  have m := c_mask y 255 8 (by decide) (by decide)
  simp only [Int32.lt_iff_toInt_lt, Int32.reduceToInt]
  omega
theorem own_StaK {Z : State} {h h' : Heap} {C n d : String} {w : Value} (F : Sta Z h C n d w) (K : Keep h h' []) : Sta Z h' C n d w := by
  obtain ⟨cf, i, k, f, st, cell, h1, h2, h3, h4, h5, r⟩ := F
  exact ⟨cf, i, k, f, st, cell, h1, h2, h3, h4, K.2.1 _ _ h5 nin0, r⟩
theorem ef_rm0 (m : MethodId) (z0 : Int32) (z1 : Int32) (z2 : Int32) (z3 : Int32) (z4 : Int32) : entryFrame m #[(.int z0), (.int z1), (.int z2), (.int z3), (.int z4)] maxLocals = mkF m 0 #[.val (.int z0), .val (.int z1), .val (.int z2), .val (.int z3), .val (.int z4), .unset, .unset, .unset, .unset, .unset, .unset, .unset, .unset, .unset] [] := by first | (simp [entryFrame, mkF, argsToLocals, Value.category, maxLocals]; done) | rfl
set_option maxRecDepth 65536 in
set_option maxHeartbeats 40000000 in
theorem rm0 (l : Launch) (Z : State) (a0 : Array Value) (hw : ∀ d ∈ tables_1, d.before a0 Z = true) (ws : List Jvm.Cond) (p0 p1 p2 p3 p4 cs : Int32) (h0 : Heap) (n0 : Nat) (Z0 : n0 ≤ h0.size) (S_cs : Sta Z h0 "java/lang/String" "COMPACT_STRINGS" "Z" (.int cs)) (hcs : ¬ cs = 0) :
    own_Met l Z x code maxLocals ret room_1 ws #[(.int p0), (.int p1), (.int p2), (.int p3), (.int p4)] h0 (fun v h L => v = some (.int 1) ∧ Fr n0 L) 32 128 := by
  refine own_enter pf0 (fun m => ef_rm0 m p0 p1 p2 p3 p4) ?_
  intro p e s m below meth c T0 hx hby hml hown hnm hret hlk hZ X0 e0
  have N0 := Fr.nil n0
  show own_Go p e s below _ _ _ T0 (mkF m 0 #[.val (.int p0), .val (.int p1), .val (.int p2), .val (.int p3), .val (.int p4), .unset, .unset, .unset, .unset, .unset, .unset, .unset, .unset, .unset] [])
  refine own_st (fun _ k => XS.iloadN X0.here hx rfl (hb hby at_0) rfl k) ?_
  show own_Go p e s below _ _ _ T0 (mkF m 1 #[.val (.int p0), .val (.int p1), .val (.int p2), .val (.int p3), .val (.int p4), .unset, .unset, .unset, .unset, .unset, .unset, .unset, .unset, .unset] [(.int p0)])
  refine own_st (fun _ k => XS.iconst X0.here hx rfl (hb hby at_1) k) ?_
  show own_Go p e s below _ _ _ T0 (mkF m 2 #[.val (.int p0), .val (.int p1), .val (.int p2), .val (.int p3), .val (.int p4), .unset, .unset, .unset, .unset, .unset, .unset, .unset, .unset, .unset] [(.int (3 : Int32)), (.int p0)])
  refine own_st (fun _ k => XS.iand X0.here hx rfl (hb hby at_2) rfl k) ?_
  show own_Go p e s below _ _ _ T0 (mkF m 3 #[.val (.int p0), .val (.int p1), .val (.int p2), .val (.int p3), .val (.int p4), .unset, .unset, .unset, .unset, .unset, .unset, .unset, .unset, .unset] [(.int (p0 &&& (3 : Int32)))])
  have hn := own_n p0
  generalize (p0 &&& (3 : Int32)) = nn at hn ⊢
  rcases hn with rfl | rfl | rfl | rfl
  · show own_Go p e s below _ _ _ T0 (mkF m 3 #[.val (.int p0), .val (.int p1), .val (.int p2), .val (.int p3), .val (.int p4), .unset, .unset, .unset, .unset, .unset, .unset, .unset, .unset, .unset] [(.int (0 : Int32))])
    refine own_st (fun _ k => XS.istore X0.here hx rfl (hb hby at_3) rfl (l' := #[.val (.int p0), .val (.int p1), .val (.int p2), .val (.int p3), .val (.int p4), .val (.int (0 : Int32)), .unset, .unset, .unset, .unset, .unset, .unset, .unset, .unset]) rfl k) ?_
    show own_Go p e s below _ _ _ T0 (mkF m 5 #[.val (.int p0), .val (.int p1), .val (.int p2), .val (.int p3), .val (.int p4), .val (.int (0 : Int32)), .unset, .unset, .unset, .unset, .unset, .unset, .unset, .unset] [])
    refine own_st (fun _ k => XS.iloadN X0.here hx rfl (hb hby at_5) rfl k) ?_
    show own_Go p e s below _ _ _ T0 (mkF m 6 #[.val (.int p0), .val (.int p1), .val (.int p2), .val (.int p3), .val (.int p4), .val (.int (0 : Int32)), .unset, .unset, .unset, .unset, .unset, .unset, .unset, .unset] [(.int p1)])
    refine own_st (fun _ k => XS.iconst X0.here hx rfl (hb hby at_6) k) ?_
    show own_Go p e s below _ _ _ T0 (mkF m 7 #[.val (.int p0), .val (.int p1), .val (.int p2), .val (.int p3), .val (.int p4), .val (.int (0 : Int32)), .unset, .unset, .unset, .unset, .unset, .unset, .unset, .unset] [(.int (3 : Int32)), (.int p1)])
    refine own_st (fun _ k => XS.iand X0.here hx rfl (hb hby at_7) rfl k) ?_
    show own_Go p e s below _ _ _ T0 (mkF m 8 #[.val (.int p0), .val (.int p1), .val (.int p2), .val (.int p3), .val (.int p4), .val (.int (0 : Int32)), .unset, .unset, .unset, .unset, .unset, .unset, .unset, .unset] [(.int (p1 &&& (3 : Int32)))])
    refine own_st (fun _ k => XS.iload X0.here hx rfl (hb hby at_8) rfl k) ?_
    show own_Go p e s below _ _ _ T0 (mkF m 10 #[.val (.int p0), .val (.int p1), .val (.int p2), .val (.int p3), .val (.int p4), .val (.int (0 : Int32)), .unset, .unset, .unset, .unset, .unset, .unset, .unset, .unset] [(.int (0 : Int32)), (.int (p1 &&& (3 : Int32)))])
    refine own_st (fun _ k => XS.iconst X0.here hx rfl (hb hby at_10) k) ?_
    show own_Go p e s below _ _ _ T0 (mkF m 11 #[.val (.int p0), .val (.int p1), .val (.int p2), .val (.int p3), .val (.int p4), .val (.int (0 : Int32)), .unset, .unset, .unset, .unset, .unset, .unset, .unset, .unset] [(.int (1 : Int32)), (.int (0 : Int32)), (.int (p1 &&& (3 : Int32)))])
    refine own_st (fun _ k => XS.iadd X0.here hx rfl (hb hby at_11) rfl k) ?_
    show own_Go p e s below _ _ _ T0 (mkF m 12 #[.val (.int p0), .val (.int p1), .val (.int p2), .val (.int p3), .val (.int p4), .val (.int (0 : Int32)), .unset, .unset, .unset, .unset, .unset, .unset, .unset, .unset] [(.int (1 : Int32)), (.int (p1 &&& (3 : Int32)))])
    refine own_st (fun _ k => Jvm.RoadKit.iremM X0 hx rfl (hb hby at_12) rfl (by decide) k) ?_
    show own_Go p e s below _ _ _ T0 (mkF m 13 #[.val (.int p0), .val (.int p1), .val (.int p2), .val (.int p3), .val (.int p4), .val (.int (0 : Int32)), .unset, .unset, .unset, .unset, .unset, .unset, .unset, .unset] [(.int ((p1 &&& (3 : Int32)) % (1 : Int32)))])
    have hk := own_k0 p1
    generalize ((p1 &&& (3 : Int32)) % (1 : Int32)) = kk at hk ⊢
    show own_Go p e s below _ _ _ T0 (mkF m 13 #[.val (.int p0), .val (.int p1), .val (.int p2), .val (.int p3), .val (.int p4), .val (.int (0 : Int32)), .unset, .unset, .unset, .unset, .unset, .unset, .unset, .unset] [(.int kk)])
    refine own_st (fun _ k => XS.istore X0.here hx rfl (hb hby at_13) rfl (l' := #[.val (.int p0), .val (.int p1), .val (.int p2), .val (.int p3), .val (.int p4), .val (.int (0 : Int32)), .val (.int kk), .unset, .unset, .unset, .unset, .unset, .unset, .unset]) rfl k) ?_
    show own_Go p e s below _ _ _ T0 (mkF m 15 #[.val (.int p0), .val (.int p1), .val (.int p2), .val (.int p3), .val (.int p4), .val (.int (0 : Int32)), .val (.int kk), .unset, .unset, .unset, .unset, .unset, .unset, .unset] [])
    refine own_st (fun _ k => XS.iloadN X0.here hx rfl (hb hby at_15) rfl k) ?_
    show own_Go p e s below _ _ _ T0 (mkF m 16 #[.val (.int p0), .val (.int p1), .val (.int p2), .val (.int p3), .val (.int p4), .val (.int (0 : Int32)), .val (.int kk), .unset, .unset, .unset, .unset, .unset, .unset, .unset] [(.int p2)])
    refine own_st (fun _ k => XS.sipush X0.here hx rfl (hb hby at_16) k) ?_
    show own_Go p e s below _ _ _ T0 (mkF m 19 #[.val (.int p0), .val (.int p1), .val (.int p2), .val (.int p3), .val (.int p4), .val (.int (0 : Int32)), .val (.int kk), .unset, .unset, .unset, .unset, .unset, .unset, .unset] [(.int (255 : Int32)), (.int p2)])
    refine own_st (fun _ k => XS.iand X0.here hx rfl (hb hby at_19) rfl k) ?_
    show own_Go p e s below _ _ _ T0 (mkF m 20 #[.val (.int p0), .val (.int p1), .val (.int p2), .val (.int p3), .val (.int p4), .val (.int (0 : Int32)), .val (.int kk), .unset, .unset, .unset, .unset, .unset, .unset, .unset] [(.int (p2 &&& (255 : Int32)))])
    refine own_st (fun _ k => XS.i2c X0.here hx rfl (hb hby at_20) rfl k) ?_
    show own_Go p e s below _ _ _ T0 (mkF m 21 #[.val (.int p0), .val (.int p1), .val (.int p2), .val (.int p3), .val (.int p4), .val (.int (0 : Int32)), .val (.int kk), .unset, .unset, .unset, .unset, .unset, .unset, .unset] [(.int ((p2 &&& (255 : Int32)).toUInt32.toUInt16.toUInt32.toInt32))])
    refine own_callS X0 hx hZ (y := (⟨"java/lang/String", "valueOf", "(C)Ljava/lang/String;"⟩ : MethodName)) hown (hw _ (List.mem_of_getElem? (i := 0) rfl)) (hw _ (List.mem_of_getElem? (i := 1) rfl)) (hw _ (List.mem_of_getElem? (i := 2) rfl)) (hw _ (List.mem_of_getElem? (i := 3) rfl)) (by decide) e0 (rm1 l Z a0 hw [] ((p2 &&& (255 : Int32)).toUInt32.toUInt16.toUInt32.toInt32) cs h0 n0 Z0 S_cs hcs (own_ch _)) 0 (by decide) (by decide) (g := (mkF m 21 #[.val (.int p0), .val (.int p1), .val (.int p2), .val (.int p3), .val (.int p4), .val (.int (0 : Int32)), .val (.int kk), .unset, .unset, .unset, .unset, .unset, .unset, .unset] [(.int ((p2 &&& (255 : Int32)).toUInt32.toUInt16.toUInt32.toInt32))])) rfl (by rw [hml]; rfl) (argsL := [(.int ((p2 &&& (255 : Int32)).toUInt32.toUInt16.toUInt32.toInt32))]) (rest := []) pd0 rfl rfl rfl (by show 2 * 0 + _ ≤ _; exact Nat.le_of_eq rfl) (hb hby at_21) (by decide) (by decide) ?_
    intro T66 v66 L66 X66 hQ66
    obtain ⟨s0, rfl, N66q, K66q, sf_s0, y66_0⟩ := hQ66
    have N66 := Fr.app N0 N66q
    have g_s0 := Nat.le_trans Z0 sf_s0
    have Z67 := Nat.le_trans Z0 K66q.1
    have E_s0 := y66_0
    show own_Go p e s below _ _ _ T66 (mkF m 24 #[.val (.int p0), .val (.int p1), .val (.int p2), .val (.int p3), .val (.int p4), .val (.int (0 : Int32)), .val (.int kk), .unset, .unset, .unset, .unset, .unset, .unset, .unset] [(.ref s0)])
    replace S_cs := own_StaK S_cs K66q
    refine own_st (fun _ k => XS.astore X66.here hx rfl (hb hby at_24) rfl rfl (l' := #[.val (.int p0), .val (.int p1), .val (.int p2), .val (.int p3), .val (.int p4), .val (.int (0 : Int32)), .val (.int kk), .val (.ref s0), .unset, .unset, .unset, .unset, .unset, .unset]) rfl k) ?_
    show own_Go p e s below _ _ _ T66 (mkF m 26 #[.val (.int p0), .val (.int p1), .val (.int p2), .val (.int p3), .val (.int p4), .val (.int (0 : Int32)), .val (.int kk), .val (.ref s0), .unset, .unset, .unset, .unset, .unset, .unset] [])
    refine own_st (fun _ k => XS.iloadN X66.here hx rfl (hb hby at_26) rfl k) ?_
    show own_Go p e s below _ _ _ T66 (mkF m 27 #[.val (.int p0), .val (.int p1), .val (.int p2), .val (.int p3), .val (.int p4), .val (.int (0 : Int32)), .val (.int kk), .val (.ref s0), .unset, .unset, .unset, .unset, .unset, .unset] [(.int p3)])
    refine own_st (fun _ k => XS.sipush X66.here hx rfl (hb hby at_27) k) ?_
    show own_Go p e s below _ _ _ T66 (mkF m 30 #[.val (.int p0), .val (.int p1), .val (.int p2), .val (.int p3), .val (.int p4), .val (.int (0 : Int32)), .val (.int kk), .val (.ref s0), .unset, .unset, .unset, .unset, .unset, .unset] [(.int (255 : Int32)), (.int p3)])
    refine own_st (fun _ k => XS.iand X66.here hx rfl (hb hby at_30) rfl k) ?_
    show own_Go p e s below _ _ _ T66 (mkF m 31 #[.val (.int p0), .val (.int p1), .val (.int p2), .val (.int p3), .val (.int p4), .val (.int (0 : Int32)), .val (.int kk), .val (.ref s0), .unset, .unset, .unset, .unset, .unset, .unset] [(.int (p3 &&& (255 : Int32)))])
    refine own_st (fun _ k => XS.i2c X66.here hx rfl (hb hby at_31) rfl k) ?_
    show own_Go p e s below _ _ _ T66 (mkF m 32 #[.val (.int p0), .val (.int p1), .val (.int p2), .val (.int p3), .val (.int p4), .val (.int (0 : Int32)), .val (.int kk), .val (.ref s0), .unset, .unset, .unset, .unset, .unset, .unset] [(.int ((p3 &&& (255 : Int32)).toUInt32.toUInt16.toUInt32.toInt32))])
    refine own_callS X66 hx hZ (y := (⟨"java/lang/String", "valueOf", "(C)Ljava/lang/String;"⟩ : MethodName)) hown (hw _ (List.mem_of_getElem? (i := 0) rfl)) (hw _ (List.mem_of_getElem? (i := 1) rfl)) (hw _ (List.mem_of_getElem? (i := 2) rfl)) (hw _ (List.mem_of_getElem? (i := 3) rfl)) (by decide) rfl (rm1 l Z a0 hw [] ((p3 &&& (255 : Int32)).toUInt32.toUInt16.toUInt32.toInt32) cs T66.heap n0 Z67 S_cs hcs (own_ch _)) 0 (by decide) (by decide) (g := (mkF m 32 #[.val (.int p0), .val (.int p1), .val (.int p2), .val (.int p3), .val (.int p4), .val (.int (0 : Int32)), .val (.int kk), .val (.ref s0), .unset, .unset, .unset, .unset, .unset, .unset] [(.int ((p3 &&& (255 : Int32)).toUInt32.toUInt16.toUInt32.toInt32))])) rfl (by rw [hml]; rfl) (argsL := [(.int ((p3 &&& (255 : Int32)).toUInt32.toUInt16.toUInt32.toInt32))]) (rest := []) pd0 rfl rfl rfl (by show 2 * 0 + _ ≤ _; exact Nat.le_of_eq rfl) (hb hby at_32) (by decide) (by decide) ?_
    intro T68 v68 L68 X68 hQ68
    obtain ⟨s1, rfl, N68q, K68q, sf_s1, y68_0⟩ := hQ68
    have N68 := Fr.app N66 N68q
    have g_s1 := Nat.le_trans Z67 sf_s1
    have ne_s0_s1 : s0 ≠ s1 := Nat.ne_of_lt (Nat.lt_of_lt_of_le E_s0.lt sf_s1)
    have ne_s1_s0 := Ne.symm ne_s0_s1
    replace E_s0 := E_s0.keep K68q
    have Z69 := Nat.le_trans Z67 K68q.1
    have E_s1 := y68_0
    show own_Go p e s below _ _ _ T68 (mkF m 35 #[.val (.int p0), .val (.int p1), .val (.int p2), .val (.int p3), .val (.int p4), .val (.int (0 : Int32)), .val (.int kk), .val (.ref s0), .unset, .unset, .unset, .unset, .unset, .unset] [(.ref s1)])
    replace S_cs := own_StaK S_cs K68q
    refine own_st (fun _ k => XS.astore X68.here hx rfl (hb hby at_35) rfl rfl (l' := #[.val (.int p0), .val (.int p1), .val (.int p2), .val (.int p3), .val (.int p4), .val (.int (0 : Int32)), .val (.int kk), .val (.ref s0), .val (.ref s1), .unset, .unset, .unset, .unset, .unset]) rfl k) ?_
    show own_Go p e s below _ _ _ T68 (mkF m 37 #[.val (.int p0), .val (.int p1), .val (.int p2), .val (.int p3), .val (.int p4), .val (.int (0 : Int32)), .val (.int kk), .val (.ref s0), .val (.ref s1), .unset, .unset, .unset, .unset, .unset] [])
    refine own_st (fun _ k => XS.iload X68.here hx rfl (hb hby at_37) rfl k) ?_
    show own_Go p e s below _ _ _ T68 (mkF m 39 #[.val (.int p0), .val (.int p1), .val (.int p2), .val (.int p3), .val (.int p4), .val (.int (0 : Int32)), .val (.int kk), .val (.ref s0), .val (.ref s1), .unset, .unset, .unset, .unset, .unset] [(.int p4)])
    refine own_st (fun _ k => XS.sipush X68.here hx rfl (hb hby at_39) k) ?_
    show own_Go p e s below _ _ _ T68 (mkF m 42 #[.val (.int p0), .val (.int p1), .val (.int p2), .val (.int p3), .val (.int p4), .val (.int (0 : Int32)), .val (.int kk), .val (.ref s0), .val (.ref s1), .unset, .unset, .unset, .unset, .unset] [(.int (255 : Int32)), (.int p4)])
    refine own_st (fun _ k => XS.iand X68.here hx rfl (hb hby at_42) rfl k) ?_
    show own_Go p e s below _ _ _ T68 (mkF m 43 #[.val (.int p0), .val (.int p1), .val (.int p2), .val (.int p3), .val (.int p4), .val (.int (0 : Int32)), .val (.int kk), .val (.ref s0), .val (.ref s1), .unset, .unset, .unset, .unset, .unset] [(.int (p4 &&& (255 : Int32)))])
    refine own_st (fun _ k => XS.i2c X68.here hx rfl (hb hby at_43) rfl k) ?_
    show own_Go p e s below _ _ _ T68 (mkF m 44 #[.val (.int p0), .val (.int p1), .val (.int p2), .val (.int p3), .val (.int p4), .val (.int (0 : Int32)), .val (.int kk), .val (.ref s0), .val (.ref s1), .unset, .unset, .unset, .unset, .unset] [(.int ((p4 &&& (255 : Int32)).toUInt32.toUInt16.toUInt32.toInt32))])
    refine own_callS X68 hx hZ (y := (⟨"java/lang/String", "valueOf", "(C)Ljava/lang/String;"⟩ : MethodName)) hown (hw _ (List.mem_of_getElem? (i := 0) rfl)) (hw _ (List.mem_of_getElem? (i := 1) rfl)) (hw _ (List.mem_of_getElem? (i := 2) rfl)) (hw _ (List.mem_of_getElem? (i := 3) rfl)) (by decide) rfl (rm1 l Z a0 hw [] ((p4 &&& (255 : Int32)).toUInt32.toUInt16.toUInt32.toInt32) cs T68.heap n0 Z69 S_cs hcs (own_ch _)) 0 (by decide) (by decide) (g := (mkF m 44 #[.val (.int p0), .val (.int p1), .val (.int p2), .val (.int p3), .val (.int p4), .val (.int (0 : Int32)), .val (.int kk), .val (.ref s0), .val (.ref s1), .unset, .unset, .unset, .unset, .unset] [(.int ((p4 &&& (255 : Int32)).toUInt32.toUInt16.toUInt32.toInt32))])) rfl (by rw [hml]; rfl) (argsL := [(.int ((p4 &&& (255 : Int32)).toUInt32.toUInt16.toUInt32.toInt32))]) (rest := []) pd0 rfl rfl rfl (by show 2 * 0 + _ ≤ _; exact Nat.le_of_eq rfl) (hb hby at_44) (by decide) (by decide) ?_
    intro T70 v70 L70 X70 hQ70
    obtain ⟨s2, rfl, N70q, K70q, sf_s2, y70_0⟩ := hQ70
    have N70 := Fr.app N68 N70q
    have g_s2 := Nat.le_trans Z69 sf_s2
    have ne_s0_s2 : s0 ≠ s2 := Nat.ne_of_lt (Nat.lt_of_lt_of_le E_s0.lt sf_s2)
    have ne_s2_s0 := Ne.symm ne_s0_s2
    have ne_s1_s2 : s1 ≠ s2 := Nat.ne_of_lt (Nat.lt_of_lt_of_le E_s1.lt sf_s2)
    have ne_s2_s1 := Ne.symm ne_s1_s2
    replace E_s0 := E_s0.keep K70q
    replace E_s1 := E_s1.keep K70q
    have Z71 := Nat.le_trans Z69 K70q.1
    have E_s2 := y70_0
    show own_Go p e s below _ _ _ T70 (mkF m 47 #[.val (.int p0), .val (.int p1), .val (.int p2), .val (.int p3), .val (.int p4), .val (.int (0 : Int32)), .val (.int kk), .val (.ref s0), .val (.ref s1), .unset, .unset, .unset, .unset, .unset] [(.ref s2)])
    replace S_cs := own_StaK S_cs K70q
    refine own_st (fun _ k => XS.astore X70.here hx rfl (hb hby at_47) rfl rfl (l' := #[.val (.int p0), .val (.int p1), .val (.int p2), .val (.int p3), .val (.int p4), .val (.int (0 : Int32)), .val (.int kk), .val (.ref s0), .val (.ref s1), .val (.ref s2), .unset, .unset, .unset, .unset]) rfl k) ?_
    show own_Go p e s below _ _ _ T70 (mkF m 49 #[.val (.int p0), .val (.int p1), .val (.int p2), .val (.int p3), .val (.int p4), .val (.int (0 : Int32)), .val (.int kk), .val (.ref s0), .val (.ref s1), .val (.ref s2), .unset, .unset, .unset, .unset] [])
    refine own_st (fun _ k => XS.iload X70.here hx rfl (hb hby at_49) rfl k) ?_
    show own_Go p e s below _ _ _ T70 (mkF m 51 #[.val (.int p0), .val (.int p1), .val (.int p2), .val (.int p3), .val (.int p4), .val (.int (0 : Int32)), .val (.int kk), .val (.ref s0), .val (.ref s1), .val (.ref s2), .unset, .unset, .unset, .unset] [(.int (0 : Int32))])
    refine own_st (fun _ k => XS.ifNo X70.here hx rfl (hb hby at_51) rfl (by decide) k) ?_
    show own_Go p e s below _ _ _ T70 (mkF m 54 #[.val (.int p0), .val (.int p1), .val (.int p2), .val (.int p3), .val (.int p4), .val (.int (0 : Int32)), .val (.int kk), .val (.ref s0), .val (.ref s1), .val (.ref s2), .unset, .unset, .unset, .unset] [])
    refine own_st (fun _ k => XS.iconst X70.here hx rfl (hb hby at_54) k) ?_
    show own_Go p e s below _ _ _ T70 (mkF m 55 #[.val (.int p0), .val (.int p1), .val (.int p2), .val (.int p3), .val (.int p4), .val (.int (0 : Int32)), .val (.int kk), .val (.ref s0), .val (.ref s1), .val (.ref s2), .unset, .unset, .unset, .unset] [(.int (0 : Int32))])
    obtain ⟨T72, h72, k72, X72, e72, E72, A72, Ex72, O72, st72⟩ := newRE X70 hx hZ hown (hw _ (List.mem_of_getElem? (i := 26) rfl)) (hw _ (List.mem_of_getElem? (i := 27) rfl)) rfl (g := (mkF m 55 #[.val (.int p0), .val (.int p1), .val (.int p2), .val (.int p3), .val (.int p4), .val (.int (0 : Int32)), .val (.int kk), .val (.ref s0), .val (.ref s1), .val (.ref s2), .unset, .unset, .unset, .unset] [(.int (0 : Int32))])) rfl (hb hby at_55) rfl (by decide) (cap := 0) (by decide) (by decide) (by decide) (by decide) (ad := "[Ljava/lang/String;") (by decide)
    obtain ⟨arr, g72⟩ : ∃ z, z = T70.heap.size := ⟨_, rfl⟩
    rw [← g72] at A72 Ex72 st72
    have g_arr : n0 ≤ arr := Nat.le_trans Z71 (Nat.le_of_eq g72.symm)
    have ne_s0_arr : s0 ≠ arr := Nat.ne_of_lt (Nat.lt_of_lt_of_le E_s0.lt (Nat.le_of_eq g72.symm))
    have ne_arr_s0 := Ne.symm ne_s0_arr
    have ne_s1_arr : s1 ≠ arr := Nat.ne_of_lt (Nat.lt_of_lt_of_le E_s1.lt (Nat.le_of_eq g72.symm))
    have ne_arr_s1 := Ne.symm ne_s1_arr
    have ne_s2_arr : s2 ≠ arr := Nat.ne_of_lt (Nat.lt_of_lt_of_le E_s2.lt (Nat.le_of_eq g72.symm))
    have ne_arr_s2 := Ne.symm ne_s2_arr
    replace E_s0 := E_s0.ext E72
    replace E_s1 := E_s1.ext E72
    replace E_s2 := E_s2.ext E72
    have Z73 := Nat.le_trans Z71 E72.1
    have V_arr : Arv Z h72 arr k72 (.object "java/lang/String") (0 : Int32) [] .null := (Arv.new A72 (by decide)).pad (pad_rep [] .null 0)
    have E_arr := Ex72
    have O_arr := O72
    refine own_st st72 ?_
    show own_Go p e s below _ _ _ T72 (mkF m 58 #[.val (.int p0), .val (.int p1), .val (.int p2), .val (.int p3), .val (.int p4), .val (.int (0 : Int32)), .val (.int kk), .val (.ref s0), .val (.ref s1), .val (.ref s2), .unset, .unset, .unset, .unset] [(.ref arr)])
    refine own_st (fun _ k => XS.astore X72.here hx rfl (hb hby at_58) rfl rfl (l' := #[.val (.int p0), .val (.int p1), .val (.int p2), .val (.int p3), .val (.int p4), .val (.int (0 : Int32)), .val (.int kk), .val (.ref s0), .val (.ref s1), .val (.ref s2), .val (.ref arr), .unset, .unset, .unset]) rfl k) ?_
    show own_Go p e s below _ _ _ T72 (mkF m 60 #[.val (.int p0), .val (.int p1), .val (.int p2), .val (.int p3), .val (.int p4), .val (.int (0 : Int32)), .val (.int kk), .val (.ref s0), .val (.ref s1), .val (.ref s2), .val (.ref arr), .unset, .unset, .unset] [])
    refine own_st (fun _ k => XS.goto X72.here hx rfl (pc0 := 60) (pc' := 129) rfl (hb hby at_60) (by decide) (by decide) k) ?_
    show own_Go p e s below _ _ _ T72 (mkF m 129 #[.val (.int p0), .val (.int p1), .val (.int p2), .val (.int p3), .val (.int p4), .val (.int (0 : Int32)), .val (.int kk), .val (.ref s0), .val (.ref s1), .val (.ref s2), .val (.ref arr), .unset, .unset, .unset] [])
    obtain ⟨T74, h74, X74, e74, E74, A74, D74, -, st74⟩ := newO X72 hx hZ hown (hw _ (List.mem_of_getElem? (i := 28) rfl)) (hw _ (List.mem_of_getElem? (i := 29) rfl)) (hw _ (List.mem_of_getElem? (i := 30) rfl)) e72 (g := (mkF m 129 #[.val (.int p0), .val (.int p1), .val (.int p2), .val (.int p3), .val (.int p4), .val (.int (0 : Int32)), .val (.int kk), .val (.ref s0), .val (.ref s1), .val (.ref s2), .val (.ref arr), .unset, .unset, .unset] [])) rfl (hb hby at_129) (by decide) (by decide)
    obtain ⟨b, g74⟩ : ∃ z, z = h72.size := ⟨_, rfl⟩
    rw [← g74] at A74 D74 st74
    have g_b : n0 ≤ b := Nat.le_trans Z73 (Nat.le_of_eq g74.symm)
    have ne_arr_b : arr ≠ b := Nat.ne_of_lt (Nat.lt_of_lt_of_le V_arr.lt (Nat.le_of_eq g74.symm))
    have ne_b_arr := Ne.symm ne_arr_b
    have ne_s0_b : s0 ≠ b := Nat.ne_of_lt (Nat.lt_of_lt_of_le E_s0.lt (Nat.le_of_eq g74.symm))
    have ne_b_s0 := Ne.symm ne_s0_b
    have ne_s1_b : s1 ≠ b := Nat.ne_of_lt (Nat.lt_of_lt_of_le E_s1.lt (Nat.le_of_eq g74.symm))
    have ne_b_s1 := Ne.symm ne_s1_b
    have ne_s2_b : s2 ≠ b := Nat.ne_of_lt (Nat.lt_of_lt_of_le E_s2.lt (Nat.le_of_eq g74.symm))
    have ne_b_s2 := Ne.symm ne_s2_b
    replace E_s0 := E_s0.ext E74
    replace E_s1 := E_s1.ext E74
    replace E_s2 := E_s2.ext E74
    replace V_arr := V_arr.ext E74
    replace E_arr := E_arr.ext E74
    have Z75 := Nat.le_trans Z73 E74.1
    have E_b := A74
    have F_args_b : Fld Z h74 b "com/example/chronotope/chronotope/Arguments" "args" "[Ljava/lang/String;" .null := D74 (Or.inr (hw _ (List.mem_of_getElem? (i := 45) rfl))) (ty := (.array (.object "java/lang/String"))) (by decide)
    have F_next_b : Fld Z h74 b "com/example/chronotope/chronotope/Arguments" "next" "I" (.int (0 : Int32)) := D74 (Or.inl (hw _ (List.mem_of_getElem? (i := 52) rfl))) (ty := .int) (by decide)
    refine own_st st74 ?_
    show own_Go p e s below _ _ _ T74 (mkF m 132 #[.val (.int p0), .val (.int p1), .val (.int p2), .val (.int p3), .val (.int p4), .val (.int (0 : Int32)), .val (.int kk), .val (.ref s0), .val (.ref s1), .val (.ref s2), .val (.ref arr), .unset, .unset, .unset] [(.ref b)])
    refine own_st (fun _ k => XS.dup X74.here hx rfl (hb hby at_132) rfl rfl k) ?_
    show own_Go p e s below _ _ _ T74 (mkF m 133 #[.val (.int p0), .val (.int p1), .val (.int p2), .val (.int p3), .val (.int p4), .val (.int (0 : Int32)), .val (.int kk), .val (.ref s0), .val (.ref s1), .val (.ref s2), .val (.ref arr), .unset, .unset, .unset] [(.ref b), (.ref b)])
    refine own_st (fun _ k => XS.aload X74.here hx rfl (hb hby at_133) rfl rfl k) ?_
    show own_Go p e s below _ _ _ T74 (mkF m 135 #[.val (.int p0), .val (.int p1), .val (.int p2), .val (.int p3), .val (.int p4), .val (.int (0 : Int32)), .val (.int kk), .val (.ref s0), .val (.ref s1), .val (.ref s2), .val (.ref arr), .unset, .unset, .unset] [(.ref arr), (.ref b), (.ref b)])
    refine own_callN X74 hx hZ (y := (⟨"com/example/chronotope/chronotope/Arguments", "<init>", "([Ljava/lang/String;)V"⟩ : MethodName)) rfl hown (hw _ (List.mem_of_getElem? (i := 31) rfl)) (hw _ (List.mem_of_getElem? (i := 32) rfl)) (hw _ (List.mem_of_getElem? (i := 30) rfl)) (hw _ (List.mem_of_getElem? (i := 33) rfl)) (by decide) e74 (rm6_0 l Z a0 hw [] b arr k72  h74 n0 Z75 E_b F_args_b F_next_b V_arr E_arr ne_b_arr ne_arr_b g_b) 1 (by decide) (by decide) (g := (mkF m 135 #[.val (.int p0), .val (.int p1), .val (.int p2), .val (.int p3), .val (.int p4), .val (.int (0 : Int32)), .val (.int kk), .val (.ref s0), .val (.ref s1), .val (.ref s2), .val (.ref arr), .unset, .unset, .unset] [(.ref arr), (.ref b), (.ref b)])) rfl (by rw [hml]; rfl) (a := b) (argsL := [(.ref arr)]) (rest := [(.ref b)]) pd4 rfl rfl rfl (by show 2 * 0 + _ ≤ _; exact Nat.le_of_eq rfl) (hb hby at_135) (by decide) (by decide) ?_
    intro T76 v76 L76 X76 hQ76
    obtain ⟨dd, rfl, N76q, K76q, sf_dd, y76_0, y76_1, y76_2, y76_3⟩ := hQ76
    have N76 := Fr.app N70 N76q
    have g_dd := Nat.le_trans Z75 sf_dd
    have ne_arr_dd : arr ≠ dd := Nat.ne_of_lt (Nat.lt_of_lt_of_le V_arr.lt sf_dd)
    have ne_dd_arr := Ne.symm ne_arr_dd
    have ne_b_dd : b ≠ dd := Nat.ne_of_lt (Nat.lt_of_lt_of_le E_b.lt sf_dd)
    have ne_dd_b := Ne.symm ne_b_dd
    have ne_s0_dd : s0 ≠ dd := Nat.ne_of_lt (Nat.lt_of_lt_of_le E_s0.lt sf_dd)
    have ne_dd_s0 := Ne.symm ne_s0_dd
    have ne_s1_dd : s1 ≠ dd := Nat.ne_of_lt (Nat.lt_of_lt_of_le E_s1.lt sf_dd)
    have ne_dd_s1 := Ne.symm ne_s1_dd
    have ne_s2_dd : s2 ≠ dd := Nat.ne_of_lt (Nat.lt_of_lt_of_le E_s2.lt sf_dd)
    have ne_dd_s2 := Ne.symm ne_s2_dd
    replace E_s0 := E_s0.keep K76q
    replace E_s1 := E_s1.keep K76q
    replace E_s2 := E_s2.keep K76q
    replace V_arr := V_arr.keep K76q (ninS ne_arr_b nin0)
    replace E_arr := E_arr.keep K76q
    replace E_b := E_b.keep K76q
    clear F_args_b
    clear F_next_b
    have Z77 := Nat.le_trans Z75 K76q.1
    have E_b := y76_0
    have F_args_b := y76_1
    have F_next_b := y76_2
    have V_dd := y76_3
    show own_Go p e s below _ _ _ T76 (mkF m 138 #[.val (.int p0), .val (.int p1), .val (.int p2), .val (.int p3), .val (.int p4), .val (.int (0 : Int32)), .val (.int kk), .val (.ref s0), .val (.ref s1), .val (.ref s2), .val (.ref arr), .unset, .unset, .unset] [(.ref b)])
    refine own_st (fun _ k => XS.astore X76.here hx rfl (hb hby at_138) rfl rfl (l' := #[.val (.int p0), .val (.int p1), .val (.int p2), .val (.int p3), .val (.int p4), .val (.int (0 : Int32)), .val (.int kk), .val (.ref s0), .val (.ref s1), .val (.ref s2), .val (.ref arr), .val (.ref b), .unset, .unset]) rfl k) ?_
    show own_Go p e s below _ _ _ T76 (mkF m 140 #[.val (.int p0), .val (.int p1), .val (.int p2), .val (.int p3), .val (.int p4), .val (.int (0 : Int32)), .val (.int kk), .val (.ref s0), .val (.ref s1), .val (.ref s2), .val (.ref arr), .val (.ref b), .unset, .unset] [])
    refine own_st (fun _ k => XS.aload X76.here hx rfl (hb hby at_140) rfl rfl k) ?_
    show own_Go p e s below _ _ _ T76 (mkF m 142 #[.val (.int p0), .val (.int p1), .val (.int p2), .val (.int p3), .val (.int p4), .val (.int (0 : Int32)), .val (.int kk), .val (.ref s0), .val (.ref s1), .val (.ref s2), .val (.ref arr), .val (.ref b), .unset, .unset] [(.ref b)])
    refine own_callV X76 hx hZ (y := (⟨"com/example/chronotope/chronotope/Arguments", "hasNext", "()Z"⟩ : MethodName)) hown (hw _ (List.mem_of_getElem? (i := 46) rfl)) (hw _ (List.mem_of_getElem? (i := 47) rfl)) (hw _ (List.mem_of_getElem? (i := 49) rfl)) (hw _ (List.mem_of_getElem? (i := 48) rfl)) (hw _ (List.mem_of_getElem? (i := 30) rfl)) (hw _ (List.mem_of_getElem? (i := 50) rfl)) (by decide) rfl (rm7 l Z a0 hw [] b dd (0 : Int32) (0 : Int32) k72 [] T76.heap n0 Z77 F_args_b F_next_b V_dd) 0 (by decide) (by decide) E_b (g := (mkF m 142 #[.val (.int p0), .val (.int p1), .val (.int p2), .val (.int p3), .val (.int p4), .val (.int (0 : Int32)), .val (.int kk), .val (.ref s0), .val (.ref s1), .val (.ref s2), .val (.ref arr), .val (.ref b), .unset, .unset] [(.ref b)])) rfl (by rw [hml]; rfl) (argsL := []) (rest := []) pd5 rfl rfl rfl (by show 2 * 0 + _ ≤ _; exact Nat.le_of_eq rfl) (hb hby at_142) (by decide) (by decide) ?_
    intro T78 v78 L78 X78 hQ78
    obtain ⟨rfl, N78q, e78⟩ := hQ78
    have N78 := Fr.app N76 N78q
    show own_Go p e s below _ _ _ T78 (mkF m 145 #[.val (.int p0), .val (.int p1), .val (.int p2), .val (.int p3), .val (.int p4), .val (.int (0 : Int32)), .val (.int kk), .val (.ref s0), .val (.ref s1), .val (.ref s2), .val (.ref arr), .val (.ref b), .unset, .unset] [(.int (own_b ((0 : Int32) < (0 : Int32))))])
    refine own_st (fun _ k => XS.iconst X78.here hx rfl (hb hby at_145) k) ?_
    show own_Go p e s below _ _ _ T78 (mkF m 146 #[.val (.int p0), .val (.int p1), .val (.int p2), .val (.int p3), .val (.int p4), .val (.int (0 : Int32)), .val (.int kk), .val (.ref s0), .val (.ref s1), .val (.ref s2), .val (.ref arr), .val (.ref b), .unset, .unset] [(.int (0 : Int32)), (.int (own_b ((0 : Int32) < (0 : Int32))))])
    refine own_st (fun _ k => XS.iload X78.here hx rfl (hb hby at_146) rfl k) ?_
    show own_Go p e s below _ _ _ T78 (mkF m 148 #[.val (.int p0), .val (.int p1), .val (.int p2), .val (.int p3), .val (.int p4), .val (.int (0 : Int32)), .val (.int kk), .val (.ref s0), .val (.ref s1), .val (.ref s2), .val (.ref arr), .val (.ref b), .unset, .unset] [(.int (0 : Int32)), (.int (0 : Int32)), (.int (own_b ((0 : Int32) < (0 : Int32))))])
    refine own_st (fun _ k => XS.icmpYes X78.here hx rfl (pc0 := 148) (pc' := 155) rfl (hb hby at_148) rfl (by decide) (by decide) (by decide) k) ?_
    show own_Go p e s below _ _ _ T78 (mkF m 155 #[.val (.int p0), .val (.int p1), .val (.int p2), .val (.int p3), .val (.int p4), .val (.int (0 : Int32)), .val (.int kk), .val (.ref s0), .val (.ref s1), .val (.ref s2), .val (.ref arr), .val (.ref b), .unset, .unset] [(.int (own_b ((0 : Int32) < (0 : Int32))))])
    refine own_st (fun _ k => XS.iconst X78.here hx rfl (hb hby at_155) k) ?_
    show own_Go p e s below _ _ _ T78 (mkF m 156 #[.val (.int p0), .val (.int p1), .val (.int p2), .val (.int p3), .val (.int p4), .val (.int (0 : Int32)), .val (.int kk), .val (.ref s0), .val (.ref s1), .val (.ref s2), .val (.ref arr), .val (.ref b), .unset, .unset] [(.int (0 : Int32)), (.int (own_b ((0 : Int32) < (0 : Int32))))])
    refine own_st (fun _ k => XS.icmpYes X78.here hx rfl (pc0 := 156) (pc' := 161) rfl (hb hby at_156) rfl (teq (own_bf (by decide))).1 (by decide) (by decide) k) ?_
    show own_Go p e s below _ _ _ T78 (mkF m 161 #[.val (.int p0), .val (.int p1), .val (.int p2), .val (.int p3), .val (.int p4), .val (.int (0 : Int32)), .val (.int kk), .val (.ref s0), .val (.ref s1), .val (.ref s2), .val (.ref arr), .val (.ref b), .unset, .unset] [])
    refine own_st (fun _ k => XS.iload X78.here hx rfl (hb hby at_161) rfl k) ?_
    show own_Go p e s below _ _ _ T78 (mkF m 163 #[.val (.int p0), .val (.int p1), .val (.int p2), .val (.int p3), .val (.int p4), .val (.int (0 : Int32)), .val (.int kk), .val (.ref s0), .val (.ref s1), .val (.ref s2), .val (.ref arr), .val (.ref b), .unset, .unset] [(.int kk)])
    refine own_st (fun _ k => XS.iconst X78.here hx rfl (hb hby at_163) k) ?_
    show own_Go p e s below _ _ _ T78 (mkF m 164 #[.val (.int p0), .val (.int p1), .val (.int p2), .val (.int p3), .val (.int p4), .val (.int (0 : Int32)), .val (.int kk), .val (.ref s0), .val (.ref s1), .val (.ref s2), .val (.ref arr), .val (.ref b), .unset, .unset] [(.int (1 : Int32)), (.int kk)])
    obtain rfl : kk = 0 := hk
    show own_Go p e s below _ _ _ T78 (mkF m 164 #[.val (.int p0), .val (.int p1), .val (.int p2), .val (.int p3), .val (.int p4), .val (.int (0 : Int32)), .val (.int (0 : Int32)), .val (.ref s0), .val (.ref s1), .val (.ref s2), .val (.ref arr), .val (.ref b), .unset, .unset] [(.int (1 : Int32)), (.int (0 : Int32))])
    refine own_st (fun _ k => XS.icmpYes X78.here hx rfl (pc0 := 164) (pc' := 203) rfl (hb hby at_164) rfl (by decide) (by decide) (by decide) k) ?_
    show own_Go p e s below _ _ _ T78 (mkF m 203 #[.val (.int p0), .val (.int p1), .val (.int p2), .val (.int p3), .val (.int p4), .val (.int (0 : Int32)), .val (.int (0 : Int32)), .val (.ref s0), .val (.ref s1), .val (.ref s2), .val (.ref arr), .val (.ref b), .unset, .unset] [])
    refine own_st (fun _ k => XS.iload X78.here hx rfl (hb hby at_203) rfl k) ?_
    show own_Go p e s below _ _ _ T78 (mkF m 205 #[.val (.int p0), .val (.int p1), .val (.int p2), .val (.int p3), .val (.int p4), .val (.int (0 : Int32)), .val (.int (0 : Int32)), .val (.ref s0), .val (.ref s1), .val (.ref s2), .val (.ref arr), .val (.ref b), .unset, .unset] [(.int (0 : Int32))])
    refine own_st (fun _ k => XS.iconst X78.here hx rfl (hb hby at_205) k) ?_
    show own_Go p e s below _ _ _ T78 (mkF m 206 #[.val (.int p0), .val (.int p1), .val (.int p2), .val (.int p3), .val (.int p4), .val (.int (0 : Int32)), .val (.int (0 : Int32)), .val (.ref s0), .val (.ref s1), .val (.ref s2), .val (.ref arr), .val (.ref b), .unset, .unset] [(.int (2 : Int32)), (.int (0 : Int32))])
    refine own_st (fun _ k => XS.icmpYes X78.here hx rfl (pc0 := 206) (pc' := 245) rfl (hb hby at_206) rfl (by decide) (by decide) (by decide) k) ?_
    show own_Go p e s below _ _ _ T78 (mkF m 245 #[.val (.int p0), .val (.int p1), .val (.int p2), .val (.int p3), .val (.int p4), .val (.int (0 : Int32)), .val (.int (0 : Int32)), .val (.ref s0), .val (.ref s1), .val (.ref s2), .val (.ref arr), .val (.ref b), .unset, .unset] [])
    refine own_st (fun _ k => XS.iload X78.here hx rfl (hb hby at_245) rfl k) ?_
    show own_Go p e s below _ _ _ T78 (mkF m 247 #[.val (.int p0), .val (.int p1), .val (.int p2), .val (.int p3), .val (.int p4), .val (.int (0 : Int32)), .val (.int (0 : Int32)), .val (.ref s0), .val (.ref s1), .val (.ref s2), .val (.ref arr), .val (.ref b), .unset, .unset] [(.int (0 : Int32))])
    refine own_st (fun _ k => XS.iconst X78.here hx rfl (hb hby at_247) k) ?_
    show own_Go p e s below _ _ _ T78 (mkF m 248 #[.val (.int p0), .val (.int p1), .val (.int p2), .val (.int p3), .val (.int p4), .val (.int (0 : Int32)), .val (.int (0 : Int32)), .val (.ref s0), .val (.ref s1), .val (.ref s2), .val (.ref arr), .val (.ref b), .unset, .unset] [(.int (3 : Int32)), (.int (0 : Int32))])
    refine own_st (fun _ k => XS.icmpYes X78.here hx rfl (pc0 := 248) (pc' := 287) rfl (hb hby at_248) rfl (by decide) (by decide) (by decide) k) ?_
    show own_Go p e s below _ _ _ T78 (mkF m 287 #[.val (.int p0), .val (.int p1), .val (.int p2), .val (.int p3), .val (.int p4), .val (.int (0 : Int32)), .val (.int (0 : Int32)), .val (.ref s0), .val (.ref s1), .val (.ref s2), .val (.ref arr), .val (.ref b), .unset, .unset] [])
    refine own_st (fun _ k => XS.aload X78.here hx rfl (hb hby at_287) rfl rfl k) ?_
    show own_Go p e s below _ _ _ T78 (mkF m 289 #[.val (.int p0), .val (.int p1), .val (.int p2), .val (.int p3), .val (.int p4), .val (.int (0 : Int32)), .val (.int (0 : Int32)), .val (.ref s0), .val (.ref s1), .val (.ref s2), .val (.ref arr), .val (.ref b), .unset, .unset] [(.ref b)])
    refine own_callV X78 hx hZ (y := (⟨"com/example/chronotope/chronotope/Arguments", "hasNext", "()Z"⟩ : MethodName)) hown (hw _ (List.mem_of_getElem? (i := 46) rfl)) (hw _ (List.mem_of_getElem? (i := 47) rfl)) (hw _ (List.mem_of_getElem? (i := 49) rfl)) (hw _ (List.mem_of_getElem? (i := 48) rfl)) (hw _ (List.mem_of_getElem? (i := 30) rfl)) (hw _ (List.mem_of_getElem? (i := 50) rfl)) (by decide) e78 (rm7 l Z a0 hw [] b dd (0 : Int32) (0 : Int32) k72 [] T76.heap n0 Z77 F_args_b F_next_b V_dd) 0 (by decide) (by decide) E_b (g := (mkF m 289 #[.val (.int p0), .val (.int p1), .val (.int p2), .val (.int p3), .val (.int p4), .val (.int (0 : Int32)), .val (.int (0 : Int32)), .val (.ref s0), .val (.ref s1), .val (.ref s2), .val (.ref arr), .val (.ref b), .unset, .unset] [(.ref b)])) rfl (by rw [hml]; rfl) (argsL := []) (rest := []) pd5 rfl rfl rfl (by show 2 * 0 + _ ≤ _; exact Nat.le_of_eq rfl) (hb hby at_289) (by decide) (by decide) ?_
    intro T79 v79 L79 X79 hQ79
    obtain ⟨rfl, N79q, e79⟩ := hQ79
    have N79 := Fr.app N78 N79q
    show own_Go p e s below _ _ _ T79 (mkF m 292 #[.val (.int p0), .val (.int p1), .val (.int p2), .val (.int p3), .val (.int p4), .val (.int (0 : Int32)), .val (.int (0 : Int32)), .val (.ref s0), .val (.ref s1), .val (.ref s2), .val (.ref arr), .val (.ref b), .unset, .unset] [(.int (own_b ((0 : Int32) < (0 : Int32))))])
    refine own_st (fun _ k => XS.istore X79.here hx rfl (hb hby at_292) rfl (l' := #[.val (.int p0), .val (.int p1), .val (.int p2), .val (.int p3), .val (.int p4), .val (.int (0 : Int32)), .val (.int (0 : Int32)), .val (.ref s0), .val (.ref s1), .val (.ref s2), .val (.ref arr), .val (.ref b), .val (.int (own_b ((0 : Int32) < (0 : Int32)))), .unset]) rfl k) ?_
    show own_Go p e s below _ _ _ T79 (mkF m 294 #[.val (.int p0), .val (.int p1), .val (.int p2), .val (.int p3), .val (.int p4), .val (.int (0 : Int32)), .val (.int (0 : Int32)), .val (.ref s0), .val (.ref s1), .val (.ref s2), .val (.ref arr), .val (.ref b), .val (.int (own_b ((0 : Int32) < (0 : Int32)))), .unset] [])
    refine own_st (fun _ k => XS.aload X79.here hx rfl (hb hby at_294) rfl rfl k) ?_
    show own_Go p e s below _ _ _ T79 (mkF m 296 #[.val (.int p0), .val (.int p1), .val (.int p2), .val (.int p3), .val (.int p4), .val (.int (0 : Int32)), .val (.int (0 : Int32)), .val (.ref s0), .val (.ref s1), .val (.ref s2), .val (.ref arr), .val (.ref b), .val (.int (own_b ((0 : Int32) < (0 : Int32)))), .unset] [(.ref b)])
    refine own_callV X79 hx hZ (y := (⟨"com/example/chronotope/chronotope/Arguments", "hasNext", "()Z"⟩ : MethodName)) hown (hw _ (List.mem_of_getElem? (i := 46) rfl)) (hw _ (List.mem_of_getElem? (i := 47) rfl)) (hw _ (List.mem_of_getElem? (i := 49) rfl)) (hw _ (List.mem_of_getElem? (i := 48) rfl)) (hw _ (List.mem_of_getElem? (i := 30) rfl)) (hw _ (List.mem_of_getElem? (i := 50) rfl)) (by decide) e79 (rm7 l Z a0 hw [] b dd (0 : Int32) (0 : Int32) k72 [] T76.heap n0 Z77 F_args_b F_next_b V_dd) 0 (by decide) (by decide) E_b (g := (mkF m 296 #[.val (.int p0), .val (.int p1), .val (.int p2), .val (.int p3), .val (.int p4), .val (.int (0 : Int32)), .val (.int (0 : Int32)), .val (.ref s0), .val (.ref s1), .val (.ref s2), .val (.ref arr), .val (.ref b), .val (.int (own_b ((0 : Int32) < (0 : Int32)))), .unset] [(.ref b)])) rfl (by rw [hml]; rfl) (argsL := []) (rest := []) pd5 rfl rfl rfl (by show 2 * 0 + _ ≤ _; exact Nat.le_of_eq rfl) (hb hby at_296) (by decide) (by decide) ?_
    intro T80 v80 L80 X80 hQ80
    obtain ⟨rfl, N80q, e80⟩ := hQ80
    have N80 := Fr.app N79 N80q
    show own_Go p e s below _ _ _ T80 (mkF m 299 #[.val (.int p0), .val (.int p1), .val (.int p2), .val (.int p3), .val (.int p4), .val (.int (0 : Int32)), .val (.int (0 : Int32)), .val (.ref s0), .val (.ref s1), .val (.ref s2), .val (.ref arr), .val (.ref b), .val (.int (own_b ((0 : Int32) < (0 : Int32)))), .unset] [(.int (own_b ((0 : Int32) < (0 : Int32))))])
    refine own_st (fun _ k => XS.istore X80.here hx rfl (hb hby at_299) rfl (l' := #[.val (.int p0), .val (.int p1), .val (.int p2), .val (.int p3), .val (.int p4), .val (.int (0 : Int32)), .val (.int (0 : Int32)), .val (.ref s0), .val (.ref s1), .val (.ref s2), .val (.ref arr), .val (.ref b), .val (.int (own_b ((0 : Int32) < (0 : Int32)))), .val (.int (own_b ((0 : Int32) < (0 : Int32))))]) rfl k) ?_
    show own_Go p e s below _ _ _ T80 (mkF m 301 #[.val (.int p0), .val (.int p1), .val (.int p2), .val (.int p3), .val (.int p4), .val (.int (0 : Int32)), .val (.int (0 : Int32)), .val (.ref s0), .val (.ref s1), .val (.ref s2), .val (.ref arr), .val (.ref b), .val (.int (own_b ((0 : Int32) < (0 : Int32)))), .val (.int (own_b ((0 : Int32) < (0 : Int32))))] [])
    refine own_st (fun _ k => XS.iload X80.here hx rfl (hb hby at_301) rfl k) ?_
    show own_Go p e s below _ _ _ T80 (mkF m 303 #[.val (.int p0), .val (.int p1), .val (.int p2), .val (.int p3), .val (.int p4), .val (.int (0 : Int32)), .val (.int (0 : Int32)), .val (.ref s0), .val (.ref s1), .val (.ref s2), .val (.ref arr), .val (.ref b), .val (.int (own_b ((0 : Int32) < (0 : Int32)))), .val (.int (own_b ((0 : Int32) < (0 : Int32))))] [(.int (own_b ((0 : Int32) < (0 : Int32))))])
    refine own_st (fun _ k => XS.iload X80.here hx rfl (hb hby at_303) rfl k) ?_
    show own_Go p e s below _ _ _ T80 (mkF m 305 #[.val (.int p0), .val (.int p1), .val (.int p2), .val (.int p3), .val (.int p4), .val (.int (0 : Int32)), .val (.int (0 : Int32)), .val (.ref s0), .val (.ref s1), .val (.ref s2), .val (.ref arr), .val (.ref b), .val (.int (own_b ((0 : Int32) < (0 : Int32)))), .val (.int (own_b ((0 : Int32) < (0 : Int32))))] [(.int (0 : Int32)), (.int (own_b ((0 : Int32) < (0 : Int32))))])
    refine own_st (fun _ k => XS.iload X80.here hx rfl (hb hby at_305) rfl k) ?_
    show own_Go p e s below _ _ _ T80 (mkF m 307 #[.val (.int p0), .val (.int p1), .val (.int p2), .val (.int p3), .val (.int p4), .val (.int (0 : Int32)), .val (.int (0 : Int32)), .val (.ref s0), .val (.ref s1), .val (.ref s2), .val (.ref arr), .val (.ref b), .val (.int (own_b ((0 : Int32) < (0 : Int32)))), .val (.int (own_b ((0 : Int32) < (0 : Int32))))] [(.int (0 : Int32)), (.int (0 : Int32)), (.int (own_b ((0 : Int32) < (0 : Int32))))])
    refine own_st (fun _ k => XS.icmpYes X80.here hx rfl (pc0 := 307) (pc' := 314) rfl (hb hby at_307) rfl (by decide) (by decide) (by decide) k) ?_
    show own_Go p e s below _ _ _ T80 (mkF m 314 #[.val (.int p0), .val (.int p1), .val (.int p2), .val (.int p3), .val (.int p4), .val (.int (0 : Int32)), .val (.int (0 : Int32)), .val (.ref s0), .val (.ref s1), .val (.ref s2), .val (.ref arr), .val (.ref b), .val (.int (own_b ((0 : Int32) < (0 : Int32)))), .val (.int (own_b ((0 : Int32) < (0 : Int32))))] [(.int (own_b ((0 : Int32) < (0 : Int32))))])
    refine own_st (fun _ k => XS.iconst X80.here hx rfl (hb hby at_314) k) ?_
    show own_Go p e s below _ _ _ T80 (mkF m 315 #[.val (.int p0), .val (.int p1), .val (.int p2), .val (.int p3), .val (.int p4), .val (.int (0 : Int32)), .val (.int (0 : Int32)), .val (.ref s0), .val (.ref s1), .val (.ref s2), .val (.ref arr), .val (.ref b), .val (.int (own_b ((0 : Int32) < (0 : Int32)))), .val (.int (own_b ((0 : Int32) < (0 : Int32))))] [(.int (0 : Int32)), (.int (own_b ((0 : Int32) < (0 : Int32))))])
    refine own_st (fun _ k => XS.icmpNo X80.here hx rfl (hb hby at_315) rfl (teq (own_bf (by decide))).2 k) ?_
    show own_Go p e s below _ _ _ T80 (mkF m 318 #[.val (.int p0), .val (.int p1), .val (.int p2), .val (.int p3), .val (.int p4), .val (.int (0 : Int32)), .val (.int (0 : Int32)), .val (.ref s0), .val (.ref s1), .val (.ref s2), .val (.ref arr), .val (.ref b), .val (.int (own_b ((0 : Int32) < (0 : Int32)))), .val (.int (own_b ((0 : Int32) < (0 : Int32))))] [])
    refine own_st (fun _ k => XS.iload X80.here hx rfl (hb hby at_318) rfl k) ?_
    show own_Go p e s below _ _ _ T80 (mkF m 320 #[.val (.int p0), .val (.int p1), .val (.int p2), .val (.int p3), .val (.int p4), .val (.int (0 : Int32)), .val (.int (0 : Int32)), .val (.ref s0), .val (.ref s1), .val (.ref s2), .val (.ref arr), .val (.ref b), .val (.int (own_b ((0 : Int32) < (0 : Int32)))), .val (.int (own_b ((0 : Int32) < (0 : Int32))))] [(.int (own_b ((0 : Int32) < (0 : Int32))))])
    refine own_st (fun _ k => XS.iload X80.here hx rfl (hb hby at_320) rfl k) ?_
    show own_Go p e s below _ _ _ T80 (mkF m 322 #[.val (.int p0), .val (.int p1), .val (.int p2), .val (.int p3), .val (.int p4), .val (.int (0 : Int32)), .val (.int (0 : Int32)), .val (.ref s0), .val (.ref s1), .val (.ref s2), .val (.ref arr), .val (.ref b), .val (.int (own_b ((0 : Int32) < (0 : Int32)))), .val (.int (own_b ((0 : Int32) < (0 : Int32))))] [(.int (own_b ((0 : Int32) < (0 : Int32)))), (.int (own_b ((0 : Int32) < (0 : Int32))))])
    refine own_st (fun _ k => XS.icmpNo X80.here hx rfl (hb hby at_322) rfl (teq rfl).2 k) ?_
    show own_Go p e s below _ _ _ T80 (mkF m 325 #[.val (.int p0), .val (.int p1), .val (.int p2), .val (.int p3), .val (.int p4), .val (.int (0 : Int32)), .val (.int (0 : Int32)), .val (.ref s0), .val (.ref s1), .val (.ref s2), .val (.ref arr), .val (.ref b), .val (.int (own_b ((0 : Int32) < (0 : Int32)))), .val (.int (own_b ((0 : Int32) < (0 : Int32))))] [])
    refine own_st (fun _ k => XS.iconst X80.here hx rfl (hb hby at_325) k) ?_
    show own_Go p e s below _ _ _ T80 (mkF m 326 #[.val (.int p0), .val (.int p1), .val (.int p2), .val (.int p3), .val (.int p4), .val (.int (0 : Int32)), .val (.int (0 : Int32)), .val (.ref s0), .val (.ref s1), .val (.ref s2), .val (.ref arr), .val (.ref b), .val (.int (own_b ((0 : Int32) < (0 : Int32)))), .val (.int (own_b ((0 : Int32) < (0 : Int32))))] [(.int (1 : Int32))])
    refine own_st (fun _ k => XS.goto X80.here hx rfl (pc0 := 326) (pc' := 330) rfl (hb hby at_326) (by decide) (by decide) k) ?_
    show own_Go p e s below _ _ _ T80 (mkF m 330 #[.val (.int p0), .val (.int p1), .val (.int p2), .val (.int p3), .val (.int p4), .val (.int (0 : Int32)), .val (.int (0 : Int32)), .val (.ref s0), .val (.ref s1), .val (.ref s2), .val (.ref arr), .val (.ref b), .val (.int (own_b ((0 : Int32) < (0 : Int32)))), .val (.int (own_b ((0 : Int32) < (0 : Int32))))] [(.int (1 : Int32))])
    exact own_retN X80 hx hlk (t := .boolean) hret (by simp) (hb hby at_330) (z' := (1 : Int32)) rfl (by decide) (by decide) ⟨rfl, N80⟩
  · show own_Go p e s below _ _ _ T0 (mkF m 3 #[.val (.int p0), .val (.int p1), .val (.int p2), .val (.int p3), .val (.int p4), .unset, .unset, .unset, .unset, .unset, .unset, .unset, .unset, .unset] [(.int (1 : Int32))])
    refine own_st (fun _ k => XS.istore X0.here hx rfl (hb hby at_3) rfl (l' := #[.val (.int p0), .val (.int p1), .val (.int p2), .val (.int p3), .val (.int p4), .val (.int (1 : Int32)), .unset, .unset, .unset, .unset, .unset, .unset, .unset, .unset]) rfl k) ?_
    show own_Go p e s below _ _ _ T0 (mkF m 5 #[.val (.int p0), .val (.int p1), .val (.int p2), .val (.int p3), .val (.int p4), .val (.int (1 : Int32)), .unset, .unset, .unset, .unset, .unset, .unset, .unset, .unset] [])
    refine own_st (fun _ k => XS.iloadN X0.here hx rfl (hb hby at_5) rfl k) ?_
    show own_Go p e s below _ _ _ T0 (mkF m 6 #[.val (.int p0), .val (.int p1), .val (.int p2), .val (.int p3), .val (.int p4), .val (.int (1 : Int32)), .unset, .unset, .unset, .unset, .unset, .unset, .unset, .unset] [(.int p1)])
    refine own_st (fun _ k => XS.iconst X0.here hx rfl (hb hby at_6) k) ?_
    show own_Go p e s below _ _ _ T0 (mkF m 7 #[.val (.int p0), .val (.int p1), .val (.int p2), .val (.int p3), .val (.int p4), .val (.int (1 : Int32)), .unset, .unset, .unset, .unset, .unset, .unset, .unset, .unset] [(.int (3 : Int32)), (.int p1)])
    refine own_st (fun _ k => XS.iand X0.here hx rfl (hb hby at_7) rfl k) ?_
    show own_Go p e s below _ _ _ T0 (mkF m 8 #[.val (.int p0), .val (.int p1), .val (.int p2), .val (.int p3), .val (.int p4), .val (.int (1 : Int32)), .unset, .unset, .unset, .unset, .unset, .unset, .unset, .unset] [(.int (p1 &&& (3 : Int32)))])
    refine own_st (fun _ k => XS.iload X0.here hx rfl (hb hby at_8) rfl k) ?_
    show own_Go p e s below _ _ _ T0 (mkF m 10 #[.val (.int p0), .val (.int p1), .val (.int p2), .val (.int p3), .val (.int p4), .val (.int (1 : Int32)), .unset, .unset, .unset, .unset, .unset, .unset, .unset, .unset] [(.int (1 : Int32)), (.int (p1 &&& (3 : Int32)))])
    refine own_st (fun _ k => XS.iconst X0.here hx rfl (hb hby at_10) k) ?_
    show own_Go p e s below _ _ _ T0 (mkF m 11 #[.val (.int p0), .val (.int p1), .val (.int p2), .val (.int p3), .val (.int p4), .val (.int (1 : Int32)), .unset, .unset, .unset, .unset, .unset, .unset, .unset, .unset] [(.int (1 : Int32)), (.int (1 : Int32)), (.int (p1 &&& (3 : Int32)))])
    refine own_st (fun _ k => XS.iadd X0.here hx rfl (hb hby at_11) rfl k) ?_
    show own_Go p e s below _ _ _ T0 (mkF m 12 #[.val (.int p0), .val (.int p1), .val (.int p2), .val (.int p3), .val (.int p4), .val (.int (1 : Int32)), .unset, .unset, .unset, .unset, .unset, .unset, .unset, .unset] [(.int (2 : Int32)), (.int (p1 &&& (3 : Int32)))])
    refine own_st (fun _ k => Jvm.RoadKit.iremM X0 hx rfl (hb hby at_12) rfl (by decide) k) ?_
    show own_Go p e s below _ _ _ T0 (mkF m 13 #[.val (.int p0), .val (.int p1), .val (.int p2), .val (.int p3), .val (.int p4), .val (.int (1 : Int32)), .unset, .unset, .unset, .unset, .unset, .unset, .unset, .unset] [(.int ((p1 &&& (3 : Int32)) % (2 : Int32)))])
    have hk := own_k1 p1
    generalize ((p1 &&& (3 : Int32)) % (2 : Int32)) = kk at hk ⊢
    show own_Go p e s below _ _ _ T0 (mkF m 13 #[.val (.int p0), .val (.int p1), .val (.int p2), .val (.int p3), .val (.int p4), .val (.int (1 : Int32)), .unset, .unset, .unset, .unset, .unset, .unset, .unset, .unset] [(.int kk)])
    refine own_st (fun _ k => XS.istore X0.here hx rfl (hb hby at_13) rfl (l' := #[.val (.int p0), .val (.int p1), .val (.int p2), .val (.int p3), .val (.int p4), .val (.int (1 : Int32)), .val (.int kk), .unset, .unset, .unset, .unset, .unset, .unset, .unset]) rfl k) ?_
    show own_Go p e s below _ _ _ T0 (mkF m 15 #[.val (.int p0), .val (.int p1), .val (.int p2), .val (.int p3), .val (.int p4), .val (.int (1 : Int32)), .val (.int kk), .unset, .unset, .unset, .unset, .unset, .unset, .unset] [])
    refine own_st (fun _ k => XS.iloadN X0.here hx rfl (hb hby at_15) rfl k) ?_
    show own_Go p e s below _ _ _ T0 (mkF m 16 #[.val (.int p0), .val (.int p1), .val (.int p2), .val (.int p3), .val (.int p4), .val (.int (1 : Int32)), .val (.int kk), .unset, .unset, .unset, .unset, .unset, .unset, .unset] [(.int p2)])
    refine own_st (fun _ k => XS.sipush X0.here hx rfl (hb hby at_16) k) ?_
    show own_Go p e s below _ _ _ T0 (mkF m 19 #[.val (.int p0), .val (.int p1), .val (.int p2), .val (.int p3), .val (.int p4), .val (.int (1 : Int32)), .val (.int kk), .unset, .unset, .unset, .unset, .unset, .unset, .unset] [(.int (255 : Int32)), (.int p2)])
    refine own_st (fun _ k => XS.iand X0.here hx rfl (hb hby at_19) rfl k) ?_
    show own_Go p e s below _ _ _ T0 (mkF m 20 #[.val (.int p0), .val (.int p1), .val (.int p2), .val (.int p3), .val (.int p4), .val (.int (1 : Int32)), .val (.int kk), .unset, .unset, .unset, .unset, .unset, .unset, .unset] [(.int (p2 &&& (255 : Int32)))])
    refine own_st (fun _ k => XS.i2c X0.here hx rfl (hb hby at_20) rfl k) ?_
    show own_Go p e s below _ _ _ T0 (mkF m 21 #[.val (.int p0), .val (.int p1), .val (.int p2), .val (.int p3), .val (.int p4), .val (.int (1 : Int32)), .val (.int kk), .unset, .unset, .unset, .unset, .unset, .unset, .unset] [(.int ((p2 &&& (255 : Int32)).toUInt32.toUInt16.toUInt32.toInt32))])
    refine own_callS X0 hx hZ (y := (⟨"java/lang/String", "valueOf", "(C)Ljava/lang/String;"⟩ : MethodName)) hown (hw _ (List.mem_of_getElem? (i := 0) rfl)) (hw _ (List.mem_of_getElem? (i := 1) rfl)) (hw _ (List.mem_of_getElem? (i := 2) rfl)) (hw _ (List.mem_of_getElem? (i := 3) rfl)) (by decide) e0 (rm1 l Z a0 hw [] ((p2 &&& (255 : Int32)).toUInt32.toUInt16.toUInt32.toInt32) cs h0 n0 Z0 S_cs hcs (own_ch _)) 0 (by decide) (by decide) (g := (mkF m 21 #[.val (.int p0), .val (.int p1), .val (.int p2), .val (.int p3), .val (.int p4), .val (.int (1 : Int32)), .val (.int kk), .unset, .unset, .unset, .unset, .unset, .unset, .unset] [(.int ((p2 &&& (255 : Int32)).toUInt32.toUInt16.toUInt32.toInt32))])) rfl (by rw [hml]; rfl) (argsL := [(.int ((p2 &&& (255 : Int32)).toUInt32.toUInt16.toUInt32.toInt32))]) (rest := []) pd0 rfl rfl rfl (by show 2 * 0 + _ ≤ _; exact Nat.le_of_eq rfl) (hb hby at_21) (by decide) (by decide) ?_
    intro T81 v81 L81 X81 hQ81
    obtain ⟨s0, rfl, N81q, K81q, sf_s0, y81_0⟩ := hQ81
    have N81 := Fr.app N0 N81q
    have g_s0 := Nat.le_trans Z0 sf_s0
    have Z82 := Nat.le_trans Z0 K81q.1
    have E_s0 := y81_0
    show own_Go p e s below _ _ _ T81 (mkF m 24 #[.val (.int p0), .val (.int p1), .val (.int p2), .val (.int p3), .val (.int p4), .val (.int (1 : Int32)), .val (.int kk), .unset, .unset, .unset, .unset, .unset, .unset, .unset] [(.ref s0)])
    replace S_cs := own_StaK S_cs K81q
    refine own_st (fun _ k => XS.astore X81.here hx rfl (hb hby at_24) rfl rfl (l' := #[.val (.int p0), .val (.int p1), .val (.int p2), .val (.int p3), .val (.int p4), .val (.int (1 : Int32)), .val (.int kk), .val (.ref s0), .unset, .unset, .unset, .unset, .unset, .unset]) rfl k) ?_
    show own_Go p e s below _ _ _ T81 (mkF m 26 #[.val (.int p0), .val (.int p1), .val (.int p2), .val (.int p3), .val (.int p4), .val (.int (1 : Int32)), .val (.int kk), .val (.ref s0), .unset, .unset, .unset, .unset, .unset, .unset] [])
    refine own_st (fun _ k => XS.iloadN X81.here hx rfl (hb hby at_26) rfl k) ?_
    show own_Go p e s below _ _ _ T81 (mkF m 27 #[.val (.int p0), .val (.int p1), .val (.int p2), .val (.int p3), .val (.int p4), .val (.int (1 : Int32)), .val (.int kk), .val (.ref s0), .unset, .unset, .unset, .unset, .unset, .unset] [(.int p3)])
    refine own_st (fun _ k => XS.sipush X81.here hx rfl (hb hby at_27) k) ?_
    show own_Go p e s below _ _ _ T81 (mkF m 30 #[.val (.int p0), .val (.int p1), .val (.int p2), .val (.int p3), .val (.int p4), .val (.int (1 : Int32)), .val (.int kk), .val (.ref s0), .unset, .unset, .unset, .unset, .unset, .unset] [(.int (255 : Int32)), (.int p3)])
    refine own_st (fun _ k => XS.iand X81.here hx rfl (hb hby at_30) rfl k) ?_
    show own_Go p e s below _ _ _ T81 (mkF m 31 #[.val (.int p0), .val (.int p1), .val (.int p2), .val (.int p3), .val (.int p4), .val (.int (1 : Int32)), .val (.int kk), .val (.ref s0), .unset, .unset, .unset, .unset, .unset, .unset] [(.int (p3 &&& (255 : Int32)))])
    refine own_st (fun _ k => XS.i2c X81.here hx rfl (hb hby at_31) rfl k) ?_
    show own_Go p e s below _ _ _ T81 (mkF m 32 #[.val (.int p0), .val (.int p1), .val (.int p2), .val (.int p3), .val (.int p4), .val (.int (1 : Int32)), .val (.int kk), .val (.ref s0), .unset, .unset, .unset, .unset, .unset, .unset] [(.int ((p3 &&& (255 : Int32)).toUInt32.toUInt16.toUInt32.toInt32))])
    refine own_callS X81 hx hZ (y := (⟨"java/lang/String", "valueOf", "(C)Ljava/lang/String;"⟩ : MethodName)) hown (hw _ (List.mem_of_getElem? (i := 0) rfl)) (hw _ (List.mem_of_getElem? (i := 1) rfl)) (hw _ (List.mem_of_getElem? (i := 2) rfl)) (hw _ (List.mem_of_getElem? (i := 3) rfl)) (by decide) rfl (rm1 l Z a0 hw [] ((p3 &&& (255 : Int32)).toUInt32.toUInt16.toUInt32.toInt32) cs T81.heap n0 Z82 S_cs hcs (own_ch _)) 0 (by decide) (by decide) (g := (mkF m 32 #[.val (.int p0), .val (.int p1), .val (.int p2), .val (.int p3), .val (.int p4), .val (.int (1 : Int32)), .val (.int kk), .val (.ref s0), .unset, .unset, .unset, .unset, .unset, .unset] [(.int ((p3 &&& (255 : Int32)).toUInt32.toUInt16.toUInt32.toInt32))])) rfl (by rw [hml]; rfl) (argsL := [(.int ((p3 &&& (255 : Int32)).toUInt32.toUInt16.toUInt32.toInt32))]) (rest := []) pd0 rfl rfl rfl (by show 2 * 0 + _ ≤ _; exact Nat.le_of_eq rfl) (hb hby at_32) (by decide) (by decide) ?_
    intro T83 v83 L83 X83 hQ83
    obtain ⟨s1, rfl, N83q, K83q, sf_s1, y83_0⟩ := hQ83
    have N83 := Fr.app N81 N83q
    have g_s1 := Nat.le_trans Z82 sf_s1
    have ne_s0_s1 : s0 ≠ s1 := Nat.ne_of_lt (Nat.lt_of_lt_of_le E_s0.lt sf_s1)
    have ne_s1_s0 := Ne.symm ne_s0_s1
    replace E_s0 := E_s0.keep K83q
    have Z84 := Nat.le_trans Z82 K83q.1
    have E_s1 := y83_0
    show own_Go p e s below _ _ _ T83 (mkF m 35 #[.val (.int p0), .val (.int p1), .val (.int p2), .val (.int p3), .val (.int p4), .val (.int (1 : Int32)), .val (.int kk), .val (.ref s0), .unset, .unset, .unset, .unset, .unset, .unset] [(.ref s1)])
    replace S_cs := own_StaK S_cs K83q
    refine own_st (fun _ k => XS.astore X83.here hx rfl (hb hby at_35) rfl rfl (l' := #[.val (.int p0), .val (.int p1), .val (.int p2), .val (.int p3), .val (.int p4), .val (.int (1 : Int32)), .val (.int kk), .val (.ref s0), .val (.ref s1), .unset, .unset, .unset, .unset, .unset]) rfl k) ?_
    show own_Go p e s below _ _ _ T83 (mkF m 37 #[.val (.int p0), .val (.int p1), .val (.int p2), .val (.int p3), .val (.int p4), .val (.int (1 : Int32)), .val (.int kk), .val (.ref s0), .val (.ref s1), .unset, .unset, .unset, .unset, .unset] [])
    refine own_st (fun _ k => XS.iload X83.here hx rfl (hb hby at_37) rfl k) ?_
    show own_Go p e s below _ _ _ T83 (mkF m 39 #[.val (.int p0), .val (.int p1), .val (.int p2), .val (.int p3), .val (.int p4), .val (.int (1 : Int32)), .val (.int kk), .val (.ref s0), .val (.ref s1), .unset, .unset, .unset, .unset, .unset] [(.int p4)])
    refine own_st (fun _ k => XS.sipush X83.here hx rfl (hb hby at_39) k) ?_
    show own_Go p e s below _ _ _ T83 (mkF m 42 #[.val (.int p0), .val (.int p1), .val (.int p2), .val (.int p3), .val (.int p4), .val (.int (1 : Int32)), .val (.int kk), .val (.ref s0), .val (.ref s1), .unset, .unset, .unset, .unset, .unset] [(.int (255 : Int32)), (.int p4)])
    refine own_st (fun _ k => XS.iand X83.here hx rfl (hb hby at_42) rfl k) ?_
    show own_Go p e s below _ _ _ T83 (mkF m 43 #[.val (.int p0), .val (.int p1), .val (.int p2), .val (.int p3), .val (.int p4), .val (.int (1 : Int32)), .val (.int kk), .val (.ref s0), .val (.ref s1), .unset, .unset, .unset, .unset, .unset] [(.int (p4 &&& (255 : Int32)))])
    refine own_st (fun _ k => XS.i2c X83.here hx rfl (hb hby at_43) rfl k) ?_
    show own_Go p e s below _ _ _ T83 (mkF m 44 #[.val (.int p0), .val (.int p1), .val (.int p2), .val (.int p3), .val (.int p4), .val (.int (1 : Int32)), .val (.int kk), .val (.ref s0), .val (.ref s1), .unset, .unset, .unset, .unset, .unset] [(.int ((p4 &&& (255 : Int32)).toUInt32.toUInt16.toUInt32.toInt32))])
    refine own_callS X83 hx hZ (y := (⟨"java/lang/String", "valueOf", "(C)Ljava/lang/String;"⟩ : MethodName)) hown (hw _ (List.mem_of_getElem? (i := 0) rfl)) (hw _ (List.mem_of_getElem? (i := 1) rfl)) (hw _ (List.mem_of_getElem? (i := 2) rfl)) (hw _ (List.mem_of_getElem? (i := 3) rfl)) (by decide) rfl (rm1 l Z a0 hw [] ((p4 &&& (255 : Int32)).toUInt32.toUInt16.toUInt32.toInt32) cs T83.heap n0 Z84 S_cs hcs (own_ch _)) 0 (by decide) (by decide) (g := (mkF m 44 #[.val (.int p0), .val (.int p1), .val (.int p2), .val (.int p3), .val (.int p4), .val (.int (1 : Int32)), .val (.int kk), .val (.ref s0), .val (.ref s1), .unset, .unset, .unset, .unset, .unset] [(.int ((p4 &&& (255 : Int32)).toUInt32.toUInt16.toUInt32.toInt32))])) rfl (by rw [hml]; rfl) (argsL := [(.int ((p4 &&& (255 : Int32)).toUInt32.toUInt16.toUInt32.toInt32))]) (rest := []) pd0 rfl rfl rfl (by show 2 * 0 + _ ≤ _; exact Nat.le_of_eq rfl) (hb hby at_44) (by decide) (by decide) ?_
    intro T85 v85 L85 X85 hQ85
    obtain ⟨s2, rfl, N85q, K85q, sf_s2, y85_0⟩ := hQ85
    have N85 := Fr.app N83 N85q
    have g_s2 := Nat.le_trans Z84 sf_s2
    have ne_s0_s2 : s0 ≠ s2 := Nat.ne_of_lt (Nat.lt_of_lt_of_le E_s0.lt sf_s2)
    have ne_s2_s0 := Ne.symm ne_s0_s2
    have ne_s1_s2 : s1 ≠ s2 := Nat.ne_of_lt (Nat.lt_of_lt_of_le E_s1.lt sf_s2)
    have ne_s2_s1 := Ne.symm ne_s1_s2
    replace E_s0 := E_s0.keep K85q
    replace E_s1 := E_s1.keep K85q
    have Z86 := Nat.le_trans Z84 K85q.1
    have E_s2 := y85_0
    show own_Go p e s below _ _ _ T85 (mkF m 47 #[.val (.int p0), .val (.int p1), .val (.int p2), .val (.int p3), .val (.int p4), .val (.int (1 : Int32)), .val (.int kk), .val (.ref s0), .val (.ref s1), .unset, .unset, .unset, .unset, .unset] [(.ref s2)])
    replace S_cs := own_StaK S_cs K85q
    refine own_st (fun _ k => XS.astore X85.here hx rfl (hb hby at_47) rfl rfl (l' := #[.val (.int p0), .val (.int p1), .val (.int p2), .val (.int p3), .val (.int p4), .val (.int (1 : Int32)), .val (.int kk), .val (.ref s0), .val (.ref s1), .val (.ref s2), .unset, .unset, .unset, .unset]) rfl k) ?_
    show own_Go p e s below _ _ _ T85 (mkF m 49 #[.val (.int p0), .val (.int p1), .val (.int p2), .val (.int p3), .val (.int p4), .val (.int (1 : Int32)), .val (.int kk), .val (.ref s0), .val (.ref s1), .val (.ref s2), .unset, .unset, .unset, .unset] [])
    refine own_st (fun _ k => XS.iload X85.here hx rfl (hb hby at_49) rfl k) ?_
    show own_Go p e s below _ _ _ T85 (mkF m 51 #[.val (.int p0), .val (.int p1), .val (.int p2), .val (.int p3), .val (.int p4), .val (.int (1 : Int32)), .val (.int kk), .val (.ref s0), .val (.ref s1), .val (.ref s2), .unset, .unset, .unset, .unset] [(.int (1 : Int32))])
    refine own_st (fun _ k => XS.ifYes X85.here hx rfl (pc0 := 51) (pc' := 63) rfl (hb hby at_51) rfl (by decide) (by decide) (by decide) k) ?_
    show own_Go p e s below _ _ _ T85 (mkF m 63 #[.val (.int p0), .val (.int p1), .val (.int p2), .val (.int p3), .val (.int p4), .val (.int (1 : Int32)), .val (.int kk), .val (.ref s0), .val (.ref s1), .val (.ref s2), .unset, .unset, .unset, .unset] [])
    refine own_st (fun _ k => XS.iload X85.here hx rfl (hb hby at_63) rfl k) ?_
    show own_Go p e s below _ _ _ T85 (mkF m 65 #[.val (.int p0), .val (.int p1), .val (.int p2), .val (.int p3), .val (.int p4), .val (.int (1 : Int32)), .val (.int kk), .val (.ref s0), .val (.ref s1), .val (.ref s2), .unset, .unset, .unset, .unset] [(.int (1 : Int32))])
    refine own_st (fun _ k => XS.iconst X85.here hx rfl (hb hby at_65) k) ?_
    show own_Go p e s below _ _ _ T85 (mkF m 66 #[.val (.int p0), .val (.int p1), .val (.int p2), .val (.int p3), .val (.int p4), .val (.int (1 : Int32)), .val (.int kk), .val (.ref s0), .val (.ref s1), .val (.ref s2), .unset, .unset, .unset, .unset] [(.int (1 : Int32)), (.int (1 : Int32))])
    refine own_st (fun _ k => XS.icmpNo X85.here hx rfl (hb hby at_66) rfl (by decide) k) ?_
    show own_Go p e s below _ _ _ T85 (mkF m 69 #[.val (.int p0), .val (.int p1), .val (.int p2), .val (.int p3), .val (.int p4), .val (.int (1 : Int32)), .val (.int kk), .val (.ref s0), .val (.ref s1), .val (.ref s2), .unset, .unset, .unset, .unset] [])
    refine own_st (fun _ k => XS.iconst X85.here hx rfl (hb hby at_69) k) ?_
    show own_Go p e s below _ _ _ T85 (mkF m 70 #[.val (.int p0), .val (.int p1), .val (.int p2), .val (.int p3), .val (.int p4), .val (.int (1 : Int32)), .val (.int kk), .val (.ref s0), .val (.ref s1), .val (.ref s2), .unset, .unset, .unset, .unset] [(.int (1 : Int32))])
    obtain ⟨T87, h87, k87, X87, e87, E87, A87, Ex87, O87, st87⟩ := newRE X85 hx hZ hown (hw _ (List.mem_of_getElem? (i := 26) rfl)) (hw _ (List.mem_of_getElem? (i := 27) rfl)) rfl (g := (mkF m 70 #[.val (.int p0), .val (.int p1), .val (.int p2), .val (.int p3), .val (.int p4), .val (.int (1 : Int32)), .val (.int kk), .val (.ref s0), .val (.ref s1), .val (.ref s2), .unset, .unset, .unset, .unset] [(.int (1 : Int32))])) rfl (hb hby at_70) rfl (by decide) (cap := 1) (by decide) (by decide) (by decide) (by decide) (ad := "[Ljava/lang/String;") (by decide)
    obtain ⟨arr, g87⟩ : ∃ z, z = T85.heap.size := ⟨_, rfl⟩
    rw [← g87] at A87 Ex87 st87
    have g_arr : n0 ≤ arr := Nat.le_trans Z86 (Nat.le_of_eq g87.symm)
    have ne_s0_arr : s0 ≠ arr := Nat.ne_of_lt (Nat.lt_of_lt_of_le E_s0.lt (Nat.le_of_eq g87.symm))
    have ne_arr_s0 := Ne.symm ne_s0_arr
    have ne_s1_arr : s1 ≠ arr := Nat.ne_of_lt (Nat.lt_of_lt_of_le E_s1.lt (Nat.le_of_eq g87.symm))
    have ne_arr_s1 := Ne.symm ne_s1_arr
    have ne_s2_arr : s2 ≠ arr := Nat.ne_of_lt (Nat.lt_of_lt_of_le E_s2.lt (Nat.le_of_eq g87.symm))
    have ne_arr_s2 := Ne.symm ne_s2_arr
    replace E_s0 := E_s0.ext E87
    replace E_s1 := E_s1.ext E87
    replace E_s2 := E_s2.ext E87
    have Z88 := Nat.le_trans Z86 E87.1
    have V_arr : Arv Z h87 arr k87 (.object "java/lang/String") (1 : Int32) [.null] .null := (Arv.new A87 (by decide)).pad (pad_rep [] .null 1)
    have E_arr := Ex87
    have O_arr := O87
    refine own_st st87 ?_
    show own_Go p e s below _ _ _ T87 (mkF m 73 #[.val (.int p0), .val (.int p1), .val (.int p2), .val (.int p3), .val (.int p4), .val (.int (1 : Int32)), .val (.int kk), .val (.ref s0), .val (.ref s1), .val (.ref s2), .unset, .unset, .unset, .unset] [(.ref arr)])
    refine own_st (fun _ k => XS.dup X87.here hx rfl (hb hby at_73) rfl rfl k) ?_
    show own_Go p e s below _ _ _ T87 (mkF m 74 #[.val (.int p0), .val (.int p1), .val (.int p2), .val (.int p3), .val (.int p4), .val (.int (1 : Int32)), .val (.int kk), .val (.ref s0), .val (.ref s1), .val (.ref s2), .unset, .unset, .unset, .unset] [(.ref arr), (.ref arr)])
    refine own_st (fun _ k => XS.iconst X87.here hx rfl (hb hby at_74) k) ?_
    show own_Go p e s below _ _ _ T87 (mkF m 75 #[.val (.int p0), .val (.int p1), .val (.int p2), .val (.int p3), .val (.int p4), .val (.int (1 : Int32)), .val (.int kk), .val (.ref s0), .val (.ref s1), .val (.ref s2), .unset, .unset, .unset, .unset] [(.int (0 : Int32)), (.ref arr), (.ref arr)])
    refine own_st (fun _ k => XS.aload X87.here hx rfl (hb hby at_75) rfl rfl k) ?_
    show own_Go p e s below _ _ _ T87 (mkF m 77 #[.val (.int p0), .val (.int p1), .val (.int p2), .val (.int p3), .val (.int p4), .val (.int (1 : Int32)), .val (.int kk), .val (.ref s0), .val (.ref s1), .val (.ref s2), .unset, .unset, .unset, .unset] [(.ref s0), (.int (0 : Int32)), (.ref arr), (.ref arr)])
    obtain ⟨T89, h89, X89, e89, W89, V89, st89⟩ := own_stR X87 hx hZ e87 V_arr rfl (v := (.ref s0)) (fun cl A q => Sto.ofV A q O_arr (Ins.self E_s0)) rfl (j := (0 : Int32)) ⟨by decide, by decide⟩ (Nat.le_of_ble_eq_true rfl) (g := (mkF m 77 #[.val (.int p0), .val (.int p1), .val (.int p2), .val (.int p3), .val (.int p4), .val (.int (1 : Int32)), .val (.int kk), .val (.ref s0), .val (.ref s1), .val (.ref s2), .unset, .unset, .unset, .unset] [(.ref s0), (.int (0 : Int32)), (.ref arr), (.ref arr)])) rfl rfl (hb hby at_77)
    clear V_arr
    have V_arr : Arv Z h89 arr k87 (.object "java/lang/String") (1 : Int32) [(.ref s0)] .null := V89
    replace E_s0 := E_s0.wr W89
    replace E_s1 := E_s1.wr W89
    replace E_s2 := E_s2.wr W89
    replace E_arr := E_arr.wr W89
    have Z90 := Nat.le_trans Z88 (Keep.of_wr W89).1
    have N89 := Fr.snoc X89 N85 g_arr
    refine own_st st89 ?_
    show own_Go p e s below _ _ _ T89 (mkF m 78 #[.val (.int p0), .val (.int p1), .val (.int p2), .val (.int p3), .val (.int p4), .val (.int (1 : Int32)), .val (.int kk), .val (.ref s0), .val (.ref s1), .val (.ref s2), .unset, .unset, .unset, .unset] [(.ref arr)])
    refine own_st (fun _ k => XS.astore X89.here hx rfl (hb hby at_78) rfl rfl (l' := #[.val (.int p0), .val (.int p1), .val (.int p2), .val (.int p3), .val (.int p4), .val (.int (1 : Int32)), .val (.int kk), .val (.ref s0), .val (.ref s1), .val (.ref s2), .val (.ref arr), .unset, .unset, .unset]) rfl k) ?_
    show own_Go p e s below _ _ _ T89 (mkF m 80 #[.val (.int p0), .val (.int p1), .val (.int p2), .val (.int p3), .val (.int p4), .val (.int (1 : Int32)), .val (.int kk), .val (.ref s0), .val (.ref s1), .val (.ref s2), .val (.ref arr), .unset, .unset, .unset] [])
    refine own_st (fun _ k => XS.goto X89.here hx rfl (pc0 := 80) (pc' := 129) rfl (hb hby at_80) (by decide) (by decide) k) ?_
    show own_Go p e s below _ _ _ T89 (mkF m 129 #[.val (.int p0), .val (.int p1), .val (.int p2), .val (.int p3), .val (.int p4), .val (.int (1 : Int32)), .val (.int kk), .val (.ref s0), .val (.ref s1), .val (.ref s2), .val (.ref arr), .unset, .unset, .unset] [])
    obtain ⟨T91, h91, X91, e91, E91, A91, D91, -, st91⟩ := newO X89 hx hZ hown (hw _ (List.mem_of_getElem? (i := 28) rfl)) (hw _ (List.mem_of_getElem? (i := 29) rfl)) (hw _ (List.mem_of_getElem? (i := 30) rfl)) e89 (g := (mkF m 129 #[.val (.int p0), .val (.int p1), .val (.int p2), .val (.int p3), .val (.int p4), .val (.int (1 : Int32)), .val (.int kk), .val (.ref s0), .val (.ref s1), .val (.ref s2), .val (.ref arr), .unset, .unset, .unset] [])) rfl (hb hby at_129) (by decide) (by decide)
    obtain ⟨b, g91⟩ : ∃ z, z = h89.size := ⟨_, rfl⟩
    rw [← g91] at A91 D91 st91
    have g_b : n0 ≤ b := Nat.le_trans Z90 (Nat.le_of_eq g91.symm)
    have ne_arr_b : arr ≠ b := Nat.ne_of_lt (Nat.lt_of_lt_of_le E_arr.lt (Nat.le_of_eq g91.symm))
    have ne_b_arr := Ne.symm ne_arr_b
    have ne_s0_b : s0 ≠ b := Nat.ne_of_lt (Nat.lt_of_lt_of_le E_s0.lt (Nat.le_of_eq g91.symm))
    have ne_b_s0 := Ne.symm ne_s0_b
    have ne_s1_b : s1 ≠ b := Nat.ne_of_lt (Nat.lt_of_lt_of_le E_s1.lt (Nat.le_of_eq g91.symm))
    have ne_b_s1 := Ne.symm ne_s1_b
    have ne_s2_b : s2 ≠ b := Nat.ne_of_lt (Nat.lt_of_lt_of_le E_s2.lt (Nat.le_of_eq g91.symm))
    have ne_b_s2 := Ne.symm ne_s2_b
    replace E_s0 := E_s0.ext E91
    replace E_s1 := E_s1.ext E91
    replace E_s2 := E_s2.ext E91
    replace E_arr := E_arr.ext E91
    replace V_arr := V_arr.ext E91
    have Z92 := Nat.le_trans Z90 E91.1
    have E_b := A91
    have F_args_b : Fld Z h91 b "com/example/chronotope/chronotope/Arguments" "args" "[Ljava/lang/String;" .null := D91 (Or.inr (hw _ (List.mem_of_getElem? (i := 45) rfl))) (ty := (.array (.object "java/lang/String"))) (by decide)
    have F_next_b : Fld Z h91 b "com/example/chronotope/chronotope/Arguments" "next" "I" (.int (0 : Int32)) := D91 (Or.inl (hw _ (List.mem_of_getElem? (i := 52) rfl))) (ty := .int) (by decide)
    refine own_st st91 ?_
    show own_Go p e s below _ _ _ T91 (mkF m 132 #[.val (.int p0), .val (.int p1), .val (.int p2), .val (.int p3), .val (.int p4), .val (.int (1 : Int32)), .val (.int kk), .val (.ref s0), .val (.ref s1), .val (.ref s2), .val (.ref arr), .unset, .unset, .unset] [(.ref b)])
    refine own_st (fun _ k => XS.dup X91.here hx rfl (hb hby at_132) rfl rfl k) ?_
    show own_Go p e s below _ _ _ T91 (mkF m 133 #[.val (.int p0), .val (.int p1), .val (.int p2), .val (.int p3), .val (.int p4), .val (.int (1 : Int32)), .val (.int kk), .val (.ref s0), .val (.ref s1), .val (.ref s2), .val (.ref arr), .unset, .unset, .unset] [(.ref b), (.ref b)])
    refine own_st (fun _ k => XS.aload X91.here hx rfl (hb hby at_133) rfl rfl k) ?_
    show own_Go p e s below _ _ _ T91 (mkF m 135 #[.val (.int p0), .val (.int p1), .val (.int p2), .val (.int p3), .val (.int p4), .val (.int (1 : Int32)), .val (.int kk), .val (.ref s0), .val (.ref s1), .val (.ref s2), .val (.ref arr), .unset, .unset, .unset] [(.ref arr), (.ref b), (.ref b)])
    refine own_callN X91 hx hZ (y := (⟨"com/example/chronotope/chronotope/Arguments", "<init>", "([Ljava/lang/String;)V"⟩ : MethodName)) rfl hown (hw _ (List.mem_of_getElem? (i := 31) rfl)) (hw _ (List.mem_of_getElem? (i := 32) rfl)) (hw _ (List.mem_of_getElem? (i := 30) rfl)) (hw _ (List.mem_of_getElem? (i := 33) rfl)) (by decide) e91 (rm6_1 l Z a0 hw [] b arr k87 s0 h91 n0 Z92 E_b F_args_b F_next_b V_arr E_arr ne_b_arr ne_arr_b g_b) 1 (by decide) (by decide) (g := (mkF m 135 #[.val (.int p0), .val (.int p1), .val (.int p2), .val (.int p3), .val (.int p4), .val (.int (1 : Int32)), .val (.int kk), .val (.ref s0), .val (.ref s1), .val (.ref s2), .val (.ref arr), .unset, .unset, .unset] [(.ref arr), (.ref b), (.ref b)])) rfl (by rw [hml]; rfl) (a := b) (argsL := [(.ref arr)]) (rest := [(.ref b)]) pd4 rfl rfl rfl (by show 2 * 0 + _ ≤ _; exact Nat.le_of_eq rfl) (hb hby at_135) (by decide) (by decide) ?_
    intro T93 v93 L93 X93 hQ93
    obtain ⟨dd, rfl, N93q, K93q, sf_dd, y93_0, y93_1, y93_2, y93_3⟩ := hQ93
    have N93 := Fr.app N89 N93q
    have g_dd := Nat.le_trans Z92 sf_dd
    have ne_arr_dd : arr ≠ dd := Nat.ne_of_lt (Nat.lt_of_lt_of_le E_arr.lt sf_dd)
    have ne_dd_arr := Ne.symm ne_arr_dd
    have ne_b_dd : b ≠ dd := Nat.ne_of_lt (Nat.lt_of_lt_of_le E_b.lt sf_dd)
    have ne_dd_b := Ne.symm ne_b_dd
    have ne_s0_dd : s0 ≠ dd := Nat.ne_of_lt (Nat.lt_of_lt_of_le E_s0.lt sf_dd)
    have ne_dd_s0 := Ne.symm ne_s0_dd
    have ne_s1_dd : s1 ≠ dd := Nat.ne_of_lt (Nat.lt_of_lt_of_le E_s1.lt sf_dd)
    have ne_dd_s1 := Ne.symm ne_s1_dd
    have ne_s2_dd : s2 ≠ dd := Nat.ne_of_lt (Nat.lt_of_lt_of_le E_s2.lt sf_dd)
    have ne_dd_s2 := Ne.symm ne_s2_dd
    replace E_s0 := E_s0.keep K93q
    replace E_s1 := E_s1.keep K93q
    replace E_s2 := E_s2.keep K93q
    replace E_arr := E_arr.keep K93q
    replace V_arr := V_arr.keep K93q (ninS ne_arr_b nin0)
    replace E_b := E_b.keep K93q
    clear F_args_b
    clear F_next_b
    have Z94 := Nat.le_trans Z92 K93q.1
    have E_b := y93_0
    have F_args_b := y93_1
    have F_next_b := y93_2
    have V_dd := y93_3
    show own_Go p e s below _ _ _ T93 (mkF m 138 #[.val (.int p0), .val (.int p1), .val (.int p2), .val (.int p3), .val (.int p4), .val (.int (1 : Int32)), .val (.int kk), .val (.ref s0), .val (.ref s1), .val (.ref s2), .val (.ref arr), .unset, .unset, .unset] [(.ref b)])
    refine own_st (fun _ k => XS.astore X93.here hx rfl (hb hby at_138) rfl rfl (l' := #[.val (.int p0), .val (.int p1), .val (.int p2), .val (.int p3), .val (.int p4), .val (.int (1 : Int32)), .val (.int kk), .val (.ref s0), .val (.ref s1), .val (.ref s2), .val (.ref arr), .val (.ref b), .unset, .unset]) rfl k) ?_
    show own_Go p e s below _ _ _ T93 (mkF m 140 #[.val (.int p0), .val (.int p1), .val (.int p2), .val (.int p3), .val (.int p4), .val (.int (1 : Int32)), .val (.int kk), .val (.ref s0), .val (.ref s1), .val (.ref s2), .val (.ref arr), .val (.ref b), .unset, .unset] [])
    refine own_st (fun _ k => XS.aload X93.here hx rfl (hb hby at_140) rfl rfl k) ?_
    show own_Go p e s below _ _ _ T93 (mkF m 142 #[.val (.int p0), .val (.int p1), .val (.int p2), .val (.int p3), .val (.int p4), .val (.int (1 : Int32)), .val (.int kk), .val (.ref s0), .val (.ref s1), .val (.ref s2), .val (.ref arr), .val (.ref b), .unset, .unset] [(.ref b)])
    refine own_callV X93 hx hZ (y := (⟨"com/example/chronotope/chronotope/Arguments", "hasNext", "()Z"⟩ : MethodName)) hown (hw _ (List.mem_of_getElem? (i := 46) rfl)) (hw _ (List.mem_of_getElem? (i := 47) rfl)) (hw _ (List.mem_of_getElem? (i := 49) rfl)) (hw _ (List.mem_of_getElem? (i := 48) rfl)) (hw _ (List.mem_of_getElem? (i := 30) rfl)) (hw _ (List.mem_of_getElem? (i := 50) rfl)) (by decide) rfl (rm7 l Z a0 hw [] b dd (0 : Int32) (1 : Int32) k87 [(.ref s0)] T93.heap n0 Z94 F_args_b F_next_b V_dd) 0 (by decide) (by decide) E_b (g := (mkF m 142 #[.val (.int p0), .val (.int p1), .val (.int p2), .val (.int p3), .val (.int p4), .val (.int (1 : Int32)), .val (.int kk), .val (.ref s0), .val (.ref s1), .val (.ref s2), .val (.ref arr), .val (.ref b), .unset, .unset] [(.ref b)])) rfl (by rw [hml]; rfl) (argsL := []) (rest := []) pd5 rfl rfl rfl (by show 2 * 0 + _ ≤ _; exact Nat.le_of_eq rfl) (hb hby at_142) (by decide) (by decide) ?_
    intro T95 v95 L95 X95 hQ95
    obtain ⟨rfl, N95q, e95⟩ := hQ95
    have N95 := Fr.app N93 N95q
    show own_Go p e s below _ _ _ T95 (mkF m 145 #[.val (.int p0), .val (.int p1), .val (.int p2), .val (.int p3), .val (.int p4), .val (.int (1 : Int32)), .val (.int kk), .val (.ref s0), .val (.ref s1), .val (.ref s2), .val (.ref arr), .val (.ref b), .unset, .unset] [(.int (own_b ((0 : Int32) < (1 : Int32))))])
    refine own_st (fun _ k => XS.iconst X95.here hx rfl (hb hby at_145) k) ?_
    show own_Go p e s below _ _ _ T95 (mkF m 146 #[.val (.int p0), .val (.int p1), .val (.int p2), .val (.int p3), .val (.int p4), .val (.int (1 : Int32)), .val (.int kk), .val (.ref s0), .val (.ref s1), .val (.ref s2), .val (.ref arr), .val (.ref b), .unset, .unset] [(.int (0 : Int32)), (.int (own_b ((0 : Int32) < (1 : Int32))))])
    refine own_st (fun _ k => XS.iload X95.here hx rfl (hb hby at_146) rfl k) ?_
    show own_Go p e s below _ _ _ T95 (mkF m 148 #[.val (.int p0), .val (.int p1), .val (.int p2), .val (.int p3), .val (.int p4), .val (.int (1 : Int32)), .val (.int kk), .val (.ref s0), .val (.ref s1), .val (.ref s2), .val (.ref arr), .val (.ref b), .unset, .unset] [(.int (1 : Int32)), (.int (0 : Int32)), (.int (own_b ((0 : Int32) < (1 : Int32))))])
    refine own_st (fun _ k => XS.icmpNo X95.here hx rfl (hb hby at_148) rfl (by decide) k) ?_
    show own_Go p e s below _ _ _ T95 (mkF m 151 #[.val (.int p0), .val (.int p1), .val (.int p2), .val (.int p3), .val (.int p4), .val (.int (1 : Int32)), .val (.int kk), .val (.ref s0), .val (.ref s1), .val (.ref s2), .val (.ref arr), .val (.ref b), .unset, .unset] [(.int (own_b ((0 : Int32) < (1 : Int32))))])
    refine own_st (fun _ k => XS.iconst X95.here hx rfl (hb hby at_151) k) ?_
    show own_Go p e s below _ _ _ T95 (mkF m 152 #[.val (.int p0), .val (.int p1), .val (.int p2), .val (.int p3), .val (.int p4), .val (.int (1 : Int32)), .val (.int kk), .val (.ref s0), .val (.ref s1), .val (.ref s2), .val (.ref arr), .val (.ref b), .unset, .unset] [(.int (1 : Int32)), (.int (own_b ((0 : Int32) < (1 : Int32))))])
    refine own_st (fun _ k => XS.goto X95.here hx rfl (pc0 := 152) (pc' := 156) rfl (hb hby at_152) (by decide) (by decide) k) ?_
    show own_Go p e s below _ _ _ T95 (mkF m 156 #[.val (.int p0), .val (.int p1), .val (.int p2), .val (.int p3), .val (.int p4), .val (.int (1 : Int32)), .val (.int kk), .val (.ref s0), .val (.ref s1), .val (.ref s2), .val (.ref arr), .val (.ref b), .unset, .unset] [(.int (1 : Int32)), (.int (own_b ((0 : Int32) < (1 : Int32))))])
    refine own_st (fun _ k => XS.icmpYes X95.here hx rfl (pc0 := 156) (pc' := 161) rfl (hb hby at_156) rfl (teq (own_bt (by decide))).1 (by decide) (by decide) k) ?_
    show own_Go p e s below _ _ _ T95 (mkF m 161 #[.val (.int p0), .val (.int p1), .val (.int p2), .val (.int p3), .val (.int p4), .val (.int (1 : Int32)), .val (.int kk), .val (.ref s0), .val (.ref s1), .val (.ref s2), .val (.ref arr), .val (.ref b), .unset, .unset] [])
    refine own_st (fun _ k => XS.iload X95.here hx rfl (hb hby at_161) rfl k) ?_
    show own_Go p e s below _ _ _ T95 (mkF m 163 #[.val (.int p0), .val (.int p1), .val (.int p2), .val (.int p3), .val (.int p4), .val (.int (1 : Int32)), .val (.int kk), .val (.ref s0), .val (.ref s1), .val (.ref s2), .val (.ref arr), .val (.ref b), .unset, .unset] [(.int kk)])
    refine own_st (fun _ k => XS.iconst X95.here hx rfl (hb hby at_163) k) ?_
    show own_Go p e s below _ _ _ T95 (mkF m 164 #[.val (.int p0), .val (.int p1), .val (.int p2), .val (.int p3), .val (.int p4), .val (.int (1 : Int32)), .val (.int kk), .val (.ref s0), .val (.ref s1), .val (.ref s2), .val (.ref arr), .val (.ref b), .unset, .unset] [(.int (1 : Int32)), (.int kk)])
    rcases hk with rfl | hk
    · show own_Go p e s below _ _ _ T95 (mkF m 164 #[.val (.int p0), .val (.int p1), .val (.int p2), .val (.int p3), .val (.int p4), .val (.int (1 : Int32)), .val (.int (0 : Int32)), .val (.ref s0), .val (.ref s1), .val (.ref s2), .val (.ref arr), .val (.ref b), .unset, .unset] [(.int (1 : Int32)), (.int (0 : Int32))])
      refine own_st (fun _ k => XS.icmpYes X95.here hx rfl (pc0 := 164) (pc' := 203) rfl (hb hby at_164) rfl (by decide) (by decide) (by decide) k) ?_
      show own_Go p e s below _ _ _ T95 (mkF m 203 #[.val (.int p0), .val (.int p1), .val (.int p2), .val (.int p3), .val (.int p4), .val (.int (1 : Int32)), .val (.int (0 : Int32)), .val (.ref s0), .val (.ref s1), .val (.ref s2), .val (.ref arr), .val (.ref b), .unset, .unset] [])
      refine own_st (fun _ k => XS.iload X95.here hx rfl (hb hby at_203) rfl k) ?_
      show own_Go p e s below _ _ _ T95 (mkF m 205 #[.val (.int p0), .val (.int p1), .val (.int p2), .val (.int p3), .val (.int p4), .val (.int (1 : Int32)), .val (.int (0 : Int32)), .val (.ref s0), .val (.ref s1), .val (.ref s2), .val (.ref arr), .val (.ref b), .unset, .unset] [(.int (0 : Int32))])
      refine own_st (fun _ k => XS.iconst X95.here hx rfl (hb hby at_205) k) ?_
      show own_Go p e s below _ _ _ T95 (mkF m 206 #[.val (.int p0), .val (.int p1), .val (.int p2), .val (.int p3), .val (.int p4), .val (.int (1 : Int32)), .val (.int (0 : Int32)), .val (.ref s0), .val (.ref s1), .val (.ref s2), .val (.ref arr), .val (.ref b), .unset, .unset] [(.int (2 : Int32)), (.int (0 : Int32))])
      refine own_st (fun _ k => XS.icmpYes X95.here hx rfl (pc0 := 206) (pc' := 245) rfl (hb hby at_206) rfl (by decide) (by decide) (by decide) k) ?_
      show own_Go p e s below _ _ _ T95 (mkF m 245 #[.val (.int p0), .val (.int p1), .val (.int p2), .val (.int p3), .val (.int p4), .val (.int (1 : Int32)), .val (.int (0 : Int32)), .val (.ref s0), .val (.ref s1), .val (.ref s2), .val (.ref arr), .val (.ref b), .unset, .unset] [])
      refine own_st (fun _ k => XS.iload X95.here hx rfl (hb hby at_245) rfl k) ?_
      show own_Go p e s below _ _ _ T95 (mkF m 247 #[.val (.int p0), .val (.int p1), .val (.int p2), .val (.int p3), .val (.int p4), .val (.int (1 : Int32)), .val (.int (0 : Int32)), .val (.ref s0), .val (.ref s1), .val (.ref s2), .val (.ref arr), .val (.ref b), .unset, .unset] [(.int (0 : Int32))])
      refine own_st (fun _ k => XS.iconst X95.here hx rfl (hb hby at_247) k) ?_
      show own_Go p e s below _ _ _ T95 (mkF m 248 #[.val (.int p0), .val (.int p1), .val (.int p2), .val (.int p3), .val (.int p4), .val (.int (1 : Int32)), .val (.int (0 : Int32)), .val (.ref s0), .val (.ref s1), .val (.ref s2), .val (.ref arr), .val (.ref b), .unset, .unset] [(.int (3 : Int32)), (.int (0 : Int32))])
      refine own_st (fun _ k => XS.icmpYes X95.here hx rfl (pc0 := 248) (pc' := 287) rfl (hb hby at_248) rfl (by decide) (by decide) (by decide) k) ?_
      show own_Go p e s below _ _ _ T95 (mkF m 287 #[.val (.int p0), .val (.int p1), .val (.int p2), .val (.int p3), .val (.int p4), .val (.int (1 : Int32)), .val (.int (0 : Int32)), .val (.ref s0), .val (.ref s1), .val (.ref s2), .val (.ref arr), .val (.ref b), .unset, .unset] [])
      refine own_st (fun _ k => XS.aload X95.here hx rfl (hb hby at_287) rfl rfl k) ?_
      show own_Go p e s below _ _ _ T95 (mkF m 289 #[.val (.int p0), .val (.int p1), .val (.int p2), .val (.int p3), .val (.int p4), .val (.int (1 : Int32)), .val (.int (0 : Int32)), .val (.ref s0), .val (.ref s1), .val (.ref s2), .val (.ref arr), .val (.ref b), .unset, .unset] [(.ref b)])
      refine own_callV X95 hx hZ (y := (⟨"com/example/chronotope/chronotope/Arguments", "hasNext", "()Z"⟩ : MethodName)) hown (hw _ (List.mem_of_getElem? (i := 46) rfl)) (hw _ (List.mem_of_getElem? (i := 47) rfl)) (hw _ (List.mem_of_getElem? (i := 49) rfl)) (hw _ (List.mem_of_getElem? (i := 48) rfl)) (hw _ (List.mem_of_getElem? (i := 30) rfl)) (hw _ (List.mem_of_getElem? (i := 50) rfl)) (by decide) e95 (rm7 l Z a0 hw [] b dd (0 : Int32) (1 : Int32) k87 [(.ref s0)] T93.heap n0 Z94 F_args_b F_next_b V_dd) 0 (by decide) (by decide) E_b (g := (mkF m 289 #[.val (.int p0), .val (.int p1), .val (.int p2), .val (.int p3), .val (.int p4), .val (.int (1 : Int32)), .val (.int (0 : Int32)), .val (.ref s0), .val (.ref s1), .val (.ref s2), .val (.ref arr), .val (.ref b), .unset, .unset] [(.ref b)])) rfl (by rw [hml]; rfl) (argsL := []) (rest := []) pd5 rfl rfl rfl (by show 2 * 0 + _ ≤ _; exact Nat.le_of_eq rfl) (hb hby at_289) (by decide) (by decide) ?_
      intro T96 v96 L96 X96 hQ96
      obtain ⟨rfl, N96q, e96⟩ := hQ96
      have N96 := Fr.app N95 N96q
      show own_Go p e s below _ _ _ T96 (mkF m 292 #[.val (.int p0), .val (.int p1), .val (.int p2), .val (.int p3), .val (.int p4), .val (.int (1 : Int32)), .val (.int (0 : Int32)), .val (.ref s0), .val (.ref s1), .val (.ref s2), .val (.ref arr), .val (.ref b), .unset, .unset] [(.int (own_b ((0 : Int32) < (1 : Int32))))])
      refine own_st (fun _ k => XS.istore X96.here hx rfl (hb hby at_292) rfl (l' := #[.val (.int p0), .val (.int p1), .val (.int p2), .val (.int p3), .val (.int p4), .val (.int (1 : Int32)), .val (.int (0 : Int32)), .val (.ref s0), .val (.ref s1), .val (.ref s2), .val (.ref arr), .val (.ref b), .val (.int (own_b ((0 : Int32) < (1 : Int32)))), .unset]) rfl k) ?_
      show own_Go p e s below _ _ _ T96 (mkF m 294 #[.val (.int p0), .val (.int p1), .val (.int p2), .val (.int p3), .val (.int p4), .val (.int (1 : Int32)), .val (.int (0 : Int32)), .val (.ref s0), .val (.ref s1), .val (.ref s2), .val (.ref arr), .val (.ref b), .val (.int (own_b ((0 : Int32) < (1 : Int32)))), .unset] [])
      refine own_st (fun _ k => XS.aload X96.here hx rfl (hb hby at_294) rfl rfl k) ?_
      show own_Go p e s below _ _ _ T96 (mkF m 296 #[.val (.int p0), .val (.int p1), .val (.int p2), .val (.int p3), .val (.int p4), .val (.int (1 : Int32)), .val (.int (0 : Int32)), .val (.ref s0), .val (.ref s1), .val (.ref s2), .val (.ref arr), .val (.ref b), .val (.int (own_b ((0 : Int32) < (1 : Int32)))), .unset] [(.ref b)])
      refine own_callV X96 hx hZ (y := (⟨"com/example/chronotope/chronotope/Arguments", "hasNext", "()Z"⟩ : MethodName)) hown (hw _ (List.mem_of_getElem? (i := 46) rfl)) (hw _ (List.mem_of_getElem? (i := 47) rfl)) (hw _ (List.mem_of_getElem? (i := 49) rfl)) (hw _ (List.mem_of_getElem? (i := 48) rfl)) (hw _ (List.mem_of_getElem? (i := 30) rfl)) (hw _ (List.mem_of_getElem? (i := 50) rfl)) (by decide) e96 (rm7 l Z a0 hw [] b dd (0 : Int32) (1 : Int32) k87 [(.ref s0)] T93.heap n0 Z94 F_args_b F_next_b V_dd) 0 (by decide) (by decide) E_b (g := (mkF m 296 #[.val (.int p0), .val (.int p1), .val (.int p2), .val (.int p3), .val (.int p4), .val (.int (1 : Int32)), .val (.int (0 : Int32)), .val (.ref s0), .val (.ref s1), .val (.ref s2), .val (.ref arr), .val (.ref b), .val (.int (own_b ((0 : Int32) < (1 : Int32)))), .unset] [(.ref b)])) rfl (by rw [hml]; rfl) (argsL := []) (rest := []) pd5 rfl rfl rfl (by show 2 * 0 + _ ≤ _; exact Nat.le_of_eq rfl) (hb hby at_296) (by decide) (by decide) ?_
      intro T97 v97 L97 X97 hQ97
      obtain ⟨rfl, N97q, e97⟩ := hQ97
      have N97 := Fr.app N96 N97q
      show own_Go p e s below _ _ _ T97 (mkF m 299 #[.val (.int p0), .val (.int p1), .val (.int p2), .val (.int p3), .val (.int p4), .val (.int (1 : Int32)), .val (.int (0 : Int32)), .val (.ref s0), .val (.ref s1), .val (.ref s2), .val (.ref arr), .val (.ref b), .val (.int (own_b ((0 : Int32) < (1 : Int32)))), .unset] [(.int (own_b ((0 : Int32) < (1 : Int32))))])
      refine own_st (fun _ k => XS.istore X97.here hx rfl (hb hby at_299) rfl (l' := #[.val (.int p0), .val (.int p1), .val (.int p2), .val (.int p3), .val (.int p4), .val (.int (1 : Int32)), .val (.int (0 : Int32)), .val (.ref s0), .val (.ref s1), .val (.ref s2), .val (.ref arr), .val (.ref b), .val (.int (own_b ((0 : Int32) < (1 : Int32)))), .val (.int (own_b ((0 : Int32) < (1 : Int32))))]) rfl k) ?_
      show own_Go p e s below _ _ _ T97 (mkF m 301 #[.val (.int p0), .val (.int p1), .val (.int p2), .val (.int p3), .val (.int p4), .val (.int (1 : Int32)), .val (.int (0 : Int32)), .val (.ref s0), .val (.ref s1), .val (.ref s2), .val (.ref arr), .val (.ref b), .val (.int (own_b ((0 : Int32) < (1 : Int32)))), .val (.int (own_b ((0 : Int32) < (1 : Int32))))] [])
      refine own_st (fun _ k => XS.iload X97.here hx rfl (hb hby at_301) rfl k) ?_
      show own_Go p e s below _ _ _ T97 (mkF m 303 #[.val (.int p0), .val (.int p1), .val (.int p2), .val (.int p3), .val (.int p4), .val (.int (1 : Int32)), .val (.int (0 : Int32)), .val (.ref s0), .val (.ref s1), .val (.ref s2), .val (.ref arr), .val (.ref b), .val (.int (own_b ((0 : Int32) < (1 : Int32)))), .val (.int (own_b ((0 : Int32) < (1 : Int32))))] [(.int (own_b ((0 : Int32) < (1 : Int32))))])
      refine own_st (fun _ k => XS.iload X97.here hx rfl (hb hby at_303) rfl k) ?_
      show own_Go p e s below _ _ _ T97 (mkF m 305 #[.val (.int p0), .val (.int p1), .val (.int p2), .val (.int p3), .val (.int p4), .val (.int (1 : Int32)), .val (.int (0 : Int32)), .val (.ref s0), .val (.ref s1), .val (.ref s2), .val (.ref arr), .val (.ref b), .val (.int (own_b ((0 : Int32) < (1 : Int32)))), .val (.int (own_b ((0 : Int32) < (1 : Int32))))] [(.int (0 : Int32)), (.int (own_b ((0 : Int32) < (1 : Int32))))])
      refine own_st (fun _ k => XS.iload X97.here hx rfl (hb hby at_305) rfl k) ?_
      show own_Go p e s below _ _ _ T97 (mkF m 307 #[.val (.int p0), .val (.int p1), .val (.int p2), .val (.int p3), .val (.int p4), .val (.int (1 : Int32)), .val (.int (0 : Int32)), .val (.ref s0), .val (.ref s1), .val (.ref s2), .val (.ref arr), .val (.ref b), .val (.int (own_b ((0 : Int32) < (1 : Int32)))), .val (.int (own_b ((0 : Int32) < (1 : Int32))))] [(.int (1 : Int32)), (.int (0 : Int32)), (.int (own_b ((0 : Int32) < (1 : Int32))))])
      refine own_st (fun _ k => XS.icmpNo X97.here hx rfl (hb hby at_307) rfl (by decide) k) ?_
      show own_Go p e s below _ _ _ T97 (mkF m 310 #[.val (.int p0), .val (.int p1), .val (.int p2), .val (.int p3), .val (.int p4), .val (.int (1 : Int32)), .val (.int (0 : Int32)), .val (.ref s0), .val (.ref s1), .val (.ref s2), .val (.ref arr), .val (.ref b), .val (.int (own_b ((0 : Int32) < (1 : Int32)))), .val (.int (own_b ((0 : Int32) < (1 : Int32))))] [(.int (own_b ((0 : Int32) < (1 : Int32))))])
      refine own_st (fun _ k => XS.iconst X97.here hx rfl (hb hby at_310) k) ?_
      show own_Go p e s below _ _ _ T97 (mkF m 311 #[.val (.int p0), .val (.int p1), .val (.int p2), .val (.int p3), .val (.int p4), .val (.int (1 : Int32)), .val (.int (0 : Int32)), .val (.ref s0), .val (.ref s1), .val (.ref s2), .val (.ref arr), .val (.ref b), .val (.int (own_b ((0 : Int32) < (1 : Int32)))), .val (.int (own_b ((0 : Int32) < (1 : Int32))))] [(.int (1 : Int32)), (.int (own_b ((0 : Int32) < (1 : Int32))))])
      refine own_st (fun _ k => XS.goto X97.here hx rfl (pc0 := 311) (pc' := 315) rfl (hb hby at_311) (by decide) (by decide) k) ?_
      show own_Go p e s below _ _ _ T97 (mkF m 315 #[.val (.int p0), .val (.int p1), .val (.int p2), .val (.int p3), .val (.int p4), .val (.int (1 : Int32)), .val (.int (0 : Int32)), .val (.ref s0), .val (.ref s1), .val (.ref s2), .val (.ref arr), .val (.ref b), .val (.int (own_b ((0 : Int32) < (1 : Int32)))), .val (.int (own_b ((0 : Int32) < (1 : Int32))))] [(.int (1 : Int32)), (.int (own_b ((0 : Int32) < (1 : Int32))))])
      refine own_st (fun _ k => XS.icmpNo X97.here hx rfl (hb hby at_315) rfl (teq (own_bt (by decide))).2 k) ?_
      show own_Go p e s below _ _ _ T97 (mkF m 318 #[.val (.int p0), .val (.int p1), .val (.int p2), .val (.int p3), .val (.int p4), .val (.int (1 : Int32)), .val (.int (0 : Int32)), .val (.ref s0), .val (.ref s1), .val (.ref s2), .val (.ref arr), .val (.ref b), .val (.int (own_b ((0 : Int32) < (1 : Int32)))), .val (.int (own_b ((0 : Int32) < (1 : Int32))))] [])
      refine own_st (fun _ k => XS.iload X97.here hx rfl (hb hby at_318) rfl k) ?_
      show own_Go p e s below _ _ _ T97 (mkF m 320 #[.val (.int p0), .val (.int p1), .val (.int p2), .val (.int p3), .val (.int p4), .val (.int (1 : Int32)), .val (.int (0 : Int32)), .val (.ref s0), .val (.ref s1), .val (.ref s2), .val (.ref arr), .val (.ref b), .val (.int (own_b ((0 : Int32) < (1 : Int32)))), .val (.int (own_b ((0 : Int32) < (1 : Int32))))] [(.int (own_b ((0 : Int32) < (1 : Int32))))])
      refine own_st (fun _ k => XS.iload X97.here hx rfl (hb hby at_320) rfl k) ?_
      show own_Go p e s below _ _ _ T97 (mkF m 322 #[.val (.int p0), .val (.int p1), .val (.int p2), .val (.int p3), .val (.int p4), .val (.int (1 : Int32)), .val (.int (0 : Int32)), .val (.ref s0), .val (.ref s1), .val (.ref s2), .val (.ref arr), .val (.ref b), .val (.int (own_b ((0 : Int32) < (1 : Int32)))), .val (.int (own_b ((0 : Int32) < (1 : Int32))))] [(.int (own_b ((0 : Int32) < (1 : Int32)))), (.int (own_b ((0 : Int32) < (1 : Int32))))])
      refine own_st (fun _ k => XS.icmpNo X97.here hx rfl (hb hby at_322) rfl (teq rfl).2 k) ?_
      show own_Go p e s below _ _ _ T97 (mkF m 325 #[.val (.int p0), .val (.int p1), .val (.int p2), .val (.int p3), .val (.int p4), .val (.int (1 : Int32)), .val (.int (0 : Int32)), .val (.ref s0), .val (.ref s1), .val (.ref s2), .val (.ref arr), .val (.ref b), .val (.int (own_b ((0 : Int32) < (1 : Int32)))), .val (.int (own_b ((0 : Int32) < (1 : Int32))))] [])
      refine own_st (fun _ k => XS.iconst X97.here hx rfl (hb hby at_325) k) ?_
      show own_Go p e s below _ _ _ T97 (mkF m 326 #[.val (.int p0), .val (.int p1), .val (.int p2), .val (.int p3), .val (.int p4), .val (.int (1 : Int32)), .val (.int (0 : Int32)), .val (.ref s0), .val (.ref s1), .val (.ref s2), .val (.ref arr), .val (.ref b), .val (.int (own_b ((0 : Int32) < (1 : Int32)))), .val (.int (own_b ((0 : Int32) < (1 : Int32))))] [(.int (1 : Int32))])
      refine own_st (fun _ k => XS.goto X97.here hx rfl (pc0 := 326) (pc' := 330) rfl (hb hby at_326) (by decide) (by decide) k) ?_
      show own_Go p e s below _ _ _ T97 (mkF m 330 #[.val (.int p0), .val (.int p1), .val (.int p2), .val (.int p3), .val (.int p4), .val (.int (1 : Int32)), .val (.int (0 : Int32)), .val (.ref s0), .val (.ref s1), .val (.ref s2), .val (.ref arr), .val (.ref b), .val (.int (own_b ((0 : Int32) < (1 : Int32)))), .val (.int (own_b ((0 : Int32) < (1 : Int32))))] [(.int (1 : Int32))])
      exact own_retN X97 hx hlk (t := .boolean) hret (by simp) (hb hby at_330) (z' := (1 : Int32)) rfl (by decide) (by decide) ⟨rfl, N97⟩
    refine own_st (fun _ k => XS.icmpNo X95.here hx rfl (hb hby at_164) rfl (flt (by subst hk; decide)).1 k) ?_
    show own_Go p e s below _ _ _ T95 (mkF m 167 #[.val (.int p0), .val (.int p1), .val (.int p2), .val (.int p3), .val (.int p4), .val (.int (1 : Int32)), .val (.int kk), .val (.ref s0), .val (.ref s1), .val (.ref s2), .val (.ref arr), .val (.ref b), .unset, .unset] [])
    obtain rfl : kk = 1 := hk
    show own_Go p e s below _ _ _ T95 (mkF m 167 #[.val (.int p0), .val (.int p1), .val (.int p2), .val (.int p3), .val (.int p4), .val (.int (1 : Int32)), .val (.int (1 : Int32)), .val (.ref s0), .val (.ref s1), .val (.ref s2), .val (.ref arr), .val (.ref b), .unset, .unset] [])
    refine own_st (fun _ k => XS.aload X95.here hx rfl (hb hby at_167) rfl rfl k) ?_
    show own_Go p e s below _ _ _ T95 (mkF m 169 #[.val (.int p0), .val (.int p1), .val (.int p2), .val (.int p3), .val (.int p4), .val (.int (1 : Int32)), .val (.int (1 : Int32)), .val (.ref s0), .val (.ref s1), .val (.ref s2), .val (.ref arr), .val (.ref b), .unset, .unset] [(.ref s0)])
    refine own_st (fun _ k => XS.aload X95.here hx rfl (hb hby at_169) rfl rfl k) ?_
    show own_Go p e s below _ _ _ T95 (mkF m 171 #[.val (.int p0), .val (.int p1), .val (.int p2), .val (.int p3), .val (.int p4), .val (.int (1 : Int32)), .val (.int (1 : Int32)), .val (.ref s0), .val (.ref s1), .val (.ref s2), .val (.ref arr), .val (.ref b), .unset, .unset] [(.ref b), (.ref s0)])
    refine own_callV X95 hx hZ (y := (⟨"com/example/chronotope/chronotope/Arguments", "next", "()Ljava/lang/String;"⟩ : MethodName)) hown (hw _ (List.mem_of_getElem? (i := 53) rfl)) (hw _ (List.mem_of_getElem? (i := 54) rfl)) (hw _ (List.mem_of_getElem? (i := 56) rfl)) (hw _ (List.mem_of_getElem? (i := 55) rfl)) (hw _ (List.mem_of_getElem? (i := 30) rfl)) (hw _ (List.mem_of_getElem? (i := 57) rfl)) (by decide) e95 (rm8 l Z a0 hw [] b dd (0 : Int32) (1 : Int32) k87 [(.ref s0)] s0 T93.heap n0 Z94 F_args_b F_next_b V_dd E_b ne_dd_b g_b ⟨by decide, by decide⟩ rfl) 1 (by decide) (by decide) E_b (g := (mkF m 171 #[.val (.int p0), .val (.int p1), .val (.int p2), .val (.int p3), .val (.int p4), .val (.int (1 : Int32)), .val (.int (1 : Int32)), .val (.ref s0), .val (.ref s1), .val (.ref s2), .val (.ref arr), .val (.ref b), .unset, .unset] [(.ref b), (.ref s0)])) rfl (by rw [hml]; rfl) (argsL := []) (rest := [(.ref s0)]) pd6 rfl rfl rfl (by show 2 * 0 + _ ≤ _; exact Nat.le_of_eq rfl) (hb hby at_171) (by decide) (by decide) ?_
    intro T98 v98 L98 X98 hQ98
    obtain ⟨rfl, N98q, K98q, y98_0, y98_1, y98_2, y98_3⟩ := hQ98
    have N98 := Fr.app N95 N98q
    replace E_s0 := E_s0.keep K98q
    replace E_s1 := E_s1.keep K98q
    replace E_s2 := E_s2.keep K98q
    replace E_b := E_b.keep K98q
    clear F_args_b
    clear F_next_b
    replace V_dd := V_dd.keep K98q (ninS ne_dd_b nin0)
    have Z99 := Nat.le_trans Z94 K98q.1
    have E_b := y98_0
    have F_args_b := y98_1
    have F_next_b := y98_2
    have V_dd := y98_3
    show own_Go p e s below _ _ _ T98 (mkF m 174 #[.val (.int p0), .val (.int p1), .val (.int p2), .val (.int p3), .val (.int p4), .val (.int (1 : Int32)), .val (.int (1 : Int32)), .val (.ref s0), .val (.ref s1), .val (.ref s2), .val (.ref arr), .val (.ref b), .unset, .unset] [(.ref s0), (.ref s0)])
    refine own_callV X98 hx hZ (y := (⟨"java/lang/String", "equals", "(Ljava/lang/Object;)Z"⟩ : MethodName)) hown (hw _ (List.mem_of_getElem? (i := 59) rfl)) (hw _ (List.mem_of_getElem? (i := 60) rfl)) (hw _ (List.mem_of_getElem? (i := 62) rfl)) (hw _ (List.mem_of_getElem? (i := 61) rfl)) (hw _ (List.mem_of_getElem? (i := 2) rfl)) (hw _ (List.mem_of_getElem? (i := 63) rfl)) (by decide) rfl (rm9 l Z a0 hw [] s0 T98.heap n0 Z99) 0 (by decide) (by decide) E_s0 (g := (mkF m 174 #[.val (.int p0), .val (.int p1), .val (.int p2), .val (.int p3), .val (.int p4), .val (.int (1 : Int32)), .val (.int (1 : Int32)), .val (.ref s0), .val (.ref s1), .val (.ref s2), .val (.ref arr), .val (.ref b), .unset, .unset] [(.ref s0), (.ref s0)])) rfl (by rw [hml]; rfl) (argsL := [(.ref s0)]) (rest := []) pd7 rfl rfl rfl (by show 2 * 0 + _ ≤ _; exact Nat.le_of_eq rfl) (hb hby at_174) (by decide) (by decide) ?_
    intro T100 v100 L100 X100 hQ100
    obtain ⟨rfl, N100q, e100⟩ := hQ100
    have N100 := Fr.app N98 N100q
    show own_Go p e s below _ _ _ T100 (mkF m 177 #[.val (.int p0), .val (.int p1), .val (.int p2), .val (.int p3), .val (.int p4), .val (.int (1 : Int32)), .val (.int (1 : Int32)), .val (.ref s0), .val (.ref s1), .val (.ref s2), .val (.ref arr), .val (.ref b), .unset, .unset] [(.int (1 : Int32))])
    refine own_st (fun _ k => XS.ifYes X100.here hx rfl (pc0 := 177) (pc' := 182) rfl (hb hby at_177) rfl (by decide) (by decide) (by decide) k) ?_
    show own_Go p e s below _ _ _ T100 (mkF m 182 #[.val (.int p0), .val (.int p1), .val (.int p2), .val (.int p3), .val (.int p4), .val (.int (1 : Int32)), .val (.int (1 : Int32)), .val (.ref s0), .val (.ref s1), .val (.ref s2), .val (.ref arr), .val (.ref b), .unset, .unset] [])
    refine own_st (fun _ k => XS.aload X100.here hx rfl (hb hby at_182) rfl rfl k) ?_
    show own_Go p e s below _ _ _ T100 (mkF m 184 #[.val (.int p0), .val (.int p1), .val (.int p2), .val (.int p3), .val (.int p4), .val (.int (1 : Int32)), .val (.int (1 : Int32)), .val (.ref s0), .val (.ref s1), .val (.ref s2), .val (.ref arr), .val (.ref b), .unset, .unset] [(.ref b)])
    refine own_callV X100 hx hZ (y := (⟨"com/example/chronotope/chronotope/Arguments", "hasNext", "()Z"⟩ : MethodName)) hown (hw _ (List.mem_of_getElem? (i := 46) rfl)) (hw _ (List.mem_of_getElem? (i := 47) rfl)) (hw _ (List.mem_of_getElem? (i := 49) rfl)) (hw _ (List.mem_of_getElem? (i := 48) rfl)) (hw _ (List.mem_of_getElem? (i := 30) rfl)) (hw _ (List.mem_of_getElem? (i := 50) rfl)) (by decide) e100 (rm7 l Z a0 hw [] b dd ((0 : Int32) + (1 : Int32)) (1 : Int32) k87 [(.ref s0)] T98.heap n0 Z99 F_args_b F_next_b V_dd) 0 (by decide) (by decide) E_b (g := (mkF m 184 #[.val (.int p0), .val (.int p1), .val (.int p2), .val (.int p3), .val (.int p4), .val (.int (1 : Int32)), .val (.int (1 : Int32)), .val (.ref s0), .val (.ref s1), .val (.ref s2), .val (.ref arr), .val (.ref b), .unset, .unset] [(.ref b)])) rfl (by rw [hml]; rfl) (argsL := []) (rest := []) pd5 rfl rfl rfl (by show 2 * 0 + _ ≤ _; exact Nat.le_of_eq rfl) (hb hby at_184) (by decide) (by decide) ?_
    intro T101 v101 L101 X101 hQ101
    obtain ⟨rfl, N101q, e101⟩ := hQ101
    have N101 := Fr.app N100 N101q
    show own_Go p e s below _ _ _ T101 (mkF m 187 #[.val (.int p0), .val (.int p1), .val (.int p2), .val (.int p3), .val (.int p4), .val (.int (1 : Int32)), .val (.int (1 : Int32)), .val (.ref s0), .val (.ref s1), .val (.ref s2), .val (.ref arr), .val (.ref b), .unset, .unset] [(.int (own_b (((0 : Int32) + (1 : Int32)) < (1 : Int32))))])
    refine own_st (fun _ k => XS.iconst X101.here hx rfl (hb hby at_187) k) ?_
    show own_Go p e s below _ _ _ T101 (mkF m 188 #[.val (.int p0), .val (.int p1), .val (.int p2), .val (.int p3), .val (.int p4), .val (.int (1 : Int32)), .val (.int (1 : Int32)), .val (.ref s0), .val (.ref s1), .val (.ref s2), .val (.ref arr), .val (.ref b), .unset, .unset] [(.int (1 : Int32)), (.int (own_b (((0 : Int32) + (1 : Int32)) < (1 : Int32))))])
    refine own_st (fun _ k => XS.iload X101.here hx rfl (hb hby at_188) rfl k) ?_
    show own_Go p e s below _ _ _ T101 (mkF m 190 #[.val (.int p0), .val (.int p1), .val (.int p2), .val (.int p3), .val (.int p4), .val (.int (1 : Int32)), .val (.int (1 : Int32)), .val (.ref s0), .val (.ref s1), .val (.ref s2), .val (.ref arr), .val (.ref b), .unset, .unset] [(.int (1 : Int32)), (.int (1 : Int32)), (.int (own_b (((0 : Int32) + (1 : Int32)) < (1 : Int32))))])
    refine own_st (fun _ k => XS.icmpYes X101.here hx rfl (pc0 := 190) (pc' := 197) rfl (hb hby at_190) rfl (by decide) (by decide) (by decide) k) ?_
    show own_Go p e s below _ _ _ T101 (mkF m 197 #[.val (.int p0), .val (.int p1), .val (.int p2), .val (.int p3), .val (.int p4), .val (.int (1 : Int32)), .val (.int (1 : Int32)), .val (.ref s0), .val (.ref s1), .val (.ref s2), .val (.ref arr), .val (.ref b), .unset, .unset] [(.int (own_b (((0 : Int32) + (1 : Int32)) < (1 : Int32))))])
    refine own_st (fun _ k => XS.iconst X101.here hx rfl (hb hby at_197) k) ?_
    show own_Go p e s below _ _ _ T101 (mkF m 198 #[.val (.int p0), .val (.int p1), .val (.int p2), .val (.int p3), .val (.int p4), .val (.int (1 : Int32)), .val (.int (1 : Int32)), .val (.ref s0), .val (.ref s1), .val (.ref s2), .val (.ref arr), .val (.ref b), .unset, .unset] [(.int (0 : Int32)), (.int (own_b (((0 : Int32) + (1 : Int32)) < (1 : Int32))))])
    refine own_st (fun _ k => XS.icmpYes X101.here hx rfl (pc0 := 198) (pc' := 203) rfl (hb hby at_198) rfl (teq (own_bf (by decide))).1 (by decide) (by decide) k) ?_
    show own_Go p e s below _ _ _ T101 (mkF m 203 #[.val (.int p0), .val (.int p1), .val (.int p2), .val (.int p3), .val (.int p4), .val (.int (1 : Int32)), .val (.int (1 : Int32)), .val (.ref s0), .val (.ref s1), .val (.ref s2), .val (.ref arr), .val (.ref b), .unset, .unset] [])
    refine own_st (fun _ k => XS.iload X101.here hx rfl (hb hby at_203) rfl k) ?_
    show own_Go p e s below _ _ _ T101 (mkF m 205 #[.val (.int p0), .val (.int p1), .val (.int p2), .val (.int p3), .val (.int p4), .val (.int (1 : Int32)), .val (.int (1 : Int32)), .val (.ref s0), .val (.ref s1), .val (.ref s2), .val (.ref arr), .val (.ref b), .unset, .unset] [(.int (1 : Int32))])
    refine own_st (fun _ k => XS.iconst X101.here hx rfl (hb hby at_205) k) ?_
    show own_Go p e s below _ _ _ T101 (mkF m 206 #[.val (.int p0), .val (.int p1), .val (.int p2), .val (.int p3), .val (.int p4), .val (.int (1 : Int32)), .val (.int (1 : Int32)), .val (.ref s0), .val (.ref s1), .val (.ref s2), .val (.ref arr), .val (.ref b), .unset, .unset] [(.int (2 : Int32)), (.int (1 : Int32))])
    refine own_st (fun _ k => XS.icmpYes X101.here hx rfl (pc0 := 206) (pc' := 245) rfl (hb hby at_206) rfl (by decide) (by decide) (by decide) k) ?_
    show own_Go p e s below _ _ _ T101 (mkF m 245 #[.val (.int p0), .val (.int p1), .val (.int p2), .val (.int p3), .val (.int p4), .val (.int (1 : Int32)), .val (.int (1 : Int32)), .val (.ref s0), .val (.ref s1), .val (.ref s2), .val (.ref arr), .val (.ref b), .unset, .unset] [])
    refine own_st (fun _ k => XS.iload X101.here hx rfl (hb hby at_245) rfl k) ?_
    show own_Go p e s below _ _ _ T101 (mkF m 247 #[.val (.int p0), .val (.int p1), .val (.int p2), .val (.int p3), .val (.int p4), .val (.int (1 : Int32)), .val (.int (1 : Int32)), .val (.ref s0), .val (.ref s1), .val (.ref s2), .val (.ref arr), .val (.ref b), .unset, .unset] [(.int (1 : Int32))])
    refine own_st (fun _ k => XS.iconst X101.here hx rfl (hb hby at_247) k) ?_
    show own_Go p e s below _ _ _ T101 (mkF m 248 #[.val (.int p0), .val (.int p1), .val (.int p2), .val (.int p3), .val (.int p4), .val (.int (1 : Int32)), .val (.int (1 : Int32)), .val (.ref s0), .val (.ref s1), .val (.ref s2), .val (.ref arr), .val (.ref b), .unset, .unset] [(.int (3 : Int32)), (.int (1 : Int32))])
    refine own_st (fun _ k => XS.icmpYes X101.here hx rfl (pc0 := 248) (pc' := 287) rfl (hb hby at_248) rfl (by decide) (by decide) (by decide) k) ?_
    show own_Go p e s below _ _ _ T101 (mkF m 287 #[.val (.int p0), .val (.int p1), .val (.int p2), .val (.int p3), .val (.int p4), .val (.int (1 : Int32)), .val (.int (1 : Int32)), .val (.ref s0), .val (.ref s1), .val (.ref s2), .val (.ref arr), .val (.ref b), .unset, .unset] [])
    refine own_st (fun _ k => XS.aload X101.here hx rfl (hb hby at_287) rfl rfl k) ?_
    show own_Go p e s below _ _ _ T101 (mkF m 289 #[.val (.int p0), .val (.int p1), .val (.int p2), .val (.int p3), .val (.int p4), .val (.int (1 : Int32)), .val (.int (1 : Int32)), .val (.ref s0), .val (.ref s1), .val (.ref s2), .val (.ref arr), .val (.ref b), .unset, .unset] [(.ref b)])
    refine own_callV X101 hx hZ (y := (⟨"com/example/chronotope/chronotope/Arguments", "hasNext", "()Z"⟩ : MethodName)) hown (hw _ (List.mem_of_getElem? (i := 46) rfl)) (hw _ (List.mem_of_getElem? (i := 47) rfl)) (hw _ (List.mem_of_getElem? (i := 49) rfl)) (hw _ (List.mem_of_getElem? (i := 48) rfl)) (hw _ (List.mem_of_getElem? (i := 30) rfl)) (hw _ (List.mem_of_getElem? (i := 50) rfl)) (by decide) e101 (rm7 l Z a0 hw [] b dd ((0 : Int32) + (1 : Int32)) (1 : Int32) k87 [(.ref s0)] T98.heap n0 Z99 F_args_b F_next_b V_dd) 0 (by decide) (by decide) E_b (g := (mkF m 289 #[.val (.int p0), .val (.int p1), .val (.int p2), .val (.int p3), .val (.int p4), .val (.int (1 : Int32)), .val (.int (1 : Int32)), .val (.ref s0), .val (.ref s1), .val (.ref s2), .val (.ref arr), .val (.ref b), .unset, .unset] [(.ref b)])) rfl (by rw [hml]; rfl) (argsL := []) (rest := []) pd5 rfl rfl rfl (by show 2 * 0 + _ ≤ _; exact Nat.le_of_eq rfl) (hb hby at_289) (by decide) (by decide) ?_
    intro T102 v102 L102 X102 hQ102
    obtain ⟨rfl, N102q, e102⟩ := hQ102
    have N102 := Fr.app N101 N102q
    show own_Go p e s below _ _ _ T102 (mkF m 292 #[.val (.int p0), .val (.int p1), .val (.int p2), .val (.int p3), .val (.int p4), .val (.int (1 : Int32)), .val (.int (1 : Int32)), .val (.ref s0), .val (.ref s1), .val (.ref s2), .val (.ref arr), .val (.ref b), .unset, .unset] [(.int (own_b (((0 : Int32) + (1 : Int32)) < (1 : Int32))))])
    refine own_st (fun _ k => XS.istore X102.here hx rfl (hb hby at_292) rfl (l' := #[.val (.int p0), .val (.int p1), .val (.int p2), .val (.int p3), .val (.int p4), .val (.int (1 : Int32)), .val (.int (1 : Int32)), .val (.ref s0), .val (.ref s1), .val (.ref s2), .val (.ref arr), .val (.ref b), .val (.int (own_b (((0 : Int32) + (1 : Int32)) < (1 : Int32)))), .unset]) rfl k) ?_
    show own_Go p e s below _ _ _ T102 (mkF m 294 #[.val (.int p0), .val (.int p1), .val (.int p2), .val (.int p3), .val (.int p4), .val (.int (1 : Int32)), .val (.int (1 : Int32)), .val (.ref s0), .val (.ref s1), .val (.ref s2), .val (.ref arr), .val (.ref b), .val (.int (own_b (((0 : Int32) + (1 : Int32)) < (1 : Int32)))), .unset] [])
    refine own_st (fun _ k => XS.aload X102.here hx rfl (hb hby at_294) rfl rfl k) ?_
    show own_Go p e s below _ _ _ T102 (mkF m 296 #[.val (.int p0), .val (.int p1), .val (.int p2), .val (.int p3), .val (.int p4), .val (.int (1 : Int32)), .val (.int (1 : Int32)), .val (.ref s0), .val (.ref s1), .val (.ref s2), .val (.ref arr), .val (.ref b), .val (.int (own_b (((0 : Int32) + (1 : Int32)) < (1 : Int32)))), .unset] [(.ref b)])
    refine own_callV X102 hx hZ (y := (⟨"com/example/chronotope/chronotope/Arguments", "hasNext", "()Z"⟩ : MethodName)) hown (hw _ (List.mem_of_getElem? (i := 46) rfl)) (hw _ (List.mem_of_getElem? (i := 47) rfl)) (hw _ (List.mem_of_getElem? (i := 49) rfl)) (hw _ (List.mem_of_getElem? (i := 48) rfl)) (hw _ (List.mem_of_getElem? (i := 30) rfl)) (hw _ (List.mem_of_getElem? (i := 50) rfl)) (by decide) e102 (rm7 l Z a0 hw [] b dd ((0 : Int32) + (1 : Int32)) (1 : Int32) k87 [(.ref s0)] T98.heap n0 Z99 F_args_b F_next_b V_dd) 0 (by decide) (by decide) E_b (g := (mkF m 296 #[.val (.int p0), .val (.int p1), .val (.int p2), .val (.int p3), .val (.int p4), .val (.int (1 : Int32)), .val (.int (1 : Int32)), .val (.ref s0), .val (.ref s1), .val (.ref s2), .val (.ref arr), .val (.ref b), .val (.int (own_b (((0 : Int32) + (1 : Int32)) < (1 : Int32)))), .unset] [(.ref b)])) rfl (by rw [hml]; rfl) (argsL := []) (rest := []) pd5 rfl rfl rfl (by show 2 * 0 + _ ≤ _; exact Nat.le_of_eq rfl) (hb hby at_296) (by decide) (by decide) ?_
    intro T103 v103 L103 X103 hQ103
    obtain ⟨rfl, N103q, e103⟩ := hQ103
    have N103 := Fr.app N102 N103q
    show own_Go p e s below _ _ _ T103 (mkF m 299 #[.val (.int p0), .val (.int p1), .val (.int p2), .val (.int p3), .val (.int p4), .val (.int (1 : Int32)), .val (.int (1 : Int32)), .val (.ref s0), .val (.ref s1), .val (.ref s2), .val (.ref arr), .val (.ref b), .val (.int (own_b (((0 : Int32) + (1 : Int32)) < (1 : Int32)))), .unset] [(.int (own_b (((0 : Int32) + (1 : Int32)) < (1 : Int32))))])
    refine own_st (fun _ k => XS.istore X103.here hx rfl (hb hby at_299) rfl (l' := #[.val (.int p0), .val (.int p1), .val (.int p2), .val (.int p3), .val (.int p4), .val (.int (1 : Int32)), .val (.int (1 : Int32)), .val (.ref s0), .val (.ref s1), .val (.ref s2), .val (.ref arr), .val (.ref b), .val (.int (own_b (((0 : Int32) + (1 : Int32)) < (1 : Int32)))), .val (.int (own_b (((0 : Int32) + (1 : Int32)) < (1 : Int32))))]) rfl k) ?_
    show own_Go p e s below _ _ _ T103 (mkF m 301 #[.val (.int p0), .val (.int p1), .val (.int p2), .val (.int p3), .val (.int p4), .val (.int (1 : Int32)), .val (.int (1 : Int32)), .val (.ref s0), .val (.ref s1), .val (.ref s2), .val (.ref arr), .val (.ref b), .val (.int (own_b (((0 : Int32) + (1 : Int32)) < (1 : Int32)))), .val (.int (own_b (((0 : Int32) + (1 : Int32)) < (1 : Int32))))] [])
    refine own_st (fun _ k => XS.iload X103.here hx rfl (hb hby at_301) rfl k) ?_
    show own_Go p e s below _ _ _ T103 (mkF m 303 #[.val (.int p0), .val (.int p1), .val (.int p2), .val (.int p3), .val (.int p4), .val (.int (1 : Int32)), .val (.int (1 : Int32)), .val (.ref s0), .val (.ref s1), .val (.ref s2), .val (.ref arr), .val (.ref b), .val (.int (own_b (((0 : Int32) + (1 : Int32)) < (1 : Int32)))), .val (.int (own_b (((0 : Int32) + (1 : Int32)) < (1 : Int32))))] [(.int (own_b (((0 : Int32) + (1 : Int32)) < (1 : Int32))))])
    refine own_st (fun _ k => XS.iload X103.here hx rfl (hb hby at_303) rfl k) ?_
    show own_Go p e s below _ _ _ T103 (mkF m 305 #[.val (.int p0), .val (.int p1), .val (.int p2), .val (.int p3), .val (.int p4), .val (.int (1 : Int32)), .val (.int (1 : Int32)), .val (.ref s0), .val (.ref s1), .val (.ref s2), .val (.ref arr), .val (.ref b), .val (.int (own_b (((0 : Int32) + (1 : Int32)) < (1 : Int32)))), .val (.int (own_b (((0 : Int32) + (1 : Int32)) < (1 : Int32))))] [(.int (1 : Int32)), (.int (own_b (((0 : Int32) + (1 : Int32)) < (1 : Int32))))])
    refine own_st (fun _ k => XS.iload X103.here hx rfl (hb hby at_305) rfl k) ?_
    show own_Go p e s below _ _ _ T103 (mkF m 307 #[.val (.int p0), .val (.int p1), .val (.int p2), .val (.int p3), .val (.int p4), .val (.int (1 : Int32)), .val (.int (1 : Int32)), .val (.ref s0), .val (.ref s1), .val (.ref s2), .val (.ref arr), .val (.ref b), .val (.int (own_b (((0 : Int32) + (1 : Int32)) < (1 : Int32)))), .val (.int (own_b (((0 : Int32) + (1 : Int32)) < (1 : Int32))))] [(.int (1 : Int32)), (.int (1 : Int32)), (.int (own_b (((0 : Int32) + (1 : Int32)) < (1 : Int32))))])
    refine own_st (fun _ k => XS.icmpYes X103.here hx rfl (pc0 := 307) (pc' := 314) rfl (hb hby at_307) rfl (by decide) (by decide) (by decide) k) ?_
    show own_Go p e s below _ _ _ T103 (mkF m 314 #[.val (.int p0), .val (.int p1), .val (.int p2), .val (.int p3), .val (.int p4), .val (.int (1 : Int32)), .val (.int (1 : Int32)), .val (.ref s0), .val (.ref s1), .val (.ref s2), .val (.ref arr), .val (.ref b), .val (.int (own_b (((0 : Int32) + (1 : Int32)) < (1 : Int32)))), .val (.int (own_b (((0 : Int32) + (1 : Int32)) < (1 : Int32))))] [(.int (own_b (((0 : Int32) + (1 : Int32)) < (1 : Int32))))])
    refine own_st (fun _ k => XS.iconst X103.here hx rfl (hb hby at_314) k) ?_
    show own_Go p e s below _ _ _ T103 (mkF m 315 #[.val (.int p0), .val (.int p1), .val (.int p2), .val (.int p3), .val (.int p4), .val (.int (1 : Int32)), .val (.int (1 : Int32)), .val (.ref s0), .val (.ref s1), .val (.ref s2), .val (.ref arr), .val (.ref b), .val (.int (own_b (((0 : Int32) + (1 : Int32)) < (1 : Int32)))), .val (.int (own_b (((0 : Int32) + (1 : Int32)) < (1 : Int32))))] [(.int (0 : Int32)), (.int (own_b (((0 : Int32) + (1 : Int32)) < (1 : Int32))))])
    refine own_st (fun _ k => XS.icmpNo X103.here hx rfl (hb hby at_315) rfl (teq (own_bf (by decide))).2 k) ?_
    show own_Go p e s below _ _ _ T103 (mkF m 318 #[.val (.int p0), .val (.int p1), .val (.int p2), .val (.int p3), .val (.int p4), .val (.int (1 : Int32)), .val (.int (1 : Int32)), .val (.ref s0), .val (.ref s1), .val (.ref s2), .val (.ref arr), .val (.ref b), .val (.int (own_b (((0 : Int32) + (1 : Int32)) < (1 : Int32)))), .val (.int (own_b (((0 : Int32) + (1 : Int32)) < (1 : Int32))))] [])
    refine own_st (fun _ k => XS.iload X103.here hx rfl (hb hby at_318) rfl k) ?_
    show own_Go p e s below _ _ _ T103 (mkF m 320 #[.val (.int p0), .val (.int p1), .val (.int p2), .val (.int p3), .val (.int p4), .val (.int (1 : Int32)), .val (.int (1 : Int32)), .val (.ref s0), .val (.ref s1), .val (.ref s2), .val (.ref arr), .val (.ref b), .val (.int (own_b (((0 : Int32) + (1 : Int32)) < (1 : Int32)))), .val (.int (own_b (((0 : Int32) + (1 : Int32)) < (1 : Int32))))] [(.int (own_b (((0 : Int32) + (1 : Int32)) < (1 : Int32))))])
    refine own_st (fun _ k => XS.iload X103.here hx rfl (hb hby at_320) rfl k) ?_
    show own_Go p e s below _ _ _ T103 (mkF m 322 #[.val (.int p0), .val (.int p1), .val (.int p2), .val (.int p3), .val (.int p4), .val (.int (1 : Int32)), .val (.int (1 : Int32)), .val (.ref s0), .val (.ref s1), .val (.ref s2), .val (.ref arr), .val (.ref b), .val (.int (own_b (((0 : Int32) + (1 : Int32)) < (1 : Int32)))), .val (.int (own_b (((0 : Int32) + (1 : Int32)) < (1 : Int32))))] [(.int (own_b (((0 : Int32) + (1 : Int32)) < (1 : Int32)))), (.int (own_b (((0 : Int32) + (1 : Int32)) < (1 : Int32))))])
    refine own_st (fun _ k => XS.icmpNo X103.here hx rfl (hb hby at_322) rfl (teq rfl).2 k) ?_
    show own_Go p e s below _ _ _ T103 (mkF m 325 #[.val (.int p0), .val (.int p1), .val (.int p2), .val (.int p3), .val (.int p4), .val (.int (1 : Int32)), .val (.int (1 : Int32)), .val (.ref s0), .val (.ref s1), .val (.ref s2), .val (.ref arr), .val (.ref b), .val (.int (own_b (((0 : Int32) + (1 : Int32)) < (1 : Int32)))), .val (.int (own_b (((0 : Int32) + (1 : Int32)) < (1 : Int32))))] [])
    refine own_st (fun _ k => XS.iconst X103.here hx rfl (hb hby at_325) k) ?_
    show own_Go p e s below _ _ _ T103 (mkF m 326 #[.val (.int p0), .val (.int p1), .val (.int p2), .val (.int p3), .val (.int p4), .val (.int (1 : Int32)), .val (.int (1 : Int32)), .val (.ref s0), .val (.ref s1), .val (.ref s2), .val (.ref arr), .val (.ref b), .val (.int (own_b (((0 : Int32) + (1 : Int32)) < (1 : Int32)))), .val (.int (own_b (((0 : Int32) + (1 : Int32)) < (1 : Int32))))] [(.int (1 : Int32))])
    refine own_st (fun _ k => XS.goto X103.here hx rfl (pc0 := 326) (pc' := 330) rfl (hb hby at_326) (by decide) (by decide) k) ?_
    show own_Go p e s below _ _ _ T103 (mkF m 330 #[.val (.int p0), .val (.int p1), .val (.int p2), .val (.int p3), .val (.int p4), .val (.int (1 : Int32)), .val (.int (1 : Int32)), .val (.ref s0), .val (.ref s1), .val (.ref s2), .val (.ref arr), .val (.ref b), .val (.int (own_b (((0 : Int32) + (1 : Int32)) < (1 : Int32)))), .val (.int (own_b (((0 : Int32) + (1 : Int32)) < (1 : Int32))))] [(.int (1 : Int32))])
    exact own_retN X103 hx hlk (t := .boolean) hret (by simp) (hb hby at_330) (z' := (1 : Int32)) rfl (by decide) (by decide) ⟨rfl, N103⟩
  · show own_Go p e s below _ _ _ T0 (mkF m 3 #[.val (.int p0), .val (.int p1), .val (.int p2), .val (.int p3), .val (.int p4), .unset, .unset, .unset, .unset, .unset, .unset, .unset, .unset, .unset] [(.int (2 : Int32))])
    refine own_st (fun _ k => XS.istore X0.here hx rfl (hb hby at_3) rfl (l' := #[.val (.int p0), .val (.int p1), .val (.int p2), .val (.int p3), .val (.int p4), .val (.int (2 : Int32)), .unset, .unset, .unset, .unset, .unset, .unset, .unset, .unset]) rfl k) ?_
    show own_Go p e s below _ _ _ T0 (mkF m 5 #[.val (.int p0), .val (.int p1), .val (.int p2), .val (.int p3), .val (.int p4), .val (.int (2 : Int32)), .unset, .unset, .unset, .unset, .unset, .unset, .unset, .unset] [])
    refine own_st (fun _ k => XS.iloadN X0.here hx rfl (hb hby at_5) rfl k) ?_
    show own_Go p e s below _ _ _ T0 (mkF m 6 #[.val (.int p0), .val (.int p1), .val (.int p2), .val (.int p3), .val (.int p4), .val (.int (2 : Int32)), .unset, .unset, .unset, .unset, .unset, .unset, .unset, .unset] [(.int p1)])
    refine own_st (fun _ k => XS.iconst X0.here hx rfl (hb hby at_6) k) ?_
    show own_Go p e s below _ _ _ T0 (mkF m 7 #[.val (.int p0), .val (.int p1), .val (.int p2), .val (.int p3), .val (.int p4), .val (.int (2 : Int32)), .unset, .unset, .unset, .unset, .unset, .unset, .unset, .unset] [(.int (3 : Int32)), (.int p1)])
    refine own_st (fun _ k => XS.iand X0.here hx rfl (hb hby at_7) rfl k) ?_
    show own_Go p e s below _ _ _ T0 (mkF m 8 #[.val (.int p0), .val (.int p1), .val (.int p2), .val (.int p3), .val (.int p4), .val (.int (2 : Int32)), .unset, .unset, .unset, .unset, .unset, .unset, .unset, .unset] [(.int (p1 &&& (3 : Int32)))])
    refine own_st (fun _ k => XS.iload X0.here hx rfl (hb hby at_8) rfl k) ?_
    show own_Go p e s below _ _ _ T0 (mkF m 10 #[.val (.int p0), .val (.int p1), .val (.int p2), .val (.int p3), .val (.int p4), .val (.int (2 : Int32)), .unset, .unset, .unset, .unset, .unset, .unset, .unset, .unset] [(.int (2 : Int32)), (.int (p1 &&& (3 : Int32)))])
    refine own_st (fun _ k => XS.iconst X0.here hx rfl (hb hby at_10) k) ?_
    show own_Go p e s below _ _ _ T0 (mkF m 11 #[.val (.int p0), .val (.int p1), .val (.int p2), .val (.int p3), .val (.int p4), .val (.int (2 : Int32)), .unset, .unset, .unset, .unset, .unset, .unset, .unset, .unset] [(.int (1 : Int32)), (.int (2 : Int32)), (.int (p1 &&& (3 : Int32)))])
    refine own_st (fun _ k => XS.iadd X0.here hx rfl (hb hby at_11) rfl k) ?_
    show own_Go p e s below _ _ _ T0 (mkF m 12 #[.val (.int p0), .val (.int p1), .val (.int p2), .val (.int p3), .val (.int p4), .val (.int (2 : Int32)), .unset, .unset, .unset, .unset, .unset, .unset, .unset, .unset] [(.int (3 : Int32)), (.int (p1 &&& (3 : Int32)))])
    refine own_st (fun _ k => Jvm.RoadKit.iremM X0 hx rfl (hb hby at_12) rfl (by decide) k) ?_
    show own_Go p e s below _ _ _ T0 (mkF m 13 #[.val (.int p0), .val (.int p1), .val (.int p2), .val (.int p3), .val (.int p4), .val (.int (2 : Int32)), .unset, .unset, .unset, .unset, .unset, .unset, .unset, .unset] [(.int ((p1 &&& (3 : Int32)) % (3 : Int32)))])
    have hk := own_k2 p1
    generalize ((p1 &&& (3 : Int32)) % (3 : Int32)) = kk at hk ⊢
    show own_Go p e s below _ _ _ T0 (mkF m 13 #[.val (.int p0), .val (.int p1), .val (.int p2), .val (.int p3), .val (.int p4), .val (.int (2 : Int32)), .unset, .unset, .unset, .unset, .unset, .unset, .unset, .unset] [(.int kk)])
    refine own_st (fun _ k => XS.istore X0.here hx rfl (hb hby at_13) rfl (l' := #[.val (.int p0), .val (.int p1), .val (.int p2), .val (.int p3), .val (.int p4), .val (.int (2 : Int32)), .val (.int kk), .unset, .unset, .unset, .unset, .unset, .unset, .unset]) rfl k) ?_
    show own_Go p e s below _ _ _ T0 (mkF m 15 #[.val (.int p0), .val (.int p1), .val (.int p2), .val (.int p3), .val (.int p4), .val (.int (2 : Int32)), .val (.int kk), .unset, .unset, .unset, .unset, .unset, .unset, .unset] [])
    refine own_st (fun _ k => XS.iloadN X0.here hx rfl (hb hby at_15) rfl k) ?_
    show own_Go p e s below _ _ _ T0 (mkF m 16 #[.val (.int p0), .val (.int p1), .val (.int p2), .val (.int p3), .val (.int p4), .val (.int (2 : Int32)), .val (.int kk), .unset, .unset, .unset, .unset, .unset, .unset, .unset] [(.int p2)])
    refine own_st (fun _ k => XS.sipush X0.here hx rfl (hb hby at_16) k) ?_
    show own_Go p e s below _ _ _ T0 (mkF m 19 #[.val (.int p0), .val (.int p1), .val (.int p2), .val (.int p3), .val (.int p4), .val (.int (2 : Int32)), .val (.int kk), .unset, .unset, .unset, .unset, .unset, .unset, .unset] [(.int (255 : Int32)), (.int p2)])
    refine own_st (fun _ k => XS.iand X0.here hx rfl (hb hby at_19) rfl k) ?_
    show own_Go p e s below _ _ _ T0 (mkF m 20 #[.val (.int p0), .val (.int p1), .val (.int p2), .val (.int p3), .val (.int p4), .val (.int (2 : Int32)), .val (.int kk), .unset, .unset, .unset, .unset, .unset, .unset, .unset] [(.int (p2 &&& (255 : Int32)))])
    refine own_st (fun _ k => XS.i2c X0.here hx rfl (hb hby at_20) rfl k) ?_
    show own_Go p e s below _ _ _ T0 (mkF m 21 #[.val (.int p0), .val (.int p1), .val (.int p2), .val (.int p3), .val (.int p4), .val (.int (2 : Int32)), .val (.int kk), .unset, .unset, .unset, .unset, .unset, .unset, .unset] [(.int ((p2 &&& (255 : Int32)).toUInt32.toUInt16.toUInt32.toInt32))])
    refine own_callS X0 hx hZ (y := (⟨"java/lang/String", "valueOf", "(C)Ljava/lang/String;"⟩ : MethodName)) hown (hw _ (List.mem_of_getElem? (i := 0) rfl)) (hw _ (List.mem_of_getElem? (i := 1) rfl)) (hw _ (List.mem_of_getElem? (i := 2) rfl)) (hw _ (List.mem_of_getElem? (i := 3) rfl)) (by decide) e0 (rm1 l Z a0 hw [] ((p2 &&& (255 : Int32)).toUInt32.toUInt16.toUInt32.toInt32) cs h0 n0 Z0 S_cs hcs (own_ch _)) 0 (by decide) (by decide) (g := (mkF m 21 #[.val (.int p0), .val (.int p1), .val (.int p2), .val (.int p3), .val (.int p4), .val (.int (2 : Int32)), .val (.int kk), .unset, .unset, .unset, .unset, .unset, .unset, .unset] [(.int ((p2 &&& (255 : Int32)).toUInt32.toUInt16.toUInt32.toInt32))])) rfl (by rw [hml]; rfl) (argsL := [(.int ((p2 &&& (255 : Int32)).toUInt32.toUInt16.toUInt32.toInt32))]) (rest := []) pd0 rfl rfl rfl (by show 2 * 0 + _ ≤ _; exact Nat.le_of_eq rfl) (hb hby at_21) (by decide) (by decide) ?_
    intro T104 v104 L104 X104 hQ104
    obtain ⟨s0, rfl, N104q, K104q, sf_s0, y104_0⟩ := hQ104
    have N104 := Fr.app N0 N104q
    have g_s0 := Nat.le_trans Z0 sf_s0
    have Z105 := Nat.le_trans Z0 K104q.1
    have E_s0 := y104_0
    show own_Go p e s below _ _ _ T104 (mkF m 24 #[.val (.int p0), .val (.int p1), .val (.int p2), .val (.int p3), .val (.int p4), .val (.int (2 : Int32)), .val (.int kk), .unset, .unset, .unset, .unset, .unset, .unset, .unset] [(.ref s0)])
    replace S_cs := own_StaK S_cs K104q
    refine own_st (fun _ k => XS.astore X104.here hx rfl (hb hby at_24) rfl rfl (l' := #[.val (.int p0), .val (.int p1), .val (.int p2), .val (.int p3), .val (.int p4), .val (.int (2 : Int32)), .val (.int kk), .val (.ref s0), .unset, .unset, .unset, .unset, .unset, .unset]) rfl k) ?_
    show own_Go p e s below _ _ _ T104 (mkF m 26 #[.val (.int p0), .val (.int p1), .val (.int p2), .val (.int p3), .val (.int p4), .val (.int (2 : Int32)), .val (.int kk), .val (.ref s0), .unset, .unset, .unset, .unset, .unset, .unset] [])
    refine own_st (fun _ k => XS.iloadN X104.here hx rfl (hb hby at_26) rfl k) ?_
    show own_Go p e s below _ _ _ T104 (mkF m 27 #[.val (.int p0), .val (.int p1), .val (.int p2), .val (.int p3), .val (.int p4), .val (.int (2 : Int32)), .val (.int kk), .val (.ref s0), .unset, .unset, .unset, .unset, .unset, .unset] [(.int p3)])
    refine own_st (fun _ k => XS.sipush X104.here hx rfl (hb hby at_27) k) ?_
    show own_Go p e s below _ _ _ T104 (mkF m 30 #[.val (.int p0), .val (.int p1), .val (.int p2), .val (.int p3), .val (.int p4), .val (.int (2 : Int32)), .val (.int kk), .val (.ref s0), .unset, .unset, .unset, .unset, .unset, .unset] [(.int (255 : Int32)), (.int p3)])
    refine own_st (fun _ k => XS.iand X104.here hx rfl (hb hby at_30) rfl k) ?_
    show own_Go p e s below _ _ _ T104 (mkF m 31 #[.val (.int p0), .val (.int p1), .val (.int p2), .val (.int p3), .val (.int p4), .val (.int (2 : Int32)), .val (.int kk), .val (.ref s0), .unset, .unset, .unset, .unset, .unset, .unset] [(.int (p3 &&& (255 : Int32)))])
    refine own_st (fun _ k => XS.i2c X104.here hx rfl (hb hby at_31) rfl k) ?_
    show own_Go p e s below _ _ _ T104 (mkF m 32 #[.val (.int p0), .val (.int p1), .val (.int p2), .val (.int p3), .val (.int p4), .val (.int (2 : Int32)), .val (.int kk), .val (.ref s0), .unset, .unset, .unset, .unset, .unset, .unset] [(.int ((p3 &&& (255 : Int32)).toUInt32.toUInt16.toUInt32.toInt32))])
    refine own_callS X104 hx hZ (y := (⟨"java/lang/String", "valueOf", "(C)Ljava/lang/String;"⟩ : MethodName)) hown (hw _ (List.mem_of_getElem? (i := 0) rfl)) (hw _ (List.mem_of_getElem? (i := 1) rfl)) (hw _ (List.mem_of_getElem? (i := 2) rfl)) (hw _ (List.mem_of_getElem? (i := 3) rfl)) (by decide) rfl (rm1 l Z a0 hw [] ((p3 &&& (255 : Int32)).toUInt32.toUInt16.toUInt32.toInt32) cs T104.heap n0 Z105 S_cs hcs (own_ch _)) 0 (by decide) (by decide) (g := (mkF m 32 #[.val (.int p0), .val (.int p1), .val (.int p2), .val (.int p3), .val (.int p4), .val (.int (2 : Int32)), .val (.int kk), .val (.ref s0), .unset, .unset, .unset, .unset, .unset, .unset] [(.int ((p3 &&& (255 : Int32)).toUInt32.toUInt16.toUInt32.toInt32))])) rfl (by rw [hml]; rfl) (argsL := [(.int ((p3 &&& (255 : Int32)).toUInt32.toUInt16.toUInt32.toInt32))]) (rest := []) pd0 rfl rfl rfl (by show 2 * 0 + _ ≤ _; exact Nat.le_of_eq rfl) (hb hby at_32) (by decide) (by decide) ?_
    intro T106 v106 L106 X106 hQ106
    obtain ⟨s1, rfl, N106q, K106q, sf_s1, y106_0⟩ := hQ106
    have N106 := Fr.app N104 N106q
    have g_s1 := Nat.le_trans Z105 sf_s1
    have ne_s0_s1 : s0 ≠ s1 := Nat.ne_of_lt (Nat.lt_of_lt_of_le E_s0.lt sf_s1)
    have ne_s1_s0 := Ne.symm ne_s0_s1
    replace E_s0 := E_s0.keep K106q
    have Z107 := Nat.le_trans Z105 K106q.1
    have E_s1 := y106_0
    show own_Go p e s below _ _ _ T106 (mkF m 35 #[.val (.int p0), .val (.int p1), .val (.int p2), .val (.int p3), .val (.int p4), .val (.int (2 : Int32)), .val (.int kk), .val (.ref s0), .unset, .unset, .unset, .unset, .unset, .unset] [(.ref s1)])
    replace S_cs := own_StaK S_cs K106q
    refine own_st (fun _ k => XS.astore X106.here hx rfl (hb hby at_35) rfl rfl (l' := #[.val (.int p0), .val (.int p1), .val (.int p2), .val (.int p3), .val (.int p4), .val (.int (2 : Int32)), .val (.int kk), .val (.ref s0), .val (.ref s1), .unset, .unset, .unset, .unset, .unset]) rfl k) ?_
    show own_Go p e s below _ _ _ T106 (mkF m 37 #[.val (.int p0), .val (.int p1), .val (.int p2), .val (.int p3), .val (.int p4), .val (.int (2 : Int32)), .val (.int kk), .val (.ref s0), .val (.ref s1), .unset, .unset, .unset, .unset, .unset] [])
    refine own_st (fun _ k => XS.iload X106.here hx rfl (hb hby at_37) rfl k) ?_
    show own_Go p e s below _ _ _ T106 (mkF m 39 #[.val (.int p0), .val (.int p1), .val (.int p2), .val (.int p3), .val (.int p4), .val (.int (2 : Int32)), .val (.int kk), .val (.ref s0), .val (.ref s1), .unset, .unset, .unset, .unset, .unset] [(.int p4)])
    refine own_st (fun _ k => XS.sipush X106.here hx rfl (hb hby at_39) k) ?_
    show own_Go p e s below _ _ _ T106 (mkF m 42 #[.val (.int p0), .val (.int p1), .val (.int p2), .val (.int p3), .val (.int p4), .val (.int (2 : Int32)), .val (.int kk), .val (.ref s0), .val (.ref s1), .unset, .unset, .unset, .unset, .unset] [(.int (255 : Int32)), (.int p4)])
    refine own_st (fun _ k => XS.iand X106.here hx rfl (hb hby at_42) rfl k) ?_
    show own_Go p e s below _ _ _ T106 (mkF m 43 #[.val (.int p0), .val (.int p1), .val (.int p2), .val (.int p3), .val (.int p4), .val (.int (2 : Int32)), .val (.int kk), .val (.ref s0), .val (.ref s1), .unset, .unset, .unset, .unset, .unset] [(.int (p4 &&& (255 : Int32)))])
    refine own_st (fun _ k => XS.i2c X106.here hx rfl (hb hby at_43) rfl k) ?_
    show own_Go p e s below _ _ _ T106 (mkF m 44 #[.val (.int p0), .val (.int p1), .val (.int p2), .val (.int p3), .val (.int p4), .val (.int (2 : Int32)), .val (.int kk), .val (.ref s0), .val (.ref s1), .unset, .unset, .unset, .unset, .unset] [(.int ((p4 &&& (255 : Int32)).toUInt32.toUInt16.toUInt32.toInt32))])
    refine own_callS X106 hx hZ (y := (⟨"java/lang/String", "valueOf", "(C)Ljava/lang/String;"⟩ : MethodName)) hown (hw _ (List.mem_of_getElem? (i := 0) rfl)) (hw _ (List.mem_of_getElem? (i := 1) rfl)) (hw _ (List.mem_of_getElem? (i := 2) rfl)) (hw _ (List.mem_of_getElem? (i := 3) rfl)) (by decide) rfl (rm1 l Z a0 hw [] ((p4 &&& (255 : Int32)).toUInt32.toUInt16.toUInt32.toInt32) cs T106.heap n0 Z107 S_cs hcs (own_ch _)) 0 (by decide) (by decide) (g := (mkF m 44 #[.val (.int p0), .val (.int p1), .val (.int p2), .val (.int p3), .val (.int p4), .val (.int (2 : Int32)), .val (.int kk), .val (.ref s0), .val (.ref s1), .unset, .unset, .unset, .unset, .unset] [(.int ((p4 &&& (255 : Int32)).toUInt32.toUInt16.toUInt32.toInt32))])) rfl (by rw [hml]; rfl) (argsL := [(.int ((p4 &&& (255 : Int32)).toUInt32.toUInt16.toUInt32.toInt32))]) (rest := []) pd0 rfl rfl rfl (by show 2 * 0 + _ ≤ _; exact Nat.le_of_eq rfl) (hb hby at_44) (by decide) (by decide) ?_
    intro T108 v108 L108 X108 hQ108
    obtain ⟨s2, rfl, N108q, K108q, sf_s2, y108_0⟩ := hQ108
    have N108 := Fr.app N106 N108q
    have g_s2 := Nat.le_trans Z107 sf_s2
    have ne_s0_s2 : s0 ≠ s2 := Nat.ne_of_lt (Nat.lt_of_lt_of_le E_s0.lt sf_s2)
    have ne_s2_s0 := Ne.symm ne_s0_s2
    have ne_s1_s2 : s1 ≠ s2 := Nat.ne_of_lt (Nat.lt_of_lt_of_le E_s1.lt sf_s2)
    have ne_s2_s1 := Ne.symm ne_s1_s2
    replace E_s0 := E_s0.keep K108q
    replace E_s1 := E_s1.keep K108q
    have Z109 := Nat.le_trans Z107 K108q.1
    have E_s2 := y108_0
    show own_Go p e s below _ _ _ T108 (mkF m 47 #[.val (.int p0), .val (.int p1), .val (.int p2), .val (.int p3), .val (.int p4), .val (.int (2 : Int32)), .val (.int kk), .val (.ref s0), .val (.ref s1), .unset, .unset, .unset, .unset, .unset] [(.ref s2)])
    replace S_cs := own_StaK S_cs K108q
    refine own_st (fun _ k => XS.astore X108.here hx rfl (hb hby at_47) rfl rfl (l' := #[.val (.int p0), .val (.int p1), .val (.int p2), .val (.int p3), .val (.int p4), .val (.int (2 : Int32)), .val (.int kk), .val (.ref s0), .val (.ref s1), .val (.ref s2), .unset, .unset, .unset, .unset]) rfl k) ?_
    show own_Go p e s below _ _ _ T108 (mkF m 49 #[.val (.int p0), .val (.int p1), .val (.int p2), .val (.int p3), .val (.int p4), .val (.int (2 : Int32)), .val (.int kk), .val (.ref s0), .val (.ref s1), .val (.ref s2), .unset, .unset, .unset, .unset] [])
    refine own_st (fun _ k => XS.iload X108.here hx rfl (hb hby at_49) rfl k) ?_
    show own_Go p e s below _ _ _ T108 (mkF m 51 #[.val (.int p0), .val (.int p1), .val (.int p2), .val (.int p3), .val (.int p4), .val (.int (2 : Int32)), .val (.int kk), .val (.ref s0), .val (.ref s1), .val (.ref s2), .unset, .unset, .unset, .unset] [(.int (2 : Int32))])
    refine own_st (fun _ k => XS.ifYes X108.here hx rfl (pc0 := 51) (pc' := 63) rfl (hb hby at_51) rfl (by decide) (by decide) (by decide) k) ?_
    show own_Go p e s below _ _ _ T108 (mkF m 63 #[.val (.int p0), .val (.int p1), .val (.int p2), .val (.int p3), .val (.int p4), .val (.int (2 : Int32)), .val (.int kk), .val (.ref s0), .val (.ref s1), .val (.ref s2), .unset, .unset, .unset, .unset] [])
    refine own_st (fun _ k => XS.iload X108.here hx rfl (hb hby at_63) rfl k) ?_
    show own_Go p e s below _ _ _ T108 (mkF m 65 #[.val (.int p0), .val (.int p1), .val (.int p2), .val (.int p3), .val (.int p4), .val (.int (2 : Int32)), .val (.int kk), .val (.ref s0), .val (.ref s1), .val (.ref s2), .unset, .unset, .unset, .unset] [(.int (2 : Int32))])
    refine own_st (fun _ k => XS.iconst X108.here hx rfl (hb hby at_65) k) ?_
    show own_Go p e s below _ _ _ T108 (mkF m 66 #[.val (.int p0), .val (.int p1), .val (.int p2), .val (.int p3), .val (.int p4), .val (.int (2 : Int32)), .val (.int kk), .val (.ref s0), .val (.ref s1), .val (.ref s2), .unset, .unset, .unset, .unset] [(.int (1 : Int32)), (.int (2 : Int32))])
    refine own_st (fun _ k => XS.icmpYes X108.here hx rfl (pc0 := 66) (pc' := 83) rfl (hb hby at_66) rfl (by decide) (by decide) (by decide) k) ?_
    show own_Go p e s below _ _ _ T108 (mkF m 83 #[.val (.int p0), .val (.int p1), .val (.int p2), .val (.int p3), .val (.int p4), .val (.int (2 : Int32)), .val (.int kk), .val (.ref s0), .val (.ref s1), .val (.ref s2), .unset, .unset, .unset, .unset] [])
    refine own_st (fun _ k => XS.iload X108.here hx rfl (hb hby at_83) rfl k) ?_
    show own_Go p e s below _ _ _ T108 (mkF m 85 #[.val (.int p0), .val (.int p1), .val (.int p2), .val (.int p3), .val (.int p4), .val (.int (2 : Int32)), .val (.int kk), .val (.ref s0), .val (.ref s1), .val (.ref s2), .unset, .unset, .unset, .unset] [(.int (2 : Int32))])
    refine own_st (fun _ k => XS.iconst X108.here hx rfl (hb hby at_85) k) ?_
    show own_Go p e s below _ _ _ T108 (mkF m 86 #[.val (.int p0), .val (.int p1), .val (.int p2), .val (.int p3), .val (.int p4), .val (.int (2 : Int32)), .val (.int kk), .val (.ref s0), .val (.ref s1), .val (.ref s2), .unset, .unset, .unset, .unset] [(.int (2 : Int32)), (.int (2 : Int32))])
    refine own_st (fun _ k => XS.icmpNo X108.here hx rfl (hb hby at_86) rfl (by decide) k) ?_
    show own_Go p e s below _ _ _ T108 (mkF m 89 #[.val (.int p0), .val (.int p1), .val (.int p2), .val (.int p3), .val (.int p4), .val (.int (2 : Int32)), .val (.int kk), .val (.ref s0), .val (.ref s1), .val (.ref s2), .unset, .unset, .unset, .unset] [])
    refine own_st (fun _ k => XS.iconst X108.here hx rfl (hb hby at_89) k) ?_
    show own_Go p e s below _ _ _ T108 (mkF m 90 #[.val (.int p0), .val (.int p1), .val (.int p2), .val (.int p3), .val (.int p4), .val (.int (2 : Int32)), .val (.int kk), .val (.ref s0), .val (.ref s1), .val (.ref s2), .unset, .unset, .unset, .unset] [(.int (2 : Int32))])
    obtain ⟨T110, h110, k110, X110, e110, E110, A110, Ex110, O110, st110⟩ := newRE X108 hx hZ hown (hw _ (List.mem_of_getElem? (i := 26) rfl)) (hw _ (List.mem_of_getElem? (i := 27) rfl)) rfl (g := (mkF m 90 #[.val (.int p0), .val (.int p1), .val (.int p2), .val (.int p3), .val (.int p4), .val (.int (2 : Int32)), .val (.int kk), .val (.ref s0), .val (.ref s1), .val (.ref s2), .unset, .unset, .unset, .unset] [(.int (2 : Int32))])) rfl (hb hby at_90) rfl (by decide) (cap := 2) (by decide) (by decide) (by decide) (by decide) (ad := "[Ljava/lang/String;") (by decide)
    obtain ⟨arr, g110⟩ : ∃ z, z = T108.heap.size := ⟨_, rfl⟩
    rw [← g110] at A110 Ex110 st110
    have g_arr : n0 ≤ arr := Nat.le_trans Z109 (Nat.le_of_eq g110.symm)
    have ne_s0_arr : s0 ≠ arr := Nat.ne_of_lt (Nat.lt_of_lt_of_le E_s0.lt (Nat.le_of_eq g110.symm))
    have ne_arr_s0 := Ne.symm ne_s0_arr
    have ne_s1_arr : s1 ≠ arr := Nat.ne_of_lt (Nat.lt_of_lt_of_le E_s1.lt (Nat.le_of_eq g110.symm))
    have ne_arr_s1 := Ne.symm ne_s1_arr
    have ne_s2_arr : s2 ≠ arr := Nat.ne_of_lt (Nat.lt_of_lt_of_le E_s2.lt (Nat.le_of_eq g110.symm))
    have ne_arr_s2 := Ne.symm ne_s2_arr
    replace E_s0 := E_s0.ext E110
    replace E_s1 := E_s1.ext E110
    replace E_s2 := E_s2.ext E110
    have Z111 := Nat.le_trans Z109 E110.1
    have V_arr : Arv Z h110 arr k110 (.object "java/lang/String") (2 : Int32) [.null, .null] .null := (Arv.new A110 (by decide)).pad (pad_rep [] .null 2)
    have E_arr := Ex110
    have O_arr := O110
    refine own_st st110 ?_
    show own_Go p e s below _ _ _ T110 (mkF m 93 #[.val (.int p0), .val (.int p1), .val (.int p2), .val (.int p3), .val (.int p4), .val (.int (2 : Int32)), .val (.int kk), .val (.ref s0), .val (.ref s1), .val (.ref s2), .unset, .unset, .unset, .unset] [(.ref arr)])
    refine own_st (fun _ k => XS.dup X110.here hx rfl (hb hby at_93) rfl rfl k) ?_
    show own_Go p e s below _ _ _ T110 (mkF m 94 #[.val (.int p0), .val (.int p1), .val (.int p2), .val (.int p3), .val (.int p4), .val (.int (2 : Int32)), .val (.int kk), .val (.ref s0), .val (.ref s1), .val (.ref s2), .unset, .unset, .unset, .unset] [(.ref arr), (.ref arr)])
    refine own_st (fun _ k => XS.iconst X110.here hx rfl (hb hby at_94) k) ?_
    show own_Go p e s below _ _ _ T110 (mkF m 95 #[.val (.int p0), .val (.int p1), .val (.int p2), .val (.int p3), .val (.int p4), .val (.int (2 : Int32)), .val (.int kk), .val (.ref s0), .val (.ref s1), .val (.ref s2), .unset, .unset, .unset, .unset] [(.int (0 : Int32)), (.ref arr), (.ref arr)])
    refine own_st (fun _ k => XS.aload X110.here hx rfl (hb hby at_95) rfl rfl k) ?_
    show own_Go p e s below _ _ _ T110 (mkF m 97 #[.val (.int p0), .val (.int p1), .val (.int p2), .val (.int p3), .val (.int p4), .val (.int (2 : Int32)), .val (.int kk), .val (.ref s0), .val (.ref s1), .val (.ref s2), .unset, .unset, .unset, .unset] [(.ref s0), (.int (0 : Int32)), (.ref arr), (.ref arr)])
    obtain ⟨T112, h112, X112, e112, W112, V112, st112⟩ := own_stR X110 hx hZ e110 V_arr rfl (v := (.ref s0)) (fun cl A q => Sto.ofV A q O_arr (Ins.self E_s0)) rfl (j := (0 : Int32)) ⟨by decide, by decide⟩ (Nat.le_of_ble_eq_true rfl) (g := (mkF m 97 #[.val (.int p0), .val (.int p1), .val (.int p2), .val (.int p3), .val (.int p4), .val (.int (2 : Int32)), .val (.int kk), .val (.ref s0), .val (.ref s1), .val (.ref s2), .unset, .unset, .unset, .unset] [(.ref s0), (.int (0 : Int32)), (.ref arr), (.ref arr)])) rfl rfl (hb hby at_97)
    clear V_arr
    have V_arr : Arv Z h112 arr k110 (.object "java/lang/String") (2 : Int32) [(.ref s0), .null] .null := V112
    replace E_s0 := E_s0.wr W112
    replace E_s1 := E_s1.wr W112
    replace E_s2 := E_s2.wr W112
    replace E_arr := E_arr.wr W112
    have Z113 := Nat.le_trans Z111 (Keep.of_wr W112).1
    have N112 := Fr.snoc X112 N108 g_arr
    refine own_st st112 ?_
    show own_Go p e s below _ _ _ T112 (mkF m 98 #[.val (.int p0), .val (.int p1), .val (.int p2), .val (.int p3), .val (.int p4), .val (.int (2 : Int32)), .val (.int kk), .val (.ref s0), .val (.ref s1), .val (.ref s2), .unset, .unset, .unset, .unset] [(.ref arr)])
    refine own_st (fun _ k => XS.dup X112.here hx rfl (hb hby at_98) rfl rfl k) ?_
    show own_Go p e s below _ _ _ T112 (mkF m 99 #[.val (.int p0), .val (.int p1), .val (.int p2), .val (.int p3), .val (.int p4), .val (.int (2 : Int32)), .val (.int kk), .val (.ref s0), .val (.ref s1), .val (.ref s2), .unset, .unset, .unset, .unset] [(.ref arr), (.ref arr)])
    refine own_st (fun _ k => XS.iconst X112.here hx rfl (hb hby at_99) k) ?_
    show own_Go p e s below _ _ _ T112 (mkF m 100 #[.val (.int p0), .val (.int p1), .val (.int p2), .val (.int p3), .val (.int p4), .val (.int (2 : Int32)), .val (.int kk), .val (.ref s0), .val (.ref s1), .val (.ref s2), .unset, .unset, .unset, .unset] [(.int (1 : Int32)), (.ref arr), (.ref arr)])
    refine own_st (fun _ k => XS.aload X112.here hx rfl (hb hby at_100) rfl rfl k) ?_
    show own_Go p e s below _ _ _ T112 (mkF m 102 #[.val (.int p0), .val (.int p1), .val (.int p2), .val (.int p3), .val (.int p4), .val (.int (2 : Int32)), .val (.int kk), .val (.ref s0), .val (.ref s1), .val (.ref s2), .unset, .unset, .unset, .unset] [(.ref s1), (.int (1 : Int32)), (.ref arr), (.ref arr)])
    obtain ⟨T114, h114, X114, e114, W114, V114, st114⟩ := own_stR X112 hx hZ e112 V_arr rfl (v := (.ref s1)) (fun cl A q => Sto.ofV A q O_arr (Ins.self E_s1)) rfl (j := (1 : Int32)) ⟨by decide, by decide⟩ (Nat.le_of_ble_eq_true rfl) (g := (mkF m 102 #[.val (.int p0), .val (.int p1), .val (.int p2), .val (.int p3), .val (.int p4), .val (.int (2 : Int32)), .val (.int kk), .val (.ref s0), .val (.ref s1), .val (.ref s2), .unset, .unset, .unset, .unset] [(.ref s1), (.int (1 : Int32)), (.ref arr), (.ref arr)])) rfl rfl (hb hby at_102)
    clear V_arr
    have V_arr : Arv Z h114 arr k110 (.object "java/lang/String") (2 : Int32) [(.ref s0), (.ref s1)] .null := V114
    replace E_s0 := E_s0.wr W114
    replace E_s1 := E_s1.wr W114
    replace E_s2 := E_s2.wr W114
    replace E_arr := E_arr.wr W114
    have Z115 := Nat.le_trans Z113 (Keep.of_wr W114).1
    have N114 := Fr.snoc X114 N112 g_arr
    refine own_st st114 ?_
    show own_Go p e s below _ _ _ T114 (mkF m 103 #[.val (.int p0), .val (.int p1), .val (.int p2), .val (.int p3), .val (.int p4), .val (.int (2 : Int32)), .val (.int kk), .val (.ref s0), .val (.ref s1), .val (.ref s2), .unset, .unset, .unset, .unset] [(.ref arr)])
    refine own_st (fun _ k => XS.astore X114.here hx rfl (hb hby at_103) rfl rfl (l' := #[.val (.int p0), .val (.int p1), .val (.int p2), .val (.int p3), .val (.int p4), .val (.int (2 : Int32)), .val (.int kk), .val (.ref s0), .val (.ref s1), .val (.ref s2), .val (.ref arr), .unset, .unset, .unset]) rfl k) ?_
    show own_Go p e s below _ _ _ T114 (mkF m 105 #[.val (.int p0), .val (.int p1), .val (.int p2), .val (.int p3), .val (.int p4), .val (.int (2 : Int32)), .val (.int kk), .val (.ref s0), .val (.ref s1), .val (.ref s2), .val (.ref arr), .unset, .unset, .unset] [])
    refine own_st (fun _ k => XS.goto X114.here hx rfl (pc0 := 105) (pc' := 129) rfl (hb hby at_105) (by decide) (by decide) k) ?_
    show own_Go p e s below _ _ _ T114 (mkF m 129 #[.val (.int p0), .val (.int p1), .val (.int p2), .val (.int p3), .val (.int p4), .val (.int (2 : Int32)), .val (.int kk), .val (.ref s0), .val (.ref s1), .val (.ref s2), .val (.ref arr), .unset, .unset, .unset] [])
    obtain ⟨T116, h116, X116, e116, E116, A116, D116, -, st116⟩ := newO X114 hx hZ hown (hw _ (List.mem_of_getElem? (i := 28) rfl)) (hw _ (List.mem_of_getElem? (i := 29) rfl)) (hw _ (List.mem_of_getElem? (i := 30) rfl)) e114 (g := (mkF m 129 #[.val (.int p0), .val (.int p1), .val (.int p2), .val (.int p3), .val (.int p4), .val (.int (2 : Int32)), .val (.int kk), .val (.ref s0), .val (.ref s1), .val (.ref s2), .val (.ref arr), .unset, .unset, .unset] [])) rfl (hb hby at_129) (by decide) (by decide)
    obtain ⟨b, g116⟩ : ∃ z, z = h114.size := ⟨_, rfl⟩
    rw [← g116] at A116 D116 st116
    have g_b : n0 ≤ b := Nat.le_trans Z115 (Nat.le_of_eq g116.symm)
    have ne_arr_b : arr ≠ b := Nat.ne_of_lt (Nat.lt_of_lt_of_le E_arr.lt (Nat.le_of_eq g116.symm))
    have ne_b_arr := Ne.symm ne_arr_b
    have ne_s0_b : s0 ≠ b := Nat.ne_of_lt (Nat.lt_of_lt_of_le E_s0.lt (Nat.le_of_eq g116.symm))
    have ne_b_s0 := Ne.symm ne_s0_b
    have ne_s1_b : s1 ≠ b := Nat.ne_of_lt (Nat.lt_of_lt_of_le E_s1.lt (Nat.le_of_eq g116.symm))
    have ne_b_s1 := Ne.symm ne_s1_b
    have ne_s2_b : s2 ≠ b := Nat.ne_of_lt (Nat.lt_of_lt_of_le E_s2.lt (Nat.le_of_eq g116.symm))
    have ne_b_s2 := Ne.symm ne_s2_b
    replace E_s0 := E_s0.ext E116
    replace E_s1 := E_s1.ext E116
    replace E_s2 := E_s2.ext E116
    replace E_arr := E_arr.ext E116
    replace V_arr := V_arr.ext E116
    have Z117 := Nat.le_trans Z115 E116.1
    have E_b := A116
    have F_args_b : Fld Z h116 b "com/example/chronotope/chronotope/Arguments" "args" "[Ljava/lang/String;" .null := D116 (Or.inr (hw _ (List.mem_of_getElem? (i := 45) rfl))) (ty := (.array (.object "java/lang/String"))) (by decide)
    have F_next_b : Fld Z h116 b "com/example/chronotope/chronotope/Arguments" "next" "I" (.int (0 : Int32)) := D116 (Or.inl (hw _ (List.mem_of_getElem? (i := 52) rfl))) (ty := .int) (by decide)
    refine own_st st116 ?_
    show own_Go p e s below _ _ _ T116 (mkF m 132 #[.val (.int p0), .val (.int p1), .val (.int p2), .val (.int p3), .val (.int p4), .val (.int (2 : Int32)), .val (.int kk), .val (.ref s0), .val (.ref s1), .val (.ref s2), .val (.ref arr), .unset, .unset, .unset] [(.ref b)])
    refine own_st (fun _ k => XS.dup X116.here hx rfl (hb hby at_132) rfl rfl k) ?_
    show own_Go p e s below _ _ _ T116 (mkF m 133 #[.val (.int p0), .val (.int p1), .val (.int p2), .val (.int p3), .val (.int p4), .val (.int (2 : Int32)), .val (.int kk), .val (.ref s0), .val (.ref s1), .val (.ref s2), .val (.ref arr), .unset, .unset, .unset] [(.ref b), (.ref b)])
    refine own_st (fun _ k => XS.aload X116.here hx rfl (hb hby at_133) rfl rfl k) ?_
    show own_Go p e s below _ _ _ T116 (mkF m 135 #[.val (.int p0), .val (.int p1), .val (.int p2), .val (.int p3), .val (.int p4), .val (.int (2 : Int32)), .val (.int kk), .val (.ref s0), .val (.ref s1), .val (.ref s2), .val (.ref arr), .unset, .unset, .unset] [(.ref arr), (.ref b), (.ref b)])
    refine own_callN X116 hx hZ (y := (⟨"com/example/chronotope/chronotope/Arguments", "<init>", "([Ljava/lang/String;)V"⟩ : MethodName)) rfl hown (hw _ (List.mem_of_getElem? (i := 31) rfl)) (hw _ (List.mem_of_getElem? (i := 32) rfl)) (hw _ (List.mem_of_getElem? (i := 30) rfl)) (hw _ (List.mem_of_getElem? (i := 33) rfl)) (by decide) e116 (rm6_2 l Z a0 hw [] b arr k110 s0 s1 h116 n0 Z117 E_b F_args_b F_next_b V_arr E_arr ne_b_arr ne_arr_b g_b) 1 (by decide) (by decide) (g := (mkF m 135 #[.val (.int p0), .val (.int p1), .val (.int p2), .val (.int p3), .val (.int p4), .val (.int (2 : Int32)), .val (.int kk), .val (.ref s0), .val (.ref s1), .val (.ref s2), .val (.ref arr), .unset, .unset, .unset] [(.ref arr), (.ref b), (.ref b)])) rfl (by rw [hml]; rfl) (a := b) (argsL := [(.ref arr)]) (rest := [(.ref b)]) pd4 rfl rfl rfl (by show 2 * 0 + _ ≤ _; exact Nat.le_of_eq rfl) (hb hby at_135) (by decide) (by decide) ?_
    intro T118 v118 L118 X118 hQ118
    obtain ⟨dd, rfl, N118q, K118q, sf_dd, y118_0, y118_1, y118_2, y118_3⟩ := hQ118
    have N118 := Fr.app N114 N118q
    have g_dd := Nat.le_trans Z117 sf_dd
    have ne_arr_dd : arr ≠ dd := Nat.ne_of_lt (Nat.lt_of_lt_of_le E_arr.lt sf_dd)
    have ne_dd_arr := Ne.symm ne_arr_dd
    have ne_b_dd : b ≠ dd := Nat.ne_of_lt (Nat.lt_of_lt_of_le E_b.lt sf_dd)
    have ne_dd_b := Ne.symm ne_b_dd
    have ne_s0_dd : s0 ≠ dd := Nat.ne_of_lt (Nat.lt_of_lt_of_le E_s0.lt sf_dd)
    have ne_dd_s0 := Ne.symm ne_s0_dd
    have ne_s1_dd : s1 ≠ dd := Nat.ne_of_lt (Nat.lt_of_lt_of_le E_s1.lt sf_dd)
    have ne_dd_s1 := Ne.symm ne_s1_dd
    have ne_s2_dd : s2 ≠ dd := Nat.ne_of_lt (Nat.lt_of_lt_of_le E_s2.lt sf_dd)
    have ne_dd_s2 := Ne.symm ne_s2_dd
    replace E_s0 := E_s0.keep K118q
    replace E_s1 := E_s1.keep K118q
    replace E_s2 := E_s2.keep K118q
    replace E_arr := E_arr.keep K118q
    replace V_arr := V_arr.keep K118q (ninS ne_arr_b nin0)
    replace E_b := E_b.keep K118q
    clear F_args_b
    clear F_next_b
    have Z119 := Nat.le_trans Z117 K118q.1
    have E_b := y118_0
    have F_args_b := y118_1
    have F_next_b := y118_2
    have V_dd := y118_3
    show own_Go p e s below _ _ _ T118 (mkF m 138 #[.val (.int p0), .val (.int p1), .val (.int p2), .val (.int p3), .val (.int p4), .val (.int (2 : Int32)), .val (.int kk), .val (.ref s0), .val (.ref s1), .val (.ref s2), .val (.ref arr), .unset, .unset, .unset] [(.ref b)])
    refine own_st (fun _ k => XS.astore X118.here hx rfl (hb hby at_138) rfl rfl (l' := #[.val (.int p0), .val (.int p1), .val (.int p2), .val (.int p3), .val (.int p4), .val (.int (2 : Int32)), .val (.int kk), .val (.ref s0), .val (.ref s1), .val (.ref s2), .val (.ref arr), .val (.ref b), .unset, .unset]) rfl k) ?_
    show own_Go p e s below _ _ _ T118 (mkF m 140 #[.val (.int p0), .val (.int p1), .val (.int p2), .val (.int p3), .val (.int p4), .val (.int (2 : Int32)), .val (.int kk), .val (.ref s0), .val (.ref s1), .val (.ref s2), .val (.ref arr), .val (.ref b), .unset, .unset] [])
    refine own_st (fun _ k => XS.aload X118.here hx rfl (hb hby at_140) rfl rfl k) ?_
    show own_Go p e s below _ _ _ T118 (mkF m 142 #[.val (.int p0), .val (.int p1), .val (.int p2), .val (.int p3), .val (.int p4), .val (.int (2 : Int32)), .val (.int kk), .val (.ref s0), .val (.ref s1), .val (.ref s2), .val (.ref arr), .val (.ref b), .unset, .unset] [(.ref b)])
    refine own_callV X118 hx hZ (y := (⟨"com/example/chronotope/chronotope/Arguments", "hasNext", "()Z"⟩ : MethodName)) hown (hw _ (List.mem_of_getElem? (i := 46) rfl)) (hw _ (List.mem_of_getElem? (i := 47) rfl)) (hw _ (List.mem_of_getElem? (i := 49) rfl)) (hw _ (List.mem_of_getElem? (i := 48) rfl)) (hw _ (List.mem_of_getElem? (i := 30) rfl)) (hw _ (List.mem_of_getElem? (i := 50) rfl)) (by decide) rfl (rm7 l Z a0 hw [] b dd (0 : Int32) (2 : Int32) k110 [(.ref s0), (.ref s1)] T118.heap n0 Z119 F_args_b F_next_b V_dd) 0 (by decide) (by decide) E_b (g := (mkF m 142 #[.val (.int p0), .val (.int p1), .val (.int p2), .val (.int p3), .val (.int p4), .val (.int (2 : Int32)), .val (.int kk), .val (.ref s0), .val (.ref s1), .val (.ref s2), .val (.ref arr), .val (.ref b), .unset, .unset] [(.ref b)])) rfl (by rw [hml]; rfl) (argsL := []) (rest := []) pd5 rfl rfl rfl (by show 2 * 0 + _ ≤ _; exact Nat.le_of_eq rfl) (hb hby at_142) (by decide) (by decide) ?_
    intro T120 v120 L120 X120 hQ120
    obtain ⟨rfl, N120q, e120⟩ := hQ120
    have N120 := Fr.app N118 N120q
    show own_Go p e s below _ _ _ T120 (mkF m 145 #[.val (.int p0), .val (.int p1), .val (.int p2), .val (.int p3), .val (.int p4), .val (.int (2 : Int32)), .val (.int kk), .val (.ref s0), .val (.ref s1), .val (.ref s2), .val (.ref arr), .val (.ref b), .unset, .unset] [(.int (own_b ((0 : Int32) < (2 : Int32))))])
    refine own_st (fun _ k => XS.iconst X120.here hx rfl (hb hby at_145) k) ?_
    show own_Go p e s below _ _ _ T120 (mkF m 146 #[.val (.int p0), .val (.int p1), .val (.int p2), .val (.int p3), .val (.int p4), .val (.int (2 : Int32)), .val (.int kk), .val (.ref s0), .val (.ref s1), .val (.ref s2), .val (.ref arr), .val (.ref b), .unset, .unset] [(.int (0 : Int32)), (.int (own_b ((0 : Int32) < (2 : Int32))))])
    refine own_st (fun _ k => XS.iload X120.here hx rfl (hb hby at_146) rfl k) ?_
    show own_Go p e s below _ _ _ T120 (mkF m 148 #[.val (.int p0), .val (.int p1), .val (.int p2), .val (.int p3), .val (.int p4), .val (.int (2 : Int32)), .val (.int kk), .val (.ref s0), .val (.ref s1), .val (.ref s2), .val (.ref arr), .val (.ref b), .unset, .unset] [(.int (2 : Int32)), (.int (0 : Int32)), (.int (own_b ((0 : Int32) < (2 : Int32))))])
    refine own_st (fun _ k => XS.icmpNo X120.here hx rfl (hb hby at_148) rfl (by decide) k) ?_
    show own_Go p e s below _ _ _ T120 (mkF m 151 #[.val (.int p0), .val (.int p1), .val (.int p2), .val (.int p3), .val (.int p4), .val (.int (2 : Int32)), .val (.int kk), .val (.ref s0), .val (.ref s1), .val (.ref s2), .val (.ref arr), .val (.ref b), .unset, .unset] [(.int (own_b ((0 : Int32) < (2 : Int32))))])
    refine own_st (fun _ k => XS.iconst X120.here hx rfl (hb hby at_151) k) ?_
    show own_Go p e s below _ _ _ T120 (mkF m 152 #[.val (.int p0), .val (.int p1), .val (.int p2), .val (.int p3), .val (.int p4), .val (.int (2 : Int32)), .val (.int kk), .val (.ref s0), .val (.ref s1), .val (.ref s2), .val (.ref arr), .val (.ref b), .unset, .unset] [(.int (1 : Int32)), (.int (own_b ((0 : Int32) < (2 : Int32))))])
    refine own_st (fun _ k => XS.goto X120.here hx rfl (pc0 := 152) (pc' := 156) rfl (hb hby at_152) (by decide) (by decide) k) ?_
    show own_Go p e s below _ _ _ T120 (mkF m 156 #[.val (.int p0), .val (.int p1), .val (.int p2), .val (.int p3), .val (.int p4), .val (.int (2 : Int32)), .val (.int kk), .val (.ref s0), .val (.ref s1), .val (.ref s2), .val (.ref arr), .val (.ref b), .unset, .unset] [(.int (1 : Int32)), (.int (own_b ((0 : Int32) < (2 : Int32))))])
    refine own_st (fun _ k => XS.icmpYes X120.here hx rfl (pc0 := 156) (pc' := 161) rfl (hb hby at_156) rfl (teq (own_bt (by decide))).1 (by decide) (by decide) k) ?_
    show own_Go p e s below _ _ _ T120 (mkF m 161 #[.val (.int p0), .val (.int p1), .val (.int p2), .val (.int p3), .val (.int p4), .val (.int (2 : Int32)), .val (.int kk), .val (.ref s0), .val (.ref s1), .val (.ref s2), .val (.ref arr), .val (.ref b), .unset, .unset] [])
    refine own_st (fun _ k => XS.iload X120.here hx rfl (hb hby at_161) rfl k) ?_
    show own_Go p e s below _ _ _ T120 (mkF m 163 #[.val (.int p0), .val (.int p1), .val (.int p2), .val (.int p3), .val (.int p4), .val (.int (2 : Int32)), .val (.int kk), .val (.ref s0), .val (.ref s1), .val (.ref s2), .val (.ref arr), .val (.ref b), .unset, .unset] [(.int kk)])
    refine own_st (fun _ k => XS.iconst X120.here hx rfl (hb hby at_163) k) ?_
    show own_Go p e s below _ _ _ T120 (mkF m 164 #[.val (.int p0), .val (.int p1), .val (.int p2), .val (.int p3), .val (.int p4), .val (.int (2 : Int32)), .val (.int kk), .val (.ref s0), .val (.ref s1), .val (.ref s2), .val (.ref arr), .val (.ref b), .unset, .unset] [(.int (1 : Int32)), (.int kk)])
    rcases hk with rfl | hk
    · show own_Go p e s below _ _ _ T120 (mkF m 164 #[.val (.int p0), .val (.int p1), .val (.int p2), .val (.int p3), .val (.int p4), .val (.int (2 : Int32)), .val (.int (0 : Int32)), .val (.ref s0), .val (.ref s1), .val (.ref s2), .val (.ref arr), .val (.ref b), .unset, .unset] [(.int (1 : Int32)), (.int (0 : Int32))])
      refine own_st (fun _ k => XS.icmpYes X120.here hx rfl (pc0 := 164) (pc' := 203) rfl (hb hby at_164) rfl (by decide) (by decide) (by decide) k) ?_
      show own_Go p e s below _ _ _ T120 (mkF m 203 #[.val (.int p0), .val (.int p1), .val (.int p2), .val (.int p3), .val (.int p4), .val (.int (2 : Int32)), .val (.int (0 : Int32)), .val (.ref s0), .val (.ref s1), .val (.ref s2), .val (.ref arr), .val (.ref b), .unset, .unset] [])
      refine own_st (fun _ k => XS.iload X120.here hx rfl (hb hby at_203) rfl k) ?_
      show own_Go p e s below _ _ _ T120 (mkF m 205 #[.val (.int p0), .val (.int p1), .val (.int p2), .val (.int p3), .val (.int p4), .val (.int (2 : Int32)), .val (.int (0 : Int32)), .val (.ref s0), .val (.ref s1), .val (.ref s2), .val (.ref arr), .val (.ref b), .unset, .unset] [(.int (0 : Int32))])
      refine own_st (fun _ k => XS.iconst X120.here hx rfl (hb hby at_205) k) ?_
      show own_Go p e s below _ _ _ T120 (mkF m 206 #[.val (.int p0), .val (.int p1), .val (.int p2), .val (.int p3), .val (.int p4), .val (.int (2 : Int32)), .val (.int (0 : Int32)), .val (.ref s0), .val (.ref s1), .val (.ref s2), .val (.ref arr), .val (.ref b), .unset, .unset] [(.int (2 : Int32)), (.int (0 : Int32))])
      refine own_st (fun _ k => XS.icmpYes X120.here hx rfl (pc0 := 206) (pc' := 245) rfl (hb hby at_206) rfl (by decide) (by decide) (by decide) k) ?_
      show own_Go p e s below _ _ _ T120 (mkF m 245 #[.val (.int p0), .val (.int p1), .val (.int p2), .val (.int p3), .val (.int p4), .val (.int (2 : Int32)), .val (.int (0 : Int32)), .val (.ref s0), .val (.ref s1), .val (.ref s2), .val (.ref arr), .val (.ref b), .unset, .unset] [])
      refine own_st (fun _ k => XS.iload X120.here hx rfl (hb hby at_245) rfl k) ?_
      show own_Go p e s below _ _ _ T120 (mkF m 247 #[.val (.int p0), .val (.int p1), .val (.int p2), .val (.int p3), .val (.int p4), .val (.int (2 : Int32)), .val (.int (0 : Int32)), .val (.ref s0), .val (.ref s1), .val (.ref s2), .val (.ref arr), .val (.ref b), .unset, .unset] [(.int (0 : Int32))])
      refine own_st (fun _ k => XS.iconst X120.here hx rfl (hb hby at_247) k) ?_
      show own_Go p e s below _ _ _ T120 (mkF m 248 #[.val (.int p0), .val (.int p1), .val (.int p2), .val (.int p3), .val (.int p4), .val (.int (2 : Int32)), .val (.int (0 : Int32)), .val (.ref s0), .val (.ref s1), .val (.ref s2), .val (.ref arr), .val (.ref b), .unset, .unset] [(.int (3 : Int32)), (.int (0 : Int32))])
      refine own_st (fun _ k => XS.icmpYes X120.here hx rfl (pc0 := 248) (pc' := 287) rfl (hb hby at_248) rfl (by decide) (by decide) (by decide) k) ?_
      show own_Go p e s below _ _ _ T120 (mkF m 287 #[.val (.int p0), .val (.int p1), .val (.int p2), .val (.int p3), .val (.int p4), .val (.int (2 : Int32)), .val (.int (0 : Int32)), .val (.ref s0), .val (.ref s1), .val (.ref s2), .val (.ref arr), .val (.ref b), .unset, .unset] [])
      refine own_st (fun _ k => XS.aload X120.here hx rfl (hb hby at_287) rfl rfl k) ?_
      show own_Go p e s below _ _ _ T120 (mkF m 289 #[.val (.int p0), .val (.int p1), .val (.int p2), .val (.int p3), .val (.int p4), .val (.int (2 : Int32)), .val (.int (0 : Int32)), .val (.ref s0), .val (.ref s1), .val (.ref s2), .val (.ref arr), .val (.ref b), .unset, .unset] [(.ref b)])
      refine own_callV X120 hx hZ (y := (⟨"com/example/chronotope/chronotope/Arguments", "hasNext", "()Z"⟩ : MethodName)) hown (hw _ (List.mem_of_getElem? (i := 46) rfl)) (hw _ (List.mem_of_getElem? (i := 47) rfl)) (hw _ (List.mem_of_getElem? (i := 49) rfl)) (hw _ (List.mem_of_getElem? (i := 48) rfl)) (hw _ (List.mem_of_getElem? (i := 30) rfl)) (hw _ (List.mem_of_getElem? (i := 50) rfl)) (by decide) e120 (rm7 l Z a0 hw [] b dd (0 : Int32) (2 : Int32) k110 [(.ref s0), (.ref s1)] T118.heap n0 Z119 F_args_b F_next_b V_dd) 0 (by decide) (by decide) E_b (g := (mkF m 289 #[.val (.int p0), .val (.int p1), .val (.int p2), .val (.int p3), .val (.int p4), .val (.int (2 : Int32)), .val (.int (0 : Int32)), .val (.ref s0), .val (.ref s1), .val (.ref s2), .val (.ref arr), .val (.ref b), .unset, .unset] [(.ref b)])) rfl (by rw [hml]; rfl) (argsL := []) (rest := []) pd5 rfl rfl rfl (by show 2 * 0 + _ ≤ _; exact Nat.le_of_eq rfl) (hb hby at_289) (by decide) (by decide) ?_
      intro T121 v121 L121 X121 hQ121
      obtain ⟨rfl, N121q, e121⟩ := hQ121
      have N121 := Fr.app N120 N121q
      show own_Go p e s below _ _ _ T121 (mkF m 292 #[.val (.int p0), .val (.int p1), .val (.int p2), .val (.int p3), .val (.int p4), .val (.int (2 : Int32)), .val (.int (0 : Int32)), .val (.ref s0), .val (.ref s1), .val (.ref s2), .val (.ref arr), .val (.ref b), .unset, .unset] [(.int (own_b ((0 : Int32) < (2 : Int32))))])
      refine own_st (fun _ k => XS.istore X121.here hx rfl (hb hby at_292) rfl (l' := #[.val (.int p0), .val (.int p1), .val (.int p2), .val (.int p3), .val (.int p4), .val (.int (2 : Int32)), .val (.int (0 : Int32)), .val (.ref s0), .val (.ref s1), .val (.ref s2), .val (.ref arr), .val (.ref b), .val (.int (own_b ((0 : Int32) < (2 : Int32)))), .unset]) rfl k) ?_
      show own_Go p e s below _ _ _ T121 (mkF m 294 #[.val (.int p0), .val (.int p1), .val (.int p2), .val (.int p3), .val (.int p4), .val (.int (2 : Int32)), .val (.int (0 : Int32)), .val (.ref s0), .val (.ref s1), .val (.ref s2), .val (.ref arr), .val (.ref b), .val (.int (own_b ((0 : Int32) < (2 : Int32)))), .unset] [])
      refine own_st (fun _ k => XS.aload X121.here hx rfl (hb hby at_294) rfl rfl k) ?_
      show own_Go p e s below _ _ _ T121 (mkF m 296 #[.val (.int p0), .val (.int p1), .val (.int p2), .val (.int p3), .val (.int p4), .val (.int (2 : Int32)), .val (.int (0 : Int32)), .val (.ref s0), .val (.ref s1), .val (.ref s2), .val (.ref arr), .val (.ref b), .val (.int (own_b ((0 : Int32) < (2 : Int32)))), .unset] [(.ref b)])
      refine own_callV X121 hx hZ (y := (⟨"com/example/chronotope/chronotope/Arguments", "hasNext", "()Z"⟩ : MethodName)) hown (hw _ (List.mem_of_getElem? (i := 46) rfl)) (hw _ (List.mem_of_getElem? (i := 47) rfl)) (hw _ (List.mem_of_getElem? (i := 49) rfl)) (hw _ (List.mem_of_getElem? (i := 48) rfl)) (hw _ (List.mem_of_getElem? (i := 30) rfl)) (hw _ (List.mem_of_getElem? (i := 50) rfl)) (by decide) e121 (rm7 l Z a0 hw [] b dd (0 : Int32) (2 : Int32) k110 [(.ref s0), (.ref s1)] T118.heap n0 Z119 F_args_b F_next_b V_dd) 0 (by decide) (by decide) E_b (g := (mkF m 296 #[.val (.int p0), .val (.int p1), .val (.int p2), .val (.int p3), .val (.int p4), .val (.int (2 : Int32)), .val (.int (0 : Int32)), .val (.ref s0), .val (.ref s1), .val (.ref s2), .val (.ref arr), .val (.ref b), .val (.int (own_b ((0 : Int32) < (2 : Int32)))), .unset] [(.ref b)])) rfl (by rw [hml]; rfl) (argsL := []) (rest := []) pd5 rfl rfl rfl (by show 2 * 0 + _ ≤ _; exact Nat.le_of_eq rfl) (hb hby at_296) (by decide) (by decide) ?_
      intro T122 v122 L122 X122 hQ122
      obtain ⟨rfl, N122q, e122⟩ := hQ122
      have N122 := Fr.app N121 N122q
      show own_Go p e s below _ _ _ T122 (mkF m 299 #[.val (.int p0), .val (.int p1), .val (.int p2), .val (.int p3), .val (.int p4), .val (.int (2 : Int32)), .val (.int (0 : Int32)), .val (.ref s0), .val (.ref s1), .val (.ref s2), .val (.ref arr), .val (.ref b), .val (.int (own_b ((0 : Int32) < (2 : Int32)))), .unset] [(.int (own_b ((0 : Int32) < (2 : Int32))))])
      refine own_st (fun _ k => XS.istore X122.here hx rfl (hb hby at_299) rfl (l' := #[.val (.int p0), .val (.int p1), .val (.int p2), .val (.int p3), .val (.int p4), .val (.int (2 : Int32)), .val (.int (0 : Int32)), .val (.ref s0), .val (.ref s1), .val (.ref s2), .val (.ref arr), .val (.ref b), .val (.int (own_b ((0 : Int32) < (2 : Int32)))), .val (.int (own_b ((0 : Int32) < (2 : Int32))))]) rfl k) ?_
      show own_Go p e s below _ _ _ T122 (mkF m 301 #[.val (.int p0), .val (.int p1), .val (.int p2), .val (.int p3), .val (.int p4), .val (.int (2 : Int32)), .val (.int (0 : Int32)), .val (.ref s0), .val (.ref s1), .val (.ref s2), .val (.ref arr), .val (.ref b), .val (.int (own_b ((0 : Int32) < (2 : Int32)))), .val (.int (own_b ((0 : Int32) < (2 : Int32))))] [])
      refine own_st (fun _ k => XS.iload X122.here hx rfl (hb hby at_301) rfl k) ?_
      show own_Go p e s below _ _ _ T122 (mkF m 303 #[.val (.int p0), .val (.int p1), .val (.int p2), .val (.int p3), .val (.int p4), .val (.int (2 : Int32)), .val (.int (0 : Int32)), .val (.ref s0), .val (.ref s1), .val (.ref s2), .val (.ref arr), .val (.ref b), .val (.int (own_b ((0 : Int32) < (2 : Int32)))), .val (.int (own_b ((0 : Int32) < (2 : Int32))))] [(.int (own_b ((0 : Int32) < (2 : Int32))))])
      refine own_st (fun _ k => XS.iload X122.here hx rfl (hb hby at_303) rfl k) ?_
      show own_Go p e s below _ _ _ T122 (mkF m 305 #[.val (.int p0), .val (.int p1), .val (.int p2), .val (.int p3), .val (.int p4), .val (.int (2 : Int32)), .val (.int (0 : Int32)), .val (.ref s0), .val (.ref s1), .val (.ref s2), .val (.ref arr), .val (.ref b), .val (.int (own_b ((0 : Int32) < (2 : Int32)))), .val (.int (own_b ((0 : Int32) < (2 : Int32))))] [(.int (0 : Int32)), (.int (own_b ((0 : Int32) < (2 : Int32))))])
      refine own_st (fun _ k => XS.iload X122.here hx rfl (hb hby at_305) rfl k) ?_
      show own_Go p e s below _ _ _ T122 (mkF m 307 #[.val (.int p0), .val (.int p1), .val (.int p2), .val (.int p3), .val (.int p4), .val (.int (2 : Int32)), .val (.int (0 : Int32)), .val (.ref s0), .val (.ref s1), .val (.ref s2), .val (.ref arr), .val (.ref b), .val (.int (own_b ((0 : Int32) < (2 : Int32)))), .val (.int (own_b ((0 : Int32) < (2 : Int32))))] [(.int (2 : Int32)), (.int (0 : Int32)), (.int (own_b ((0 : Int32) < (2 : Int32))))])
      refine own_st (fun _ k => XS.icmpNo X122.here hx rfl (hb hby at_307) rfl (by decide) k) ?_
      show own_Go p e s below _ _ _ T122 (mkF m 310 #[.val (.int p0), .val (.int p1), .val (.int p2), .val (.int p3), .val (.int p4), .val (.int (2 : Int32)), .val (.int (0 : Int32)), .val (.ref s0), .val (.ref s1), .val (.ref s2), .val (.ref arr), .val (.ref b), .val (.int (own_b ((0 : Int32) < (2 : Int32)))), .val (.int (own_b ((0 : Int32) < (2 : Int32))))] [(.int (own_b ((0 : Int32) < (2 : Int32))))])
      refine own_st (fun _ k => XS.iconst X122.here hx rfl (hb hby at_310) k) ?_
      show own_Go p e s below _ _ _ T122 (mkF m 311 #[.val (.int p0), .val (.int p1), .val (.int p2), .val (.int p3), .val (.int p4), .val (.int (2 : Int32)), .val (.int (0 : Int32)), .val (.ref s0), .val (.ref s1), .val (.ref s2), .val (.ref arr), .val (.ref b), .val (.int (own_b ((0 : Int32) < (2 : Int32)))), .val (.int (own_b ((0 : Int32) < (2 : Int32))))] [(.int (1 : Int32)), (.int (own_b ((0 : Int32) < (2 : Int32))))])
      refine own_st (fun _ k => XS.goto X122.here hx rfl (pc0 := 311) (pc' := 315) rfl (hb hby at_311) (by decide) (by decide) k) ?_
      show own_Go p e s below _ _ _ T122 (mkF m 315 #[.val (.int p0), .val (.int p1), .val (.int p2), .val (.int p3), .val (.int p4), .val (.int (2 : Int32)), .val (.int (0 : Int32)), .val (.ref s0), .val (.ref s1), .val (.ref s2), .val (.ref arr), .val (.ref b), .val (.int (own_b ((0 : Int32) < (2 : Int32)))), .val (.int (own_b ((0 : Int32) < (2 : Int32))))] [(.int (1 : Int32)), (.int (own_b ((0 : Int32) < (2 : Int32))))])
      refine own_st (fun _ k => XS.icmpNo X122.here hx rfl (hb hby at_315) rfl (teq (own_bt (by decide))).2 k) ?_
      show own_Go p e s below _ _ _ T122 (mkF m 318 #[.val (.int p0), .val (.int p1), .val (.int p2), .val (.int p3), .val (.int p4), .val (.int (2 : Int32)), .val (.int (0 : Int32)), .val (.ref s0), .val (.ref s1), .val (.ref s2), .val (.ref arr), .val (.ref b), .val (.int (own_b ((0 : Int32) < (2 : Int32)))), .val (.int (own_b ((0 : Int32) < (2 : Int32))))] [])
      refine own_st (fun _ k => XS.iload X122.here hx rfl (hb hby at_318) rfl k) ?_
      show own_Go p e s below _ _ _ T122 (mkF m 320 #[.val (.int p0), .val (.int p1), .val (.int p2), .val (.int p3), .val (.int p4), .val (.int (2 : Int32)), .val (.int (0 : Int32)), .val (.ref s0), .val (.ref s1), .val (.ref s2), .val (.ref arr), .val (.ref b), .val (.int (own_b ((0 : Int32) < (2 : Int32)))), .val (.int (own_b ((0 : Int32) < (2 : Int32))))] [(.int (own_b ((0 : Int32) < (2 : Int32))))])
      refine own_st (fun _ k => XS.iload X122.here hx rfl (hb hby at_320) rfl k) ?_
      show own_Go p e s below _ _ _ T122 (mkF m 322 #[.val (.int p0), .val (.int p1), .val (.int p2), .val (.int p3), .val (.int p4), .val (.int (2 : Int32)), .val (.int (0 : Int32)), .val (.ref s0), .val (.ref s1), .val (.ref s2), .val (.ref arr), .val (.ref b), .val (.int (own_b ((0 : Int32) < (2 : Int32)))), .val (.int (own_b ((0 : Int32) < (2 : Int32))))] [(.int (own_b ((0 : Int32) < (2 : Int32)))), (.int (own_b ((0 : Int32) < (2 : Int32))))])
      refine own_st (fun _ k => XS.icmpNo X122.here hx rfl (hb hby at_322) rfl (teq rfl).2 k) ?_
      show own_Go p e s below _ _ _ T122 (mkF m 325 #[.val (.int p0), .val (.int p1), .val (.int p2), .val (.int p3), .val (.int p4), .val (.int (2 : Int32)), .val (.int (0 : Int32)), .val (.ref s0), .val (.ref s1), .val (.ref s2), .val (.ref arr), .val (.ref b), .val (.int (own_b ((0 : Int32) < (2 : Int32)))), .val (.int (own_b ((0 : Int32) < (2 : Int32))))] [])
      refine own_st (fun _ k => XS.iconst X122.here hx rfl (hb hby at_325) k) ?_
      show own_Go p e s below _ _ _ T122 (mkF m 326 #[.val (.int p0), .val (.int p1), .val (.int p2), .val (.int p3), .val (.int p4), .val (.int (2 : Int32)), .val (.int (0 : Int32)), .val (.ref s0), .val (.ref s1), .val (.ref s2), .val (.ref arr), .val (.ref b), .val (.int (own_b ((0 : Int32) < (2 : Int32)))), .val (.int (own_b ((0 : Int32) < (2 : Int32))))] [(.int (1 : Int32))])
      refine own_st (fun _ k => XS.goto X122.here hx rfl (pc0 := 326) (pc' := 330) rfl (hb hby at_326) (by decide) (by decide) k) ?_
      show own_Go p e s below _ _ _ T122 (mkF m 330 #[.val (.int p0), .val (.int p1), .val (.int p2), .val (.int p3), .val (.int p4), .val (.int (2 : Int32)), .val (.int (0 : Int32)), .val (.ref s0), .val (.ref s1), .val (.ref s2), .val (.ref arr), .val (.ref b), .val (.int (own_b ((0 : Int32) < (2 : Int32)))), .val (.int (own_b ((0 : Int32) < (2 : Int32))))] [(.int (1 : Int32))])
      exact own_retN X122 hx hlk (t := .boolean) hret (by simp) (hb hby at_330) (z' := (1 : Int32)) rfl (by decide) (by decide) ⟨rfl, N122⟩
    refine own_st (fun _ k => XS.icmpNo X120.here hx rfl (hb hby at_164) rfl (flt (by rcases hk with rfl | rfl <;> decide)).1 k) ?_
    show own_Go p e s below _ _ _ T120 (mkF m 167 #[.val (.int p0), .val (.int p1), .val (.int p2), .val (.int p3), .val (.int p4), .val (.int (2 : Int32)), .val (.int kk), .val (.ref s0), .val (.ref s1), .val (.ref s2), .val (.ref arr), .val (.ref b), .unset, .unset] [])
    refine own_st (fun _ k => XS.aload X120.here hx rfl (hb hby at_167) rfl rfl k) ?_
    show own_Go p e s below _ _ _ T120 (mkF m 169 #[.val (.int p0), .val (.int p1), .val (.int p2), .val (.int p3), .val (.int p4), .val (.int (2 : Int32)), .val (.int kk), .val (.ref s0), .val (.ref s1), .val (.ref s2), .val (.ref arr), .val (.ref b), .unset, .unset] [(.ref s0)])
    refine own_st (fun _ k => XS.aload X120.here hx rfl (hb hby at_169) rfl rfl k) ?_
    show own_Go p e s below _ _ _ T120 (mkF m 171 #[.val (.int p0), .val (.int p1), .val (.int p2), .val (.int p3), .val (.int p4), .val (.int (2 : Int32)), .val (.int kk), .val (.ref s0), .val (.ref s1), .val (.ref s2), .val (.ref arr), .val (.ref b), .unset, .unset] [(.ref b), (.ref s0)])
    refine own_callV X120 hx hZ (y := (⟨"com/example/chronotope/chronotope/Arguments", "next", "()Ljava/lang/String;"⟩ : MethodName)) hown (hw _ (List.mem_of_getElem? (i := 53) rfl)) (hw _ (List.mem_of_getElem? (i := 54) rfl)) (hw _ (List.mem_of_getElem? (i := 56) rfl)) (hw _ (List.mem_of_getElem? (i := 55) rfl)) (hw _ (List.mem_of_getElem? (i := 30) rfl)) (hw _ (List.mem_of_getElem? (i := 57) rfl)) (by decide) e120 (rm8 l Z a0 hw [] b dd (0 : Int32) (2 : Int32) k110 [(.ref s0), (.ref s1)] s0 T118.heap n0 Z119 F_args_b F_next_b V_dd E_b ne_dd_b g_b ⟨by decide, by decide⟩ rfl) 1 (by decide) (by decide) E_b (g := (mkF m 171 #[.val (.int p0), .val (.int p1), .val (.int p2), .val (.int p3), .val (.int p4), .val (.int (2 : Int32)), .val (.int kk), .val (.ref s0), .val (.ref s1), .val (.ref s2), .val (.ref arr), .val (.ref b), .unset, .unset] [(.ref b), (.ref s0)])) rfl (by rw [hml]; rfl) (argsL := []) (rest := [(.ref s0)]) pd6 rfl rfl rfl (by show 2 * 0 + _ ≤ _; exact Nat.le_of_eq rfl) (hb hby at_171) (by decide) (by decide) ?_
    intro T123 v123 L123 X123 hQ123
    obtain ⟨rfl, N123q, K123q, y123_0, y123_1, y123_2, y123_3⟩ := hQ123
    have N123 := Fr.app N120 N123q
    replace E_s0 := E_s0.keep K123q
    replace E_s1 := E_s1.keep K123q
    replace E_s2 := E_s2.keep K123q
    replace E_b := E_b.keep K123q
    clear F_args_b
    clear F_next_b
    replace V_dd := V_dd.keep K123q (ninS ne_dd_b nin0)
    have Z124 := Nat.le_trans Z119 K123q.1
    have E_b := y123_0
    have F_args_b := y123_1
    have F_next_b := y123_2
    have V_dd := y123_3
    show own_Go p e s below _ _ _ T123 (mkF m 174 #[.val (.int p0), .val (.int p1), .val (.int p2), .val (.int p3), .val (.int p4), .val (.int (2 : Int32)), .val (.int kk), .val (.ref s0), .val (.ref s1), .val (.ref s2), .val (.ref arr), .val (.ref b), .unset, .unset] [(.ref s0), (.ref s0)])
    refine own_callV X123 hx hZ (y := (⟨"java/lang/String", "equals", "(Ljava/lang/Object;)Z"⟩ : MethodName)) hown (hw _ (List.mem_of_getElem? (i := 59) rfl)) (hw _ (List.mem_of_getElem? (i := 60) rfl)) (hw _ (List.mem_of_getElem? (i := 62) rfl)) (hw _ (List.mem_of_getElem? (i := 61) rfl)) (hw _ (List.mem_of_getElem? (i := 2) rfl)) (hw _ (List.mem_of_getElem? (i := 63) rfl)) (by decide) rfl (rm9 l Z a0 hw [] s0 T123.heap n0 Z124) 0 (by decide) (by decide) E_s0 (g := (mkF m 174 #[.val (.int p0), .val (.int p1), .val (.int p2), .val (.int p3), .val (.int p4), .val (.int (2 : Int32)), .val (.int kk), .val (.ref s0), .val (.ref s1), .val (.ref s2), .val (.ref arr), .val (.ref b), .unset, .unset] [(.ref s0), (.ref s0)])) rfl (by rw [hml]; rfl) (argsL := [(.ref s0)]) (rest := []) pd7 rfl rfl rfl (by show 2 * 0 + _ ≤ _; exact Nat.le_of_eq rfl) (hb hby at_174) (by decide) (by decide) ?_
    intro T125 v125 L125 X125 hQ125
    obtain ⟨rfl, N125q, e125⟩ := hQ125
    have N125 := Fr.app N123 N125q
    show own_Go p e s below _ _ _ T125 (mkF m 177 #[.val (.int p0), .val (.int p1), .val (.int p2), .val (.int p3), .val (.int p4), .val (.int (2 : Int32)), .val (.int kk), .val (.ref s0), .val (.ref s1), .val (.ref s2), .val (.ref arr), .val (.ref b), .unset, .unset] [(.int (1 : Int32))])
    refine own_st (fun _ k => XS.ifYes X125.here hx rfl (pc0 := 177) (pc' := 182) rfl (hb hby at_177) rfl (by decide) (by decide) (by decide) k) ?_
    show own_Go p e s below _ _ _ T125 (mkF m 182 #[.val (.int p0), .val (.int p1), .val (.int p2), .val (.int p3), .val (.int p4), .val (.int (2 : Int32)), .val (.int kk), .val (.ref s0), .val (.ref s1), .val (.ref s2), .val (.ref arr), .val (.ref b), .unset, .unset] [])
    refine own_st (fun _ k => XS.aload X125.here hx rfl (hb hby at_182) rfl rfl k) ?_
    show own_Go p e s below _ _ _ T125 (mkF m 184 #[.val (.int p0), .val (.int p1), .val (.int p2), .val (.int p3), .val (.int p4), .val (.int (2 : Int32)), .val (.int kk), .val (.ref s0), .val (.ref s1), .val (.ref s2), .val (.ref arr), .val (.ref b), .unset, .unset] [(.ref b)])
    refine own_callV X125 hx hZ (y := (⟨"com/example/chronotope/chronotope/Arguments", "hasNext", "()Z"⟩ : MethodName)) hown (hw _ (List.mem_of_getElem? (i := 46) rfl)) (hw _ (List.mem_of_getElem? (i := 47) rfl)) (hw _ (List.mem_of_getElem? (i := 49) rfl)) (hw _ (List.mem_of_getElem? (i := 48) rfl)) (hw _ (List.mem_of_getElem? (i := 30) rfl)) (hw _ (List.mem_of_getElem? (i := 50) rfl)) (by decide) e125 (rm7 l Z a0 hw [] b dd ((0 : Int32) + (1 : Int32)) (2 : Int32) k110 [(.ref s0), (.ref s1)] T123.heap n0 Z124 F_args_b F_next_b V_dd) 0 (by decide) (by decide) E_b (g := (mkF m 184 #[.val (.int p0), .val (.int p1), .val (.int p2), .val (.int p3), .val (.int p4), .val (.int (2 : Int32)), .val (.int kk), .val (.ref s0), .val (.ref s1), .val (.ref s2), .val (.ref arr), .val (.ref b), .unset, .unset] [(.ref b)])) rfl (by rw [hml]; rfl) (argsL := []) (rest := []) pd5 rfl rfl rfl (by show 2 * 0 + _ ≤ _; exact Nat.le_of_eq rfl) (hb hby at_184) (by decide) (by decide) ?_
    intro T126 v126 L126 X126 hQ126
    obtain ⟨rfl, N126q, e126⟩ := hQ126
    have N126 := Fr.app N125 N126q
    show own_Go p e s below _ _ _ T126 (mkF m 187 #[.val (.int p0), .val (.int p1), .val (.int p2), .val (.int p3), .val (.int p4), .val (.int (2 : Int32)), .val (.int kk), .val (.ref s0), .val (.ref s1), .val (.ref s2), .val (.ref arr), .val (.ref b), .unset, .unset] [(.int (own_b (((0 : Int32) + (1 : Int32)) < (2 : Int32))))])
    refine own_st (fun _ k => XS.iconst X126.here hx rfl (hb hby at_187) k) ?_
    show own_Go p e s below _ _ _ T126 (mkF m 188 #[.val (.int p0), .val (.int p1), .val (.int p2), .val (.int p3), .val (.int p4), .val (.int (2 : Int32)), .val (.int kk), .val (.ref s0), .val (.ref s1), .val (.ref s2), .val (.ref arr), .val (.ref b), .unset, .unset] [(.int (1 : Int32)), (.int (own_b (((0 : Int32) + (1 : Int32)) < (2 : Int32))))])
    refine own_st (fun _ k => XS.iload X126.here hx rfl (hb hby at_188) rfl k) ?_
    show own_Go p e s below _ _ _ T126 (mkF m 190 #[.val (.int p0), .val (.int p1), .val (.int p2), .val (.int p3), .val (.int p4), .val (.int (2 : Int32)), .val (.int kk), .val (.ref s0), .val (.ref s1), .val (.ref s2), .val (.ref arr), .val (.ref b), .unset, .unset] [(.int (2 : Int32)), (.int (1 : Int32)), (.int (own_b (((0 : Int32) + (1 : Int32)) < (2 : Int32))))])
    refine own_st (fun _ k => XS.icmpNo X126.here hx rfl (hb hby at_190) rfl (by decide) k) ?_
    show own_Go p e s below _ _ _ T126 (mkF m 193 #[.val (.int p0), .val (.int p1), .val (.int p2), .val (.int p3), .val (.int p4), .val (.int (2 : Int32)), .val (.int kk), .val (.ref s0), .val (.ref s1), .val (.ref s2), .val (.ref arr), .val (.ref b), .unset, .unset] [(.int (own_b (((0 : Int32) + (1 : Int32)) < (2 : Int32))))])
    refine own_st (fun _ k => XS.iconst X126.here hx rfl (hb hby at_193) k) ?_
    show own_Go p e s below _ _ _ T126 (mkF m 194 #[.val (.int p0), .val (.int p1), .val (.int p2), .val (.int p3), .val (.int p4), .val (.int (2 : Int32)), .val (.int kk), .val (.ref s0), .val (.ref s1), .val (.ref s2), .val (.ref arr), .val (.ref b), .unset, .unset] [(.int (1 : Int32)), (.int (own_b (((0 : Int32) + (1 : Int32)) < (2 : Int32))))])
    refine own_st (fun _ k => XS.goto X126.here hx rfl (pc0 := 194) (pc' := 198) rfl (hb hby at_194) (by decide) (by decide) k) ?_
    show own_Go p e s below _ _ _ T126 (mkF m 198 #[.val (.int p0), .val (.int p1), .val (.int p2), .val (.int p3), .val (.int p4), .val (.int (2 : Int32)), .val (.int kk), .val (.ref s0), .val (.ref s1), .val (.ref s2), .val (.ref arr), .val (.ref b), .unset, .unset] [(.int (1 : Int32)), (.int (own_b (((0 : Int32) + (1 : Int32)) < (2 : Int32))))])
    refine own_st (fun _ k => XS.icmpYes X126.here hx rfl (pc0 := 198) (pc' := 203) rfl (hb hby at_198) rfl (teq (own_bt (by decide))).1 (by decide) (by decide) k) ?_
    show own_Go p e s below _ _ _ T126 (mkF m 203 #[.val (.int p0), .val (.int p1), .val (.int p2), .val (.int p3), .val (.int p4), .val (.int (2 : Int32)), .val (.int kk), .val (.ref s0), .val (.ref s1), .val (.ref s2), .val (.ref arr), .val (.ref b), .unset, .unset] [])
    refine own_st (fun _ k => XS.iload X126.here hx rfl (hb hby at_203) rfl k) ?_
    show own_Go p e s below _ _ _ T126 (mkF m 205 #[.val (.int p0), .val (.int p1), .val (.int p2), .val (.int p3), .val (.int p4), .val (.int (2 : Int32)), .val (.int kk), .val (.ref s0), .val (.ref s1), .val (.ref s2), .val (.ref arr), .val (.ref b), .unset, .unset] [(.int kk)])
    refine own_st (fun _ k => XS.iconst X126.here hx rfl (hb hby at_205) k) ?_
    show own_Go p e s below _ _ _ T126 (mkF m 206 #[.val (.int p0), .val (.int p1), .val (.int p2), .val (.int p3), .val (.int p4), .val (.int (2 : Int32)), .val (.int kk), .val (.ref s0), .val (.ref s1), .val (.ref s2), .val (.ref arr), .val (.ref b), .unset, .unset] [(.int (2 : Int32)), (.int kk)])
    rcases hk with rfl | hk
    · show own_Go p e s below _ _ _ T126 (mkF m 206 #[.val (.int p0), .val (.int p1), .val (.int p2), .val (.int p3), .val (.int p4), .val (.int (2 : Int32)), .val (.int (1 : Int32)), .val (.ref s0), .val (.ref s1), .val (.ref s2), .val (.ref arr), .val (.ref b), .unset, .unset] [(.int (2 : Int32)), (.int (1 : Int32))])
      refine own_st (fun _ k => XS.icmpYes X126.here hx rfl (pc0 := 206) (pc' := 245) rfl (hb hby at_206) rfl (by decide) (by decide) (by decide) k) ?_
      show own_Go p e s below _ _ _ T126 (mkF m 245 #[.val (.int p0), .val (.int p1), .val (.int p2), .val (.int p3), .val (.int p4), .val (.int (2 : Int32)), .val (.int (1 : Int32)), .val (.ref s0), .val (.ref s1), .val (.ref s2), .val (.ref arr), .val (.ref b), .unset, .unset] [])
      refine own_st (fun _ k => XS.iload X126.here hx rfl (hb hby at_245) rfl k) ?_
      show own_Go p e s below _ _ _ T126 (mkF m 247 #[.val (.int p0), .val (.int p1), .val (.int p2), .val (.int p3), .val (.int p4), .val (.int (2 : Int32)), .val (.int (1 : Int32)), .val (.ref s0), .val (.ref s1), .val (.ref s2), .val (.ref arr), .val (.ref b), .unset, .unset] [(.int (1 : Int32))])
      refine own_st (fun _ k => XS.iconst X126.here hx rfl (hb hby at_247) k) ?_
      show own_Go p e s below _ _ _ T126 (mkF m 248 #[.val (.int p0), .val (.int p1), .val (.int p2), .val (.int p3), .val (.int p4), .val (.int (2 : Int32)), .val (.int (1 : Int32)), .val (.ref s0), .val (.ref s1), .val (.ref s2), .val (.ref arr), .val (.ref b), .unset, .unset] [(.int (3 : Int32)), (.int (1 : Int32))])
      refine own_st (fun _ k => XS.icmpYes X126.here hx rfl (pc0 := 248) (pc' := 287) rfl (hb hby at_248) rfl (by decide) (by decide) (by decide) k) ?_
      show own_Go p e s below _ _ _ T126 (mkF m 287 #[.val (.int p0), .val (.int p1), .val (.int p2), .val (.int p3), .val (.int p4), .val (.int (2 : Int32)), .val (.int (1 : Int32)), .val (.ref s0), .val (.ref s1), .val (.ref s2), .val (.ref arr), .val (.ref b), .unset, .unset] [])
      refine own_st (fun _ k => XS.aload X126.here hx rfl (hb hby at_287) rfl rfl k) ?_
      show own_Go p e s below _ _ _ T126 (mkF m 289 #[.val (.int p0), .val (.int p1), .val (.int p2), .val (.int p3), .val (.int p4), .val (.int (2 : Int32)), .val (.int (1 : Int32)), .val (.ref s0), .val (.ref s1), .val (.ref s2), .val (.ref arr), .val (.ref b), .unset, .unset] [(.ref b)])
      refine own_callV X126 hx hZ (y := (⟨"com/example/chronotope/chronotope/Arguments", "hasNext", "()Z"⟩ : MethodName)) hown (hw _ (List.mem_of_getElem? (i := 46) rfl)) (hw _ (List.mem_of_getElem? (i := 47) rfl)) (hw _ (List.mem_of_getElem? (i := 49) rfl)) (hw _ (List.mem_of_getElem? (i := 48) rfl)) (hw _ (List.mem_of_getElem? (i := 30) rfl)) (hw _ (List.mem_of_getElem? (i := 50) rfl)) (by decide) e126 (rm7 l Z a0 hw [] b dd ((0 : Int32) + (1 : Int32)) (2 : Int32) k110 [(.ref s0), (.ref s1)] T123.heap n0 Z124 F_args_b F_next_b V_dd) 0 (by decide) (by decide) E_b (g := (mkF m 289 #[.val (.int p0), .val (.int p1), .val (.int p2), .val (.int p3), .val (.int p4), .val (.int (2 : Int32)), .val (.int (1 : Int32)), .val (.ref s0), .val (.ref s1), .val (.ref s2), .val (.ref arr), .val (.ref b), .unset, .unset] [(.ref b)])) rfl (by rw [hml]; rfl) (argsL := []) (rest := []) pd5 rfl rfl rfl (by show 2 * 0 + _ ≤ _; exact Nat.le_of_eq rfl) (hb hby at_289) (by decide) (by decide) ?_
      intro T127 v127 L127 X127 hQ127
      obtain ⟨rfl, N127q, e127⟩ := hQ127
      have N127 := Fr.app N126 N127q
      show own_Go p e s below _ _ _ T127 (mkF m 292 #[.val (.int p0), .val (.int p1), .val (.int p2), .val (.int p3), .val (.int p4), .val (.int (2 : Int32)), .val (.int (1 : Int32)), .val (.ref s0), .val (.ref s1), .val (.ref s2), .val (.ref arr), .val (.ref b), .unset, .unset] [(.int (own_b (((0 : Int32) + (1 : Int32)) < (2 : Int32))))])
      refine own_st (fun _ k => XS.istore X127.here hx rfl (hb hby at_292) rfl (l' := #[.val (.int p0), .val (.int p1), .val (.int p2), .val (.int p3), .val (.int p4), .val (.int (2 : Int32)), .val (.int (1 : Int32)), .val (.ref s0), .val (.ref s1), .val (.ref s2), .val (.ref arr), .val (.ref b), .val (.int (own_b (((0 : Int32) + (1 : Int32)) < (2 : Int32)))), .unset]) rfl k) ?_
      show own_Go p e s below _ _ _ T127 (mkF m 294 #[.val (.int p0), .val (.int p1), .val (.int p2), .val (.int p3), .val (.int p4), .val (.int (2 : Int32)), .val (.int (1 : Int32)), .val (.ref s0), .val (.ref s1), .val (.ref s2), .val (.ref arr), .val (.ref b), .val (.int (own_b (((0 : Int32) + (1 : Int32)) < (2 : Int32)))), .unset] [])
      refine own_st (fun _ k => XS.aload X127.here hx rfl (hb hby at_294) rfl rfl k) ?_
      show own_Go p e s below _ _ _ T127 (mkF m 296 #[.val (.int p0), .val (.int p1), .val (.int p2), .val (.int p3), .val (.int p4), .val (.int (2 : Int32)), .val (.int (1 : Int32)), .val (.ref s0), .val (.ref s1), .val (.ref s2), .val (.ref arr), .val (.ref b), .val (.int (own_b (((0 : Int32) + (1 : Int32)) < (2 : Int32)))), .unset] [(.ref b)])
      refine own_callV X127 hx hZ (y := (⟨"com/example/chronotope/chronotope/Arguments", "hasNext", "()Z"⟩ : MethodName)) hown (hw _ (List.mem_of_getElem? (i := 46) rfl)) (hw _ (List.mem_of_getElem? (i := 47) rfl)) (hw _ (List.mem_of_getElem? (i := 49) rfl)) (hw _ (List.mem_of_getElem? (i := 48) rfl)) (hw _ (List.mem_of_getElem? (i := 30) rfl)) (hw _ (List.mem_of_getElem? (i := 50) rfl)) (by decide) e127 (rm7 l Z a0 hw [] b dd ((0 : Int32) + (1 : Int32)) (2 : Int32) k110 [(.ref s0), (.ref s1)] T123.heap n0 Z124 F_args_b F_next_b V_dd) 0 (by decide) (by decide) E_b (g := (mkF m 296 #[.val (.int p0), .val (.int p1), .val (.int p2), .val (.int p3), .val (.int p4), .val (.int (2 : Int32)), .val (.int (1 : Int32)), .val (.ref s0), .val (.ref s1), .val (.ref s2), .val (.ref arr), .val (.ref b), .val (.int (own_b (((0 : Int32) + (1 : Int32)) < (2 : Int32)))), .unset] [(.ref b)])) rfl (by rw [hml]; rfl) (argsL := []) (rest := []) pd5 rfl rfl rfl (by show 2 * 0 + _ ≤ _; exact Nat.le_of_eq rfl) (hb hby at_296) (by decide) (by decide) ?_
      intro T128 v128 L128 X128 hQ128
      obtain ⟨rfl, N128q, e128⟩ := hQ128
      have N128 := Fr.app N127 N128q
      show own_Go p e s below _ _ _ T128 (mkF m 299 #[.val (.int p0), .val (.int p1), .val (.int p2), .val (.int p3), .val (.int p4), .val (.int (2 : Int32)), .val (.int (1 : Int32)), .val (.ref s0), .val (.ref s1), .val (.ref s2), .val (.ref arr), .val (.ref b), .val (.int (own_b (((0 : Int32) + (1 : Int32)) < (2 : Int32)))), .unset] [(.int (own_b (((0 : Int32) + (1 : Int32)) < (2 : Int32))))])
      refine own_st (fun _ k => XS.istore X128.here hx rfl (hb hby at_299) rfl (l' := #[.val (.int p0), .val (.int p1), .val (.int p2), .val (.int p3), .val (.int p4), .val (.int (2 : Int32)), .val (.int (1 : Int32)), .val (.ref s0), .val (.ref s1), .val (.ref s2), .val (.ref arr), .val (.ref b), .val (.int (own_b (((0 : Int32) + (1 : Int32)) < (2 : Int32)))), .val (.int (own_b (((0 : Int32) + (1 : Int32)) < (2 : Int32))))]) rfl k) ?_
      show own_Go p e s below _ _ _ T128 (mkF m 301 #[.val (.int p0), .val (.int p1), .val (.int p2), .val (.int p3), .val (.int p4), .val (.int (2 : Int32)), .val (.int (1 : Int32)), .val (.ref s0), .val (.ref s1), .val (.ref s2), .val (.ref arr), .val (.ref b), .val (.int (own_b (((0 : Int32) + (1 : Int32)) < (2 : Int32)))), .val (.int (own_b (((0 : Int32) + (1 : Int32)) < (2 : Int32))))] [])
      refine own_st (fun _ k => XS.iload X128.here hx rfl (hb hby at_301) rfl k) ?_
      show own_Go p e s below _ _ _ T128 (mkF m 303 #[.val (.int p0), .val (.int p1), .val (.int p2), .val (.int p3), .val (.int p4), .val (.int (2 : Int32)), .val (.int (1 : Int32)), .val (.ref s0), .val (.ref s1), .val (.ref s2), .val (.ref arr), .val (.ref b), .val (.int (own_b (((0 : Int32) + (1 : Int32)) < (2 : Int32)))), .val (.int (own_b (((0 : Int32) + (1 : Int32)) < (2 : Int32))))] [(.int (own_b (((0 : Int32) + (1 : Int32)) < (2 : Int32))))])
      refine own_st (fun _ k => XS.iload X128.here hx rfl (hb hby at_303) rfl k) ?_
      show own_Go p e s below _ _ _ T128 (mkF m 305 #[.val (.int p0), .val (.int p1), .val (.int p2), .val (.int p3), .val (.int p4), .val (.int (2 : Int32)), .val (.int (1 : Int32)), .val (.ref s0), .val (.ref s1), .val (.ref s2), .val (.ref arr), .val (.ref b), .val (.int (own_b (((0 : Int32) + (1 : Int32)) < (2 : Int32)))), .val (.int (own_b (((0 : Int32) + (1 : Int32)) < (2 : Int32))))] [(.int (1 : Int32)), (.int (own_b (((0 : Int32) + (1 : Int32)) < (2 : Int32))))])
      refine own_st (fun _ k => XS.iload X128.here hx rfl (hb hby at_305) rfl k) ?_
      show own_Go p e s below _ _ _ T128 (mkF m 307 #[.val (.int p0), .val (.int p1), .val (.int p2), .val (.int p3), .val (.int p4), .val (.int (2 : Int32)), .val (.int (1 : Int32)), .val (.ref s0), .val (.ref s1), .val (.ref s2), .val (.ref arr), .val (.ref b), .val (.int (own_b (((0 : Int32) + (1 : Int32)) < (2 : Int32)))), .val (.int (own_b (((0 : Int32) + (1 : Int32)) < (2 : Int32))))] [(.int (2 : Int32)), (.int (1 : Int32)), (.int (own_b (((0 : Int32) + (1 : Int32)) < (2 : Int32))))])
      refine own_st (fun _ k => XS.icmpNo X128.here hx rfl (hb hby at_307) rfl (by decide) k) ?_
      show own_Go p e s below _ _ _ T128 (mkF m 310 #[.val (.int p0), .val (.int p1), .val (.int p2), .val (.int p3), .val (.int p4), .val (.int (2 : Int32)), .val (.int (1 : Int32)), .val (.ref s0), .val (.ref s1), .val (.ref s2), .val (.ref arr), .val (.ref b), .val (.int (own_b (((0 : Int32) + (1 : Int32)) < (2 : Int32)))), .val (.int (own_b (((0 : Int32) + (1 : Int32)) < (2 : Int32))))] [(.int (own_b (((0 : Int32) + (1 : Int32)) < (2 : Int32))))])
      refine own_st (fun _ k => XS.iconst X128.here hx rfl (hb hby at_310) k) ?_
      show own_Go p e s below _ _ _ T128 (mkF m 311 #[.val (.int p0), .val (.int p1), .val (.int p2), .val (.int p3), .val (.int p4), .val (.int (2 : Int32)), .val (.int (1 : Int32)), .val (.ref s0), .val (.ref s1), .val (.ref s2), .val (.ref arr), .val (.ref b), .val (.int (own_b (((0 : Int32) + (1 : Int32)) < (2 : Int32)))), .val (.int (own_b (((0 : Int32) + (1 : Int32)) < (2 : Int32))))] [(.int (1 : Int32)), (.int (own_b (((0 : Int32) + (1 : Int32)) < (2 : Int32))))])
      refine own_st (fun _ k => XS.goto X128.here hx rfl (pc0 := 311) (pc' := 315) rfl (hb hby at_311) (by decide) (by decide) k) ?_
      show own_Go p e s below _ _ _ T128 (mkF m 315 #[.val (.int p0), .val (.int p1), .val (.int p2), .val (.int p3), .val (.int p4), .val (.int (2 : Int32)), .val (.int (1 : Int32)), .val (.ref s0), .val (.ref s1), .val (.ref s2), .val (.ref arr), .val (.ref b), .val (.int (own_b (((0 : Int32) + (1 : Int32)) < (2 : Int32)))), .val (.int (own_b (((0 : Int32) + (1 : Int32)) < (2 : Int32))))] [(.int (1 : Int32)), (.int (own_b (((0 : Int32) + (1 : Int32)) < (2 : Int32))))])
      refine own_st (fun _ k => XS.icmpNo X128.here hx rfl (hb hby at_315) rfl (teq (own_bt (by decide))).2 k) ?_
      show own_Go p e s below _ _ _ T128 (mkF m 318 #[.val (.int p0), .val (.int p1), .val (.int p2), .val (.int p3), .val (.int p4), .val (.int (2 : Int32)), .val (.int (1 : Int32)), .val (.ref s0), .val (.ref s1), .val (.ref s2), .val (.ref arr), .val (.ref b), .val (.int (own_b (((0 : Int32) + (1 : Int32)) < (2 : Int32)))), .val (.int (own_b (((0 : Int32) + (1 : Int32)) < (2 : Int32))))] [])
      refine own_st (fun _ k => XS.iload X128.here hx rfl (hb hby at_318) rfl k) ?_
      show own_Go p e s below _ _ _ T128 (mkF m 320 #[.val (.int p0), .val (.int p1), .val (.int p2), .val (.int p3), .val (.int p4), .val (.int (2 : Int32)), .val (.int (1 : Int32)), .val (.ref s0), .val (.ref s1), .val (.ref s2), .val (.ref arr), .val (.ref b), .val (.int (own_b (((0 : Int32) + (1 : Int32)) < (2 : Int32)))), .val (.int (own_b (((0 : Int32) + (1 : Int32)) < (2 : Int32))))] [(.int (own_b (((0 : Int32) + (1 : Int32)) < (2 : Int32))))])
      refine own_st (fun _ k => XS.iload X128.here hx rfl (hb hby at_320) rfl k) ?_
      show own_Go p e s below _ _ _ T128 (mkF m 322 #[.val (.int p0), .val (.int p1), .val (.int p2), .val (.int p3), .val (.int p4), .val (.int (2 : Int32)), .val (.int (1 : Int32)), .val (.ref s0), .val (.ref s1), .val (.ref s2), .val (.ref arr), .val (.ref b), .val (.int (own_b (((0 : Int32) + (1 : Int32)) < (2 : Int32)))), .val (.int (own_b (((0 : Int32) + (1 : Int32)) < (2 : Int32))))] [(.int (own_b (((0 : Int32) + (1 : Int32)) < (2 : Int32)))), (.int (own_b (((0 : Int32) + (1 : Int32)) < (2 : Int32))))])
      refine own_st (fun _ k => XS.icmpNo X128.here hx rfl (hb hby at_322) rfl (teq rfl).2 k) ?_
      show own_Go p e s below _ _ _ T128 (mkF m 325 #[.val (.int p0), .val (.int p1), .val (.int p2), .val (.int p3), .val (.int p4), .val (.int (2 : Int32)), .val (.int (1 : Int32)), .val (.ref s0), .val (.ref s1), .val (.ref s2), .val (.ref arr), .val (.ref b), .val (.int (own_b (((0 : Int32) + (1 : Int32)) < (2 : Int32)))), .val (.int (own_b (((0 : Int32) + (1 : Int32)) < (2 : Int32))))] [])
      refine own_st (fun _ k => XS.iconst X128.here hx rfl (hb hby at_325) k) ?_
      show own_Go p e s below _ _ _ T128 (mkF m 326 #[.val (.int p0), .val (.int p1), .val (.int p2), .val (.int p3), .val (.int p4), .val (.int (2 : Int32)), .val (.int (1 : Int32)), .val (.ref s0), .val (.ref s1), .val (.ref s2), .val (.ref arr), .val (.ref b), .val (.int (own_b (((0 : Int32) + (1 : Int32)) < (2 : Int32)))), .val (.int (own_b (((0 : Int32) + (1 : Int32)) < (2 : Int32))))] [(.int (1 : Int32))])
      refine own_st (fun _ k => XS.goto X128.here hx rfl (pc0 := 326) (pc' := 330) rfl (hb hby at_326) (by decide) (by decide) k) ?_
      show own_Go p e s below _ _ _ T128 (mkF m 330 #[.val (.int p0), .val (.int p1), .val (.int p2), .val (.int p3), .val (.int p4), .val (.int (2 : Int32)), .val (.int (1 : Int32)), .val (.ref s0), .val (.ref s1), .val (.ref s2), .val (.ref arr), .val (.ref b), .val (.int (own_b (((0 : Int32) + (1 : Int32)) < (2 : Int32)))), .val (.int (own_b (((0 : Int32) + (1 : Int32)) < (2 : Int32))))] [(.int (1 : Int32))])
      exact own_retN X128 hx hlk (t := .boolean) hret (by simp) (hb hby at_330) (z' := (1 : Int32)) rfl (by decide) (by decide) ⟨rfl, N128⟩
    refine own_st (fun _ k => XS.icmpNo X126.here hx rfl (hb hby at_206) rfl (flt (by subst hk; decide)).1 k) ?_
    show own_Go p e s below _ _ _ T126 (mkF m 209 #[.val (.int p0), .val (.int p1), .val (.int p2), .val (.int p3), .val (.int p4), .val (.int (2 : Int32)), .val (.int kk), .val (.ref s0), .val (.ref s1), .val (.ref s2), .val (.ref arr), .val (.ref b), .unset, .unset] [])
    obtain rfl : kk = 2 := hk
    show own_Go p e s below _ _ _ T126 (mkF m 209 #[.val (.int p0), .val (.int p1), .val (.int p2), .val (.int p3), .val (.int p4), .val (.int (2 : Int32)), .val (.int (2 : Int32)), .val (.ref s0), .val (.ref s1), .val (.ref s2), .val (.ref arr), .val (.ref b), .unset, .unset] [])
    refine own_st (fun _ k => XS.aload X126.here hx rfl (hb hby at_209) rfl rfl k) ?_
    show own_Go p e s below _ _ _ T126 (mkF m 211 #[.val (.int p0), .val (.int p1), .val (.int p2), .val (.int p3), .val (.int p4), .val (.int (2 : Int32)), .val (.int (2 : Int32)), .val (.ref s0), .val (.ref s1), .val (.ref s2), .val (.ref arr), .val (.ref b), .unset, .unset] [(.ref s1)])
    refine own_st (fun _ k => XS.aload X126.here hx rfl (hb hby at_211) rfl rfl k) ?_
    show own_Go p e s below _ _ _ T126 (mkF m 213 #[.val (.int p0), .val (.int p1), .val (.int p2), .val (.int p3), .val (.int p4), .val (.int (2 : Int32)), .val (.int (2 : Int32)), .val (.ref s0), .val (.ref s1), .val (.ref s2), .val (.ref arr), .val (.ref b), .unset, .unset] [(.ref b), (.ref s1)])
    refine own_callV X126 hx hZ (y := (⟨"com/example/chronotope/chronotope/Arguments", "next", "()Ljava/lang/String;"⟩ : MethodName)) hown (hw _ (List.mem_of_getElem? (i := 53) rfl)) (hw _ (List.mem_of_getElem? (i := 54) rfl)) (hw _ (List.mem_of_getElem? (i := 56) rfl)) (hw _ (List.mem_of_getElem? (i := 55) rfl)) (hw _ (List.mem_of_getElem? (i := 30) rfl)) (hw _ (List.mem_of_getElem? (i := 57) rfl)) (by decide) e126 (rm8 l Z a0 hw [] b dd ((0 : Int32) + (1 : Int32)) (2 : Int32) k110 [(.ref s0), (.ref s1)] s1 T123.heap n0 Z124 F_args_b F_next_b V_dd E_b ne_dd_b g_b ⟨by decide, by decide⟩ rfl) 1 (by decide) (by decide) E_b (g := (mkF m 213 #[.val (.int p0), .val (.int p1), .val (.int p2), .val (.int p3), .val (.int p4), .val (.int (2 : Int32)), .val (.int (2 : Int32)), .val (.ref s0), .val (.ref s1), .val (.ref s2), .val (.ref arr), .val (.ref b), .unset, .unset] [(.ref b), (.ref s1)])) rfl (by rw [hml]; rfl) (argsL := []) (rest := [(.ref s1)]) pd6 rfl rfl rfl (by show 2 * 0 + _ ≤ _; exact Nat.le_of_eq rfl) (hb hby at_213) (by decide) (by decide) ?_
    intro T129 v129 L129 X129 hQ129
    obtain ⟨rfl, N129q, K129q, y129_0, y129_1, y129_2, y129_3⟩ := hQ129
    have N129 := Fr.app N126 N129q
    replace E_s0 := E_s0.keep K129q
    replace E_s1 := E_s1.keep K129q
    replace E_s2 := E_s2.keep K129q
    replace E_b := E_b.keep K129q
    replace V_dd := V_dd.keep K129q (ninS ne_dd_b nin0)
    clear F_args_b
    clear F_next_b
    have Z130 := Nat.le_trans Z124 K129q.1
    have E_b := y129_0
    have F_args_b := y129_1
    have F_next_b := y129_2
    have V_dd := y129_3
    show own_Go p e s below _ _ _ T129 (mkF m 216 #[.val (.int p0), .val (.int p1), .val (.int p2), .val (.int p3), .val (.int p4), .val (.int (2 : Int32)), .val (.int (2 : Int32)), .val (.ref s0), .val (.ref s1), .val (.ref s2), .val (.ref arr), .val (.ref b), .unset, .unset] [(.ref s1), (.ref s1)])
    refine own_callV X129 hx hZ (y := (⟨"java/lang/String", "equals", "(Ljava/lang/Object;)Z"⟩ : MethodName)) hown (hw _ (List.mem_of_getElem? (i := 59) rfl)) (hw _ (List.mem_of_getElem? (i := 60) rfl)) (hw _ (List.mem_of_getElem? (i := 62) rfl)) (hw _ (List.mem_of_getElem? (i := 61) rfl)) (hw _ (List.mem_of_getElem? (i := 2) rfl)) (hw _ (List.mem_of_getElem? (i := 63) rfl)) (by decide) rfl (rm9 l Z a0 hw [] s1 T129.heap n0 Z130) 0 (by decide) (by decide) E_s1 (g := (mkF m 216 #[.val (.int p0), .val (.int p1), .val (.int p2), .val (.int p3), .val (.int p4), .val (.int (2 : Int32)), .val (.int (2 : Int32)), .val (.ref s0), .val (.ref s1), .val (.ref s2), .val (.ref arr), .val (.ref b), .unset, .unset] [(.ref s1), (.ref s1)])) rfl (by rw [hml]; rfl) (argsL := [(.ref s1)]) (rest := []) pd7 rfl rfl rfl (by show 2 * 0 + _ ≤ _; exact Nat.le_of_eq rfl) (hb hby at_216) (by decide) (by decide) ?_
    intro T131 v131 L131 X131 hQ131
    obtain ⟨rfl, N131q, e131⟩ := hQ131
    have N131 := Fr.app N129 N131q
    show own_Go p e s below _ _ _ T131 (mkF m 219 #[.val (.int p0), .val (.int p1), .val (.int p2), .val (.int p3), .val (.int p4), .val (.int (2 : Int32)), .val (.int (2 : Int32)), .val (.ref s0), .val (.ref s1), .val (.ref s2), .val (.ref arr), .val (.ref b), .unset, .unset] [(.int (1 : Int32))])
    refine own_st (fun _ k => XS.ifYes X131.here hx rfl (pc0 := 219) (pc' := 224) rfl (hb hby at_219) rfl (by decide) (by decide) (by decide) k) ?_
    show own_Go p e s below _ _ _ T131 (mkF m 224 #[.val (.int p0), .val (.int p1), .val (.int p2), .val (.int p3), .val (.int p4), .val (.int (2 : Int32)), .val (.int (2 : Int32)), .val (.ref s0), .val (.ref s1), .val (.ref s2), .val (.ref arr), .val (.ref b), .unset, .unset] [])
    refine own_st (fun _ k => XS.aload X131.here hx rfl (hb hby at_224) rfl rfl k) ?_
    show own_Go p e s below _ _ _ T131 (mkF m 226 #[.val (.int p0), .val (.int p1), .val (.int p2), .val (.int p3), .val (.int p4), .val (.int (2 : Int32)), .val (.int (2 : Int32)), .val (.ref s0), .val (.ref s1), .val (.ref s2), .val (.ref arr), .val (.ref b), .unset, .unset] [(.ref b)])
    refine own_callV X131 hx hZ (y := (⟨"com/example/chronotope/chronotope/Arguments", "hasNext", "()Z"⟩ : MethodName)) hown (hw _ (List.mem_of_getElem? (i := 46) rfl)) (hw _ (List.mem_of_getElem? (i := 47) rfl)) (hw _ (List.mem_of_getElem? (i := 49) rfl)) (hw _ (List.mem_of_getElem? (i := 48) rfl)) (hw _ (List.mem_of_getElem? (i := 30) rfl)) (hw _ (List.mem_of_getElem? (i := 50) rfl)) (by decide) e131 (rm7 l Z a0 hw [] b dd (((0 : Int32) + (1 : Int32)) + (1 : Int32)) (2 : Int32) k110 [(.ref s0), (.ref s1)] T129.heap n0 Z130 F_args_b F_next_b V_dd) 0 (by decide) (by decide) E_b (g := (mkF m 226 #[.val (.int p0), .val (.int p1), .val (.int p2), .val (.int p3), .val (.int p4), .val (.int (2 : Int32)), .val (.int (2 : Int32)), .val (.ref s0), .val (.ref s1), .val (.ref s2), .val (.ref arr), .val (.ref b), .unset, .unset] [(.ref b)])) rfl (by rw [hml]; rfl) (argsL := []) (rest := []) pd5 rfl rfl rfl (by show 2 * 0 + _ ≤ _; exact Nat.le_of_eq rfl) (hb hby at_226) (by decide) (by decide) ?_
    intro T132 v132 L132 X132 hQ132
    obtain ⟨rfl, N132q, e132⟩ := hQ132
    have N132 := Fr.app N131 N132q
    show own_Go p e s below _ _ _ T132 (mkF m 229 #[.val (.int p0), .val (.int p1), .val (.int p2), .val (.int p3), .val (.int p4), .val (.int (2 : Int32)), .val (.int (2 : Int32)), .val (.ref s0), .val (.ref s1), .val (.ref s2), .val (.ref arr), .val (.ref b), .unset, .unset] [(.int (own_b ((((0 : Int32) + (1 : Int32)) + (1 : Int32)) < (2 : Int32))))])
    refine own_st (fun _ k => XS.iconst X132.here hx rfl (hb hby at_229) k) ?_
    show own_Go p e s below _ _ _ T132 (mkF m 230 #[.val (.int p0), .val (.int p1), .val (.int p2), .val (.int p3), .val (.int p4), .val (.int (2 : Int32)), .val (.int (2 : Int32)), .val (.ref s0), .val (.ref s1), .val (.ref s2), .val (.ref arr), .val (.ref b), .unset, .unset] [(.int (2 : Int32)), (.int (own_b ((((0 : Int32) + (1 : Int32)) + (1 : Int32)) < (2 : Int32))))])
    refine own_st (fun _ k => XS.iload X132.here hx rfl (hb hby at_230) rfl k) ?_
    show own_Go p e s below _ _ _ T132 (mkF m 232 #[.val (.int p0), .val (.int p1), .val (.int p2), .val (.int p3), .val (.int p4), .val (.int (2 : Int32)), .val (.int (2 : Int32)), .val (.ref s0), .val (.ref s1), .val (.ref s2), .val (.ref arr), .val (.ref b), .unset, .unset] [(.int (2 : Int32)), (.int (2 : Int32)), (.int (own_b ((((0 : Int32) + (1 : Int32)) + (1 : Int32)) < (2 : Int32))))])
    refine own_st (fun _ k => XS.icmpYes X132.here hx rfl (pc0 := 232) (pc' := 239) rfl (hb hby at_232) rfl (by decide) (by decide) (by decide) k) ?_
    show own_Go p e s below _ _ _ T132 (mkF m 239 #[.val (.int p0), .val (.int p1), .val (.int p2), .val (.int p3), .val (.int p4), .val (.int (2 : Int32)), .val (.int (2 : Int32)), .val (.ref s0), .val (.ref s1), .val (.ref s2), .val (.ref arr), .val (.ref b), .unset, .unset] [(.int (own_b ((((0 : Int32) + (1 : Int32)) + (1 : Int32)) < (2 : Int32))))])
    refine own_st (fun _ k => XS.iconst X132.here hx rfl (hb hby at_239) k) ?_
    show own_Go p e s below _ _ _ T132 (mkF m 240 #[.val (.int p0), .val (.int p1), .val (.int p2), .val (.int p3), .val (.int p4), .val (.int (2 : Int32)), .val (.int (2 : Int32)), .val (.ref s0), .val (.ref s1), .val (.ref s2), .val (.ref arr), .val (.ref b), .unset, .unset] [(.int (0 : Int32)), (.int (own_b ((((0 : Int32) + (1 : Int32)) + (1 : Int32)) < (2 : Int32))))])
    refine own_st (fun _ k => XS.icmpYes X132.here hx rfl (pc0 := 240) (pc' := 245) rfl (hb hby at_240) rfl (teq (own_bf (by decide))).1 (by decide) (by decide) k) ?_
    show own_Go p e s below _ _ _ T132 (mkF m 245 #[.val (.int p0), .val (.int p1), .val (.int p2), .val (.int p3), .val (.int p4), .val (.int (2 : Int32)), .val (.int (2 : Int32)), .val (.ref s0), .val (.ref s1), .val (.ref s2), .val (.ref arr), .val (.ref b), .unset, .unset] [])
    refine own_st (fun _ k => XS.iload X132.here hx rfl (hb hby at_245) rfl k) ?_
    show own_Go p e s below _ _ _ T132 (mkF m 247 #[.val (.int p0), .val (.int p1), .val (.int p2), .val (.int p3), .val (.int p4), .val (.int (2 : Int32)), .val (.int (2 : Int32)), .val (.ref s0), .val (.ref s1), .val (.ref s2), .val (.ref arr), .val (.ref b), .unset, .unset] [(.int (2 : Int32))])
    refine own_st (fun _ k => XS.iconst X132.here hx rfl (hb hby at_247) k) ?_
    show own_Go p e s below _ _ _ T132 (mkF m 248 #[.val (.int p0), .val (.int p1), .val (.int p2), .val (.int p3), .val (.int p4), .val (.int (2 : Int32)), .val (.int (2 : Int32)), .val (.ref s0), .val (.ref s1), .val (.ref s2), .val (.ref arr), .val (.ref b), .unset, .unset] [(.int (3 : Int32)), (.int (2 : Int32))])
    refine own_st (fun _ k => XS.icmpYes X132.here hx rfl (pc0 := 248) (pc' := 287) rfl (hb hby at_248) rfl (by decide) (by decide) (by decide) k) ?_
    show own_Go p e s below _ _ _ T132 (mkF m 287 #[.val (.int p0), .val (.int p1), .val (.int p2), .val (.int p3), .val (.int p4), .val (.int (2 : Int32)), .val (.int (2 : Int32)), .val (.ref s0), .val (.ref s1), .val (.ref s2), .val (.ref arr), .val (.ref b), .unset, .unset] [])
    refine own_st (fun _ k => XS.aload X132.here hx rfl (hb hby at_287) rfl rfl k) ?_
    show own_Go p e s below _ _ _ T132 (mkF m 289 #[.val (.int p0), .val (.int p1), .val (.int p2), .val (.int p3), .val (.int p4), .val (.int (2 : Int32)), .val (.int (2 : Int32)), .val (.ref s0), .val (.ref s1), .val (.ref s2), .val (.ref arr), .val (.ref b), .unset, .unset] [(.ref b)])
    refine own_callV X132 hx hZ (y := (⟨"com/example/chronotope/chronotope/Arguments", "hasNext", "()Z"⟩ : MethodName)) hown (hw _ (List.mem_of_getElem? (i := 46) rfl)) (hw _ (List.mem_of_getElem? (i := 47) rfl)) (hw _ (List.mem_of_getElem? (i := 49) rfl)) (hw _ (List.mem_of_getElem? (i := 48) rfl)) (hw _ (List.mem_of_getElem? (i := 30) rfl)) (hw _ (List.mem_of_getElem? (i := 50) rfl)) (by decide) e132 (rm7 l Z a0 hw [] b dd (((0 : Int32) + (1 : Int32)) + (1 : Int32)) (2 : Int32) k110 [(.ref s0), (.ref s1)] T129.heap n0 Z130 F_args_b F_next_b V_dd) 0 (by decide) (by decide) E_b (g := (mkF m 289 #[.val (.int p0), .val (.int p1), .val (.int p2), .val (.int p3), .val (.int p4), .val (.int (2 : Int32)), .val (.int (2 : Int32)), .val (.ref s0), .val (.ref s1), .val (.ref s2), .val (.ref arr), .val (.ref b), .unset, .unset] [(.ref b)])) rfl (by rw [hml]; rfl) (argsL := []) (rest := []) pd5 rfl rfl rfl (by show 2 * 0 + _ ≤ _; exact Nat.le_of_eq rfl) (hb hby at_289) (by decide) (by decide) ?_
    intro T133 v133 L133 X133 hQ133
    obtain ⟨rfl, N133q, e133⟩ := hQ133
    have N133 := Fr.app N132 N133q
    show own_Go p e s below _ _ _ T133 (mkF m 292 #[.val (.int p0), .val (.int p1), .val (.int p2), .val (.int p3), .val (.int p4), .val (.int (2 : Int32)), .val (.int (2 : Int32)), .val (.ref s0), .val (.ref s1), .val (.ref s2), .val (.ref arr), .val (.ref b), .unset, .unset] [(.int (own_b ((((0 : Int32) + (1 : Int32)) + (1 : Int32)) < (2 : Int32))))])
    refine own_st (fun _ k => XS.istore X133.here hx rfl (hb hby at_292) rfl (l' := #[.val (.int p0), .val (.int p1), .val (.int p2), .val (.int p3), .val (.int p4), .val (.int (2 : Int32)), .val (.int (2 : Int32)), .val (.ref s0), .val (.ref s1), .val (.ref s2), .val (.ref arr), .val (.ref b), .val (.int (own_b ((((0 : Int32) + (1 : Int32)) + (1 : Int32)) < (2 : Int32)))), .unset]) rfl k) ?_
    show own_Go p e s below _ _ _ T133 (mkF m 294 #[.val (.int p0), .val (.int p1), .val (.int p2), .val (.int p3), .val (.int p4), .val (.int (2 : Int32)), .val (.int (2 : Int32)), .val (.ref s0), .val (.ref s1), .val (.ref s2), .val (.ref arr), .val (.ref b), .val (.int (own_b ((((0 : Int32) + (1 : Int32)) + (1 : Int32)) < (2 : Int32)))), .unset] [])
    refine own_st (fun _ k => XS.aload X133.here hx rfl (hb hby at_294) rfl rfl k) ?_
    show own_Go p e s below _ _ _ T133 (mkF m 296 #[.val (.int p0), .val (.int p1), .val (.int p2), .val (.int p3), .val (.int p4), .val (.int (2 : Int32)), .val (.int (2 : Int32)), .val (.ref s0), .val (.ref s1), .val (.ref s2), .val (.ref arr), .val (.ref b), .val (.int (own_b ((((0 : Int32) + (1 : Int32)) + (1 : Int32)) < (2 : Int32)))), .unset] [(.ref b)])
    refine own_callV X133 hx hZ (y := (⟨"com/example/chronotope/chronotope/Arguments", "hasNext", "()Z"⟩ : MethodName)) hown (hw _ (List.mem_of_getElem? (i := 46) rfl)) (hw _ (List.mem_of_getElem? (i := 47) rfl)) (hw _ (List.mem_of_getElem? (i := 49) rfl)) (hw _ (List.mem_of_getElem? (i := 48) rfl)) (hw _ (List.mem_of_getElem? (i := 30) rfl)) (hw _ (List.mem_of_getElem? (i := 50) rfl)) (by decide) e133 (rm7 l Z a0 hw [] b dd (((0 : Int32) + (1 : Int32)) + (1 : Int32)) (2 : Int32) k110 [(.ref s0), (.ref s1)] T129.heap n0 Z130 F_args_b F_next_b V_dd) 0 (by decide) (by decide) E_b (g := (mkF m 296 #[.val (.int p0), .val (.int p1), .val (.int p2), .val (.int p3), .val (.int p4), .val (.int (2 : Int32)), .val (.int (2 : Int32)), .val (.ref s0), .val (.ref s1), .val (.ref s2), .val (.ref arr), .val (.ref b), .val (.int (own_b ((((0 : Int32) + (1 : Int32)) + (1 : Int32)) < (2 : Int32)))), .unset] [(.ref b)])) rfl (by rw [hml]; rfl) (argsL := []) (rest := []) pd5 rfl rfl rfl (by show 2 * 0 + _ ≤ _; exact Nat.le_of_eq rfl) (hb hby at_296) (by decide) (by decide) ?_
    intro T134 v134 L134 X134 hQ134
    obtain ⟨rfl, N134q, e134⟩ := hQ134
    have N134 := Fr.app N133 N134q
    show own_Go p e s below _ _ _ T134 (mkF m 299 #[.val (.int p0), .val (.int p1), .val (.int p2), .val (.int p3), .val (.int p4), .val (.int (2 : Int32)), .val (.int (2 : Int32)), .val (.ref s0), .val (.ref s1), .val (.ref s2), .val (.ref arr), .val (.ref b), .val (.int (own_b ((((0 : Int32) + (1 : Int32)) + (1 : Int32)) < (2 : Int32)))), .unset] [(.int (own_b ((((0 : Int32) + (1 : Int32)) + (1 : Int32)) < (2 : Int32))))])
    refine own_st (fun _ k => XS.istore X134.here hx rfl (hb hby at_299) rfl (l' := #[.val (.int p0), .val (.int p1), .val (.int p2), .val (.int p3), .val (.int p4), .val (.int (2 : Int32)), .val (.int (2 : Int32)), .val (.ref s0), .val (.ref s1), .val (.ref s2), .val (.ref arr), .val (.ref b), .val (.int (own_b ((((0 : Int32) + (1 : Int32)) + (1 : Int32)) < (2 : Int32)))), .val (.int (own_b ((((0 : Int32) + (1 : Int32)) + (1 : Int32)) < (2 : Int32))))]) rfl k) ?_
    show own_Go p e s below _ _ _ T134 (mkF m 301 #[.val (.int p0), .val (.int p1), .val (.int p2), .val (.int p3), .val (.int p4), .val (.int (2 : Int32)), .val (.int (2 : Int32)), .val (.ref s0), .val (.ref s1), .val (.ref s2), .val (.ref arr), .val (.ref b), .val (.int (own_b ((((0 : Int32) + (1 : Int32)) + (1 : Int32)) < (2 : Int32)))), .val (.int (own_b ((((0 : Int32) + (1 : Int32)) + (1 : Int32)) < (2 : Int32))))] [])
    refine own_st (fun _ k => XS.iload X134.here hx rfl (hb hby at_301) rfl k) ?_
    show own_Go p e s below _ _ _ T134 (mkF m 303 #[.val (.int p0), .val (.int p1), .val (.int p2), .val (.int p3), .val (.int p4), .val (.int (2 : Int32)), .val (.int (2 : Int32)), .val (.ref s0), .val (.ref s1), .val (.ref s2), .val (.ref arr), .val (.ref b), .val (.int (own_b ((((0 : Int32) + (1 : Int32)) + (1 : Int32)) < (2 : Int32)))), .val (.int (own_b ((((0 : Int32) + (1 : Int32)) + (1 : Int32)) < (2 : Int32))))] [(.int (own_b ((((0 : Int32) + (1 : Int32)) + (1 : Int32)) < (2 : Int32))))])
    refine own_st (fun _ k => XS.iload X134.here hx rfl (hb hby at_303) rfl k) ?_
    show own_Go p e s below _ _ _ T134 (mkF m 305 #[.val (.int p0), .val (.int p1), .val (.int p2), .val (.int p3), .val (.int p4), .val (.int (2 : Int32)), .val (.int (2 : Int32)), .val (.ref s0), .val (.ref s1), .val (.ref s2), .val (.ref arr), .val (.ref b), .val (.int (own_b ((((0 : Int32) + (1 : Int32)) + (1 : Int32)) < (2 : Int32)))), .val (.int (own_b ((((0 : Int32) + (1 : Int32)) + (1 : Int32)) < (2 : Int32))))] [(.int (2 : Int32)), (.int (own_b ((((0 : Int32) + (1 : Int32)) + (1 : Int32)) < (2 : Int32))))])
    refine own_st (fun _ k => XS.iload X134.here hx rfl (hb hby at_305) rfl k) ?_
    show own_Go p e s below _ _ _ T134 (mkF m 307 #[.val (.int p0), .val (.int p1), .val (.int p2), .val (.int p3), .val (.int p4), .val (.int (2 : Int32)), .val (.int (2 : Int32)), .val (.ref s0), .val (.ref s1), .val (.ref s2), .val (.ref arr), .val (.ref b), .val (.int (own_b ((((0 : Int32) + (1 : Int32)) + (1 : Int32)) < (2 : Int32)))), .val (.int (own_b ((((0 : Int32) + (1 : Int32)) + (1 : Int32)) < (2 : Int32))))] [(.int (2 : Int32)), (.int (2 : Int32)), (.int (own_b ((((0 : Int32) + (1 : Int32)) + (1 : Int32)) < (2 : Int32))))])
    refine own_st (fun _ k => XS.icmpYes X134.here hx rfl (pc0 := 307) (pc' := 314) rfl (hb hby at_307) rfl (by decide) (by decide) (by decide) k) ?_
    show own_Go p e s below _ _ _ T134 (mkF m 314 #[.val (.int p0), .val (.int p1), .val (.int p2), .val (.int p3), .val (.int p4), .val (.int (2 : Int32)), .val (.int (2 : Int32)), .val (.ref s0), .val (.ref s1), .val (.ref s2), .val (.ref arr), .val (.ref b), .val (.int (own_b ((((0 : Int32) + (1 : Int32)) + (1 : Int32)) < (2 : Int32)))), .val (.int (own_b ((((0 : Int32) + (1 : Int32)) + (1 : Int32)) < (2 : Int32))))] [(.int (own_b ((((0 : Int32) + (1 : Int32)) + (1 : Int32)) < (2 : Int32))))])
    refine own_st (fun _ k => XS.iconst X134.here hx rfl (hb hby at_314) k) ?_
    show own_Go p e s below _ _ _ T134 (mkF m 315 #[.val (.int p0), .val (.int p1), .val (.int p2), .val (.int p3), .val (.int p4), .val (.int (2 : Int32)), .val (.int (2 : Int32)), .val (.ref s0), .val (.ref s1), .val (.ref s2), .val (.ref arr), .val (.ref b), .val (.int (own_b ((((0 : Int32) + (1 : Int32)) + (1 : Int32)) < (2 : Int32)))), .val (.int (own_b ((((0 : Int32) + (1 : Int32)) + (1 : Int32)) < (2 : Int32))))] [(.int (0 : Int32)), (.int (own_b ((((0 : Int32) + (1 : Int32)) + (1 : Int32)) < (2 : Int32))))])
    refine own_st (fun _ k => XS.icmpNo X134.here hx rfl (hb hby at_315) rfl (teq (own_bf (by decide))).2 k) ?_
    show own_Go p e s below _ _ _ T134 (mkF m 318 #[.val (.int p0), .val (.int p1), .val (.int p2), .val (.int p3), .val (.int p4), .val (.int (2 : Int32)), .val (.int (2 : Int32)), .val (.ref s0), .val (.ref s1), .val (.ref s2), .val (.ref arr), .val (.ref b), .val (.int (own_b ((((0 : Int32) + (1 : Int32)) + (1 : Int32)) < (2 : Int32)))), .val (.int (own_b ((((0 : Int32) + (1 : Int32)) + (1 : Int32)) < (2 : Int32))))] [])
    refine own_st (fun _ k => XS.iload X134.here hx rfl (hb hby at_318) rfl k) ?_
    show own_Go p e s below _ _ _ T134 (mkF m 320 #[.val (.int p0), .val (.int p1), .val (.int p2), .val (.int p3), .val (.int p4), .val (.int (2 : Int32)), .val (.int (2 : Int32)), .val (.ref s0), .val (.ref s1), .val (.ref s2), .val (.ref arr), .val (.ref b), .val (.int (own_b ((((0 : Int32) + (1 : Int32)) + (1 : Int32)) < (2 : Int32)))), .val (.int (own_b ((((0 : Int32) + (1 : Int32)) + (1 : Int32)) < (2 : Int32))))] [(.int (own_b ((((0 : Int32) + (1 : Int32)) + (1 : Int32)) < (2 : Int32))))])
    refine own_st (fun _ k => XS.iload X134.here hx rfl (hb hby at_320) rfl k) ?_
    show own_Go p e s below _ _ _ T134 (mkF m 322 #[.val (.int p0), .val (.int p1), .val (.int p2), .val (.int p3), .val (.int p4), .val (.int (2 : Int32)), .val (.int (2 : Int32)), .val (.ref s0), .val (.ref s1), .val (.ref s2), .val (.ref arr), .val (.ref b), .val (.int (own_b ((((0 : Int32) + (1 : Int32)) + (1 : Int32)) < (2 : Int32)))), .val (.int (own_b ((((0 : Int32) + (1 : Int32)) + (1 : Int32)) < (2 : Int32))))] [(.int (own_b ((((0 : Int32) + (1 : Int32)) + (1 : Int32)) < (2 : Int32)))), (.int (own_b ((((0 : Int32) + (1 : Int32)) + (1 : Int32)) < (2 : Int32))))])
    refine own_st (fun _ k => XS.icmpNo X134.here hx rfl (hb hby at_322) rfl (teq rfl).2 k) ?_
    show own_Go p e s below _ _ _ T134 (mkF m 325 #[.val (.int p0), .val (.int p1), .val (.int p2), .val (.int p3), .val (.int p4), .val (.int (2 : Int32)), .val (.int (2 : Int32)), .val (.ref s0), .val (.ref s1), .val (.ref s2), .val (.ref arr), .val (.ref b), .val (.int (own_b ((((0 : Int32) + (1 : Int32)) + (1 : Int32)) < (2 : Int32)))), .val (.int (own_b ((((0 : Int32) + (1 : Int32)) + (1 : Int32)) < (2 : Int32))))] [])
    refine own_st (fun _ k => XS.iconst X134.here hx rfl (hb hby at_325) k) ?_
    show own_Go p e s below _ _ _ T134 (mkF m 326 #[.val (.int p0), .val (.int p1), .val (.int p2), .val (.int p3), .val (.int p4), .val (.int (2 : Int32)), .val (.int (2 : Int32)), .val (.ref s0), .val (.ref s1), .val (.ref s2), .val (.ref arr), .val (.ref b), .val (.int (own_b ((((0 : Int32) + (1 : Int32)) + (1 : Int32)) < (2 : Int32)))), .val (.int (own_b ((((0 : Int32) + (1 : Int32)) + (1 : Int32)) < (2 : Int32))))] [(.int (1 : Int32))])
    refine own_st (fun _ k => XS.goto X134.here hx rfl (pc0 := 326) (pc' := 330) rfl (hb hby at_326) (by decide) (by decide) k) ?_
    show own_Go p e s below _ _ _ T134 (mkF m 330 #[.val (.int p0), .val (.int p1), .val (.int p2), .val (.int p3), .val (.int p4), .val (.int (2 : Int32)), .val (.int (2 : Int32)), .val (.ref s0), .val (.ref s1), .val (.ref s2), .val (.ref arr), .val (.ref b), .val (.int (own_b ((((0 : Int32) + (1 : Int32)) + (1 : Int32)) < (2 : Int32)))), .val (.int (own_b ((((0 : Int32) + (1 : Int32)) + (1 : Int32)) < (2 : Int32))))] [(.int (1 : Int32))])
    exact own_retN X134 hx hlk (t := .boolean) hret (by simp) (hb hby at_330) (z' := (1 : Int32)) rfl (by decide) (by decide) ⟨rfl, N134⟩
  · show own_Go p e s below _ _ _ T0 (mkF m 3 #[.val (.int p0), .val (.int p1), .val (.int p2), .val (.int p3), .val (.int p4), .unset, .unset, .unset, .unset, .unset, .unset, .unset, .unset, .unset] [(.int (3 : Int32))])
    refine own_st (fun _ k => XS.istore X0.here hx rfl (hb hby at_3) rfl (l' := #[.val (.int p0), .val (.int p1), .val (.int p2), .val (.int p3), .val (.int p4), .val (.int (3 : Int32)), .unset, .unset, .unset, .unset, .unset, .unset, .unset, .unset]) rfl k) ?_
    show own_Go p e s below _ _ _ T0 (mkF m 5 #[.val (.int p0), .val (.int p1), .val (.int p2), .val (.int p3), .val (.int p4), .val (.int (3 : Int32)), .unset, .unset, .unset, .unset, .unset, .unset, .unset, .unset] [])
    refine own_st (fun _ k => XS.iloadN X0.here hx rfl (hb hby at_5) rfl k) ?_
    show own_Go p e s below _ _ _ T0 (mkF m 6 #[.val (.int p0), .val (.int p1), .val (.int p2), .val (.int p3), .val (.int p4), .val (.int (3 : Int32)), .unset, .unset, .unset, .unset, .unset, .unset, .unset, .unset] [(.int p1)])
    refine own_st (fun _ k => XS.iconst X0.here hx rfl (hb hby at_6) k) ?_
    show own_Go p e s below _ _ _ T0 (mkF m 7 #[.val (.int p0), .val (.int p1), .val (.int p2), .val (.int p3), .val (.int p4), .val (.int (3 : Int32)), .unset, .unset, .unset, .unset, .unset, .unset, .unset, .unset] [(.int (3 : Int32)), (.int p1)])
    refine own_st (fun _ k => XS.iand X0.here hx rfl (hb hby at_7) rfl k) ?_
    show own_Go p e s below _ _ _ T0 (mkF m 8 #[.val (.int p0), .val (.int p1), .val (.int p2), .val (.int p3), .val (.int p4), .val (.int (3 : Int32)), .unset, .unset, .unset, .unset, .unset, .unset, .unset, .unset] [(.int (p1 &&& (3 : Int32)))])
    refine own_st (fun _ k => XS.iload X0.here hx rfl (hb hby at_8) rfl k) ?_
    show own_Go p e s below _ _ _ T0 (mkF m 10 #[.val (.int p0), .val (.int p1), .val (.int p2), .val (.int p3), .val (.int p4), .val (.int (3 : Int32)), .unset, .unset, .unset, .unset, .unset, .unset, .unset, .unset] [(.int (3 : Int32)), (.int (p1 &&& (3 : Int32)))])
    refine own_st (fun _ k => XS.iconst X0.here hx rfl (hb hby at_10) k) ?_
    show own_Go p e s below _ _ _ T0 (mkF m 11 #[.val (.int p0), .val (.int p1), .val (.int p2), .val (.int p3), .val (.int p4), .val (.int (3 : Int32)), .unset, .unset, .unset, .unset, .unset, .unset, .unset, .unset] [(.int (1 : Int32)), (.int (3 : Int32)), (.int (p1 &&& (3 : Int32)))])
    refine own_st (fun _ k => XS.iadd X0.here hx rfl (hb hby at_11) rfl k) ?_
    show own_Go p e s below _ _ _ T0 (mkF m 12 #[.val (.int p0), .val (.int p1), .val (.int p2), .val (.int p3), .val (.int p4), .val (.int (3 : Int32)), .unset, .unset, .unset, .unset, .unset, .unset, .unset, .unset] [(.int (4 : Int32)), (.int (p1 &&& (3 : Int32)))])
    refine own_st (fun _ k => Jvm.RoadKit.iremM X0 hx rfl (hb hby at_12) rfl (by decide) k) ?_
    show own_Go p e s below _ _ _ T0 (mkF m 13 #[.val (.int p0), .val (.int p1), .val (.int p2), .val (.int p3), .val (.int p4), .val (.int (3 : Int32)), .unset, .unset, .unset, .unset, .unset, .unset, .unset, .unset] [(.int ((p1 &&& (3 : Int32)) % (4 : Int32)))])
    have hk := own_k3 p1
    generalize ((p1 &&& (3 : Int32)) % (4 : Int32)) = kk at hk ⊢
    show own_Go p e s below _ _ _ T0 (mkF m 13 #[.val (.int p0), .val (.int p1), .val (.int p2), .val (.int p3), .val (.int p4), .val (.int (3 : Int32)), .unset, .unset, .unset, .unset, .unset, .unset, .unset, .unset] [(.int kk)])
    refine own_st (fun _ k => XS.istore X0.here hx rfl (hb hby at_13) rfl (l' := #[.val (.int p0), .val (.int p1), .val (.int p2), .val (.int p3), .val (.int p4), .val (.int (3 : Int32)), .val (.int kk), .unset, .unset, .unset, .unset, .unset, .unset, .unset]) rfl k) ?_
    show own_Go p e s below _ _ _ T0 (mkF m 15 #[.val (.int p0), .val (.int p1), .val (.int p2), .val (.int p3), .val (.int p4), .val (.int (3 : Int32)), .val (.int kk), .unset, .unset, .unset, .unset, .unset, .unset, .unset] [])
    refine own_st (fun _ k => XS.iloadN X0.here hx rfl (hb hby at_15) rfl k) ?_
    show own_Go p e s below _ _ _ T0 (mkF m 16 #[.val (.int p0), .val (.int p1), .val (.int p2), .val (.int p3), .val (.int p4), .val (.int (3 : Int32)), .val (.int kk), .unset, .unset, .unset, .unset, .unset, .unset, .unset] [(.int p2)])
    refine own_st (fun _ k => XS.sipush X0.here hx rfl (hb hby at_16) k) ?_
    show own_Go p e s below _ _ _ T0 (mkF m 19 #[.val (.int p0), .val (.int p1), .val (.int p2), .val (.int p3), .val (.int p4), .val (.int (3 : Int32)), .val (.int kk), .unset, .unset, .unset, .unset, .unset, .unset, .unset] [(.int (255 : Int32)), (.int p2)])
    refine own_st (fun _ k => XS.iand X0.here hx rfl (hb hby at_19) rfl k) ?_
    show own_Go p e s below _ _ _ T0 (mkF m 20 #[.val (.int p0), .val (.int p1), .val (.int p2), .val (.int p3), .val (.int p4), .val (.int (3 : Int32)), .val (.int kk), .unset, .unset, .unset, .unset, .unset, .unset, .unset] [(.int (p2 &&& (255 : Int32)))])
    refine own_st (fun _ k => XS.i2c X0.here hx rfl (hb hby at_20) rfl k) ?_
    show own_Go p e s below _ _ _ T0 (mkF m 21 #[.val (.int p0), .val (.int p1), .val (.int p2), .val (.int p3), .val (.int p4), .val (.int (3 : Int32)), .val (.int kk), .unset, .unset, .unset, .unset, .unset, .unset, .unset] [(.int ((p2 &&& (255 : Int32)).toUInt32.toUInt16.toUInt32.toInt32))])
    refine own_callS X0 hx hZ (y := (⟨"java/lang/String", "valueOf", "(C)Ljava/lang/String;"⟩ : MethodName)) hown (hw _ (List.mem_of_getElem? (i := 0) rfl)) (hw _ (List.mem_of_getElem? (i := 1) rfl)) (hw _ (List.mem_of_getElem? (i := 2) rfl)) (hw _ (List.mem_of_getElem? (i := 3) rfl)) (by decide) e0 (rm1 l Z a0 hw [] ((p2 &&& (255 : Int32)).toUInt32.toUInt16.toUInt32.toInt32) cs h0 n0 Z0 S_cs hcs (own_ch _)) 0 (by decide) (by decide) (g := (mkF m 21 #[.val (.int p0), .val (.int p1), .val (.int p2), .val (.int p3), .val (.int p4), .val (.int (3 : Int32)), .val (.int kk), .unset, .unset, .unset, .unset, .unset, .unset, .unset] [(.int ((p2 &&& (255 : Int32)).toUInt32.toUInt16.toUInt32.toInt32))])) rfl (by rw [hml]; rfl) (argsL := [(.int ((p2 &&& (255 : Int32)).toUInt32.toUInt16.toUInt32.toInt32))]) (rest := []) pd0 rfl rfl rfl (by show 2 * 0 + _ ≤ _; exact Nat.le_of_eq rfl) (hb hby at_21) (by decide) (by decide) ?_
    intro T135 v135 L135 X135 hQ135
    obtain ⟨s0, rfl, N135q, K135q, sf_s0, y135_0⟩ := hQ135
    have N135 := Fr.app N0 N135q
    have g_s0 := Nat.le_trans Z0 sf_s0
    have Z136 := Nat.le_trans Z0 K135q.1
    have E_s0 := y135_0
    show own_Go p e s below _ _ _ T135 (mkF m 24 #[.val (.int p0), .val (.int p1), .val (.int p2), .val (.int p3), .val (.int p4), .val (.int (3 : Int32)), .val (.int kk), .unset, .unset, .unset, .unset, .unset, .unset, .unset] [(.ref s0)])
    replace S_cs := own_StaK S_cs K135q
    refine own_st (fun _ k => XS.astore X135.here hx rfl (hb hby at_24) rfl rfl (l' := #[.val (.int p0), .val (.int p1), .val (.int p2), .val (.int p3), .val (.int p4), .val (.int (3 : Int32)), .val (.int kk), .val (.ref s0), .unset, .unset, .unset, .unset, .unset, .unset]) rfl k) ?_
    show own_Go p e s below _ _ _ T135 (mkF m 26 #[.val (.int p0), .val (.int p1), .val (.int p2), .val (.int p3), .val (.int p4), .val (.int (3 : Int32)), .val (.int kk), .val (.ref s0), .unset, .unset, .unset, .unset, .unset, .unset] [])
    refine own_st (fun _ k => XS.iloadN X135.here hx rfl (hb hby at_26) rfl k) ?_
    show own_Go p e s below _ _ _ T135 (mkF m 27 #[.val (.int p0), .val (.int p1), .val (.int p2), .val (.int p3), .val (.int p4), .val (.int (3 : Int32)), .val (.int kk), .val (.ref s0), .unset, .unset, .unset, .unset, .unset, .unset] [(.int p3)])
    refine own_st (fun _ k => XS.sipush X135.here hx rfl (hb hby at_27) k) ?_
    show own_Go p e s below _ _ _ T135 (mkF m 30 #[.val (.int p0), .val (.int p1), .val (.int p2), .val (.int p3), .val (.int p4), .val (.int (3 : Int32)), .val (.int kk), .val (.ref s0), .unset, .unset, .unset, .unset, .unset, .unset] [(.int (255 : Int32)), (.int p3)])
    refine own_st (fun _ k => XS.iand X135.here hx rfl (hb hby at_30) rfl k) ?_
    show own_Go p e s below _ _ _ T135 (mkF m 31 #[.val (.int p0), .val (.int p1), .val (.int p2), .val (.int p3), .val (.int p4), .val (.int (3 : Int32)), .val (.int kk), .val (.ref s0), .unset, .unset, .unset, .unset, .unset, .unset] [(.int (p3 &&& (255 : Int32)))])
    refine own_st (fun _ k => XS.i2c X135.here hx rfl (hb hby at_31) rfl k) ?_
    show own_Go p e s below _ _ _ T135 (mkF m 32 #[.val (.int p0), .val (.int p1), .val (.int p2), .val (.int p3), .val (.int p4), .val (.int (3 : Int32)), .val (.int kk), .val (.ref s0), .unset, .unset, .unset, .unset, .unset, .unset] [(.int ((p3 &&& (255 : Int32)).toUInt32.toUInt16.toUInt32.toInt32))])
    refine own_callS X135 hx hZ (y := (⟨"java/lang/String", "valueOf", "(C)Ljava/lang/String;"⟩ : MethodName)) hown (hw _ (List.mem_of_getElem? (i := 0) rfl)) (hw _ (List.mem_of_getElem? (i := 1) rfl)) (hw _ (List.mem_of_getElem? (i := 2) rfl)) (hw _ (List.mem_of_getElem? (i := 3) rfl)) (by decide) rfl (rm1 l Z a0 hw [] ((p3 &&& (255 : Int32)).toUInt32.toUInt16.toUInt32.toInt32) cs T135.heap n0 Z136 S_cs hcs (own_ch _)) 0 (by decide) (by decide) (g := (mkF m 32 #[.val (.int p0), .val (.int p1), .val (.int p2), .val (.int p3), .val (.int p4), .val (.int (3 : Int32)), .val (.int kk), .val (.ref s0), .unset, .unset, .unset, .unset, .unset, .unset] [(.int ((p3 &&& (255 : Int32)).toUInt32.toUInt16.toUInt32.toInt32))])) rfl (by rw [hml]; rfl) (argsL := [(.int ((p3 &&& (255 : Int32)).toUInt32.toUInt16.toUInt32.toInt32))]) (rest := []) pd0 rfl rfl rfl (by show 2 * 0 + _ ≤ _; exact Nat.le_of_eq rfl) (hb hby at_32) (by decide) (by decide) ?_
    intro T137 v137 L137 X137 hQ137
    obtain ⟨s1, rfl, N137q, K137q, sf_s1, y137_0⟩ := hQ137
    have N137 := Fr.app N135 N137q
    have g_s1 := Nat.le_trans Z136 sf_s1
    have ne_s0_s1 : s0 ≠ s1 := Nat.ne_of_lt (Nat.lt_of_lt_of_le E_s0.lt sf_s1)
    have ne_s1_s0 := Ne.symm ne_s0_s1
    replace E_s0 := E_s0.keep K137q
    have Z138 := Nat.le_trans Z136 K137q.1
    have E_s1 := y137_0
    show own_Go p e s below _ _ _ T137 (mkF m 35 #[.val (.int p0), .val (.int p1), .val (.int p2), .val (.int p3), .val (.int p4), .val (.int (3 : Int32)), .val (.int kk), .val (.ref s0), .unset, .unset, .unset, .unset, .unset, .unset] [(.ref s1)])
    replace S_cs := own_StaK S_cs K137q
    refine own_st (fun _ k => XS.astore X137.here hx rfl (hb hby at_35) rfl rfl (l' := #[.val (.int p0), .val (.int p1), .val (.int p2), .val (.int p3), .val (.int p4), .val (.int (3 : Int32)), .val (.int kk), .val (.ref s0), .val (.ref s1), .unset, .unset, .unset, .unset, .unset]) rfl k) ?_
    show own_Go p e s below _ _ _ T137 (mkF m 37 #[.val (.int p0), .val (.int p1), .val (.int p2), .val (.int p3), .val (.int p4), .val (.int (3 : Int32)), .val (.int kk), .val (.ref s0), .val (.ref s1), .unset, .unset, .unset, .unset, .unset] [])
    refine own_st (fun _ k => XS.iload X137.here hx rfl (hb hby at_37) rfl k) ?_
    show own_Go p e s below _ _ _ T137 (mkF m 39 #[.val (.int p0), .val (.int p1), .val (.int p2), .val (.int p3), .val (.int p4), .val (.int (3 : Int32)), .val (.int kk), .val (.ref s0), .val (.ref s1), .unset, .unset, .unset, .unset, .unset] [(.int p4)])
    refine own_st (fun _ k => XS.sipush X137.here hx rfl (hb hby at_39) k) ?_
    show own_Go p e s below _ _ _ T137 (mkF m 42 #[.val (.int p0), .val (.int p1), .val (.int p2), .val (.int p3), .val (.int p4), .val (.int (3 : Int32)), .val (.int kk), .val (.ref s0), .val (.ref s1), .unset, .unset, .unset, .unset, .unset] [(.int (255 : Int32)), (.int p4)])
    refine own_st (fun _ k => XS.iand X137.here hx rfl (hb hby at_42) rfl k) ?_
    show own_Go p e s below _ _ _ T137 (mkF m 43 #[.val (.int p0), .val (.int p1), .val (.int p2), .val (.int p3), .val (.int p4), .val (.int (3 : Int32)), .val (.int kk), .val (.ref s0), .val (.ref s1), .unset, .unset, .unset, .unset, .unset] [(.int (p4 &&& (255 : Int32)))])
    refine own_st (fun _ k => XS.i2c X137.here hx rfl (hb hby at_43) rfl k) ?_
    show own_Go p e s below _ _ _ T137 (mkF m 44 #[.val (.int p0), .val (.int p1), .val (.int p2), .val (.int p3), .val (.int p4), .val (.int (3 : Int32)), .val (.int kk), .val (.ref s0), .val (.ref s1), .unset, .unset, .unset, .unset, .unset] [(.int ((p4 &&& (255 : Int32)).toUInt32.toUInt16.toUInt32.toInt32))])
    refine own_callS X137 hx hZ (y := (⟨"java/lang/String", "valueOf", "(C)Ljava/lang/String;"⟩ : MethodName)) hown (hw _ (List.mem_of_getElem? (i := 0) rfl)) (hw _ (List.mem_of_getElem? (i := 1) rfl)) (hw _ (List.mem_of_getElem? (i := 2) rfl)) (hw _ (List.mem_of_getElem? (i := 3) rfl)) (by decide) rfl (rm1 l Z a0 hw [] ((p4 &&& (255 : Int32)).toUInt32.toUInt16.toUInt32.toInt32) cs T137.heap n0 Z138 S_cs hcs (own_ch _)) 0 (by decide) (by decide) (g := (mkF m 44 #[.val (.int p0), .val (.int p1), .val (.int p2), .val (.int p3), .val (.int p4), .val (.int (3 : Int32)), .val (.int kk), .val (.ref s0), .val (.ref s1), .unset, .unset, .unset, .unset, .unset] [(.int ((p4 &&& (255 : Int32)).toUInt32.toUInt16.toUInt32.toInt32))])) rfl (by rw [hml]; rfl) (argsL := [(.int ((p4 &&& (255 : Int32)).toUInt32.toUInt16.toUInt32.toInt32))]) (rest := []) pd0 rfl rfl rfl (by show 2 * 0 + _ ≤ _; exact Nat.le_of_eq rfl) (hb hby at_44) (by decide) (by decide) ?_
    intro T139 v139 L139 X139 hQ139
    obtain ⟨s2, rfl, N139q, K139q, sf_s2, y139_0⟩ := hQ139
    have N139 := Fr.app N137 N139q
    have g_s2 := Nat.le_trans Z138 sf_s2
    have ne_s0_s2 : s0 ≠ s2 := Nat.ne_of_lt (Nat.lt_of_lt_of_le E_s0.lt sf_s2)
    have ne_s2_s0 := Ne.symm ne_s0_s2
    have ne_s1_s2 : s1 ≠ s2 := Nat.ne_of_lt (Nat.lt_of_lt_of_le E_s1.lt sf_s2)
    have ne_s2_s1 := Ne.symm ne_s1_s2
    replace E_s0 := E_s0.keep K139q
    replace E_s1 := E_s1.keep K139q
    have Z140 := Nat.le_trans Z138 K139q.1
    have E_s2 := y139_0
    show own_Go p e s below _ _ _ T139 (mkF m 47 #[.val (.int p0), .val (.int p1), .val (.int p2), .val (.int p3), .val (.int p4), .val (.int (3 : Int32)), .val (.int kk), .val (.ref s0), .val (.ref s1), .unset, .unset, .unset, .unset, .unset] [(.ref s2)])
    replace S_cs := own_StaK S_cs K139q
    refine own_st (fun _ k => XS.astore X139.here hx rfl (hb hby at_47) rfl rfl (l' := #[.val (.int p0), .val (.int p1), .val (.int p2), .val (.int p3), .val (.int p4), .val (.int (3 : Int32)), .val (.int kk), .val (.ref s0), .val (.ref s1), .val (.ref s2), .unset, .unset, .unset, .unset]) rfl k) ?_
    show own_Go p e s below _ _ _ T139 (mkF m 49 #[.val (.int p0), .val (.int p1), .val (.int p2), .val (.int p3), .val (.int p4), .val (.int (3 : Int32)), .val (.int kk), .val (.ref s0), .val (.ref s1), .val (.ref s2), .unset, .unset, .unset, .unset] [])
    refine own_st (fun _ k => XS.iload X139.here hx rfl (hb hby at_49) rfl k) ?_
    show own_Go p e s below _ _ _ T139 (mkF m 51 #[.val (.int p0), .val (.int p1), .val (.int p2), .val (.int p3), .val (.int p4), .val (.int (3 : Int32)), .val (.int kk), .val (.ref s0), .val (.ref s1), .val (.ref s2), .unset, .unset, .unset, .unset] [(.int (3 : Int32))])
    refine own_st (fun _ k => XS.ifYes X139.here hx rfl (pc0 := 51) (pc' := 63) rfl (hb hby at_51) rfl (by decide) (by decide) (by decide) k) ?_
    show own_Go p e s below _ _ _ T139 (mkF m 63 #[.val (.int p0), .val (.int p1), .val (.int p2), .val (.int p3), .val (.int p4), .val (.int (3 : Int32)), .val (.int kk), .val (.ref s0), .val (.ref s1), .val (.ref s2), .unset, .unset, .unset, .unset] [])
    refine own_st (fun _ k => XS.iload X139.here hx rfl (hb hby at_63) rfl k) ?_
    show own_Go p e s below _ _ _ T139 (mkF m 65 #[.val (.int p0), .val (.int p1), .val (.int p2), .val (.int p3), .val (.int p4), .val (.int (3 : Int32)), .val (.int kk), .val (.ref s0), .val (.ref s1), .val (.ref s2), .unset, .unset, .unset, .unset] [(.int (3 : Int32))])
    refine own_st (fun _ k => XS.iconst X139.here hx rfl (hb hby at_65) k) ?_
    show own_Go p e s below _ _ _ T139 (mkF m 66 #[.val (.int p0), .val (.int p1), .val (.int p2), .val (.int p3), .val (.int p4), .val (.int (3 : Int32)), .val (.int kk), .val (.ref s0), .val (.ref s1), .val (.ref s2), .unset, .unset, .unset, .unset] [(.int (1 : Int32)), (.int (3 : Int32))])
    refine own_st (fun _ k => XS.icmpYes X139.here hx rfl (pc0 := 66) (pc' := 83) rfl (hb hby at_66) rfl (by decide) (by decide) (by decide) k) ?_
    show own_Go p e s below _ _ _ T139 (mkF m 83 #[.val (.int p0), .val (.int p1), .val (.int p2), .val (.int p3), .val (.int p4), .val (.int (3 : Int32)), .val (.int kk), .val (.ref s0), .val (.ref s1), .val (.ref s2), .unset, .unset, .unset, .unset] [])
    refine own_st (fun _ k => XS.iload X139.here hx rfl (hb hby at_83) rfl k) ?_
    show own_Go p e s below _ _ _ T139 (mkF m 85 #[.val (.int p0), .val (.int p1), .val (.int p2), .val (.int p3), .val (.int p4), .val (.int (3 : Int32)), .val (.int kk), .val (.ref s0), .val (.ref s1), .val (.ref s2), .unset, .unset, .unset, .unset] [(.int (3 : Int32))])
    refine own_st (fun _ k => XS.iconst X139.here hx rfl (hb hby at_85) k) ?_
    show own_Go p e s below _ _ _ T139 (mkF m 86 #[.val (.int p0), .val (.int p1), .val (.int p2), .val (.int p3), .val (.int p4), .val (.int (3 : Int32)), .val (.int kk), .val (.ref s0), .val (.ref s1), .val (.ref s2), .unset, .unset, .unset, .unset] [(.int (2 : Int32)), (.int (3 : Int32))])
    refine own_st (fun _ k => XS.icmpYes X139.here hx rfl (pc0 := 86) (pc' := 108) rfl (hb hby at_86) rfl (by decide) (by decide) (by decide) k) ?_
    show own_Go p e s below _ _ _ T139 (mkF m 108 #[.val (.int p0), .val (.int p1), .val (.int p2), .val (.int p3), .val (.int p4), .val (.int (3 : Int32)), .val (.int kk), .val (.ref s0), .val (.ref s1), .val (.ref s2), .unset, .unset, .unset, .unset] [])
    refine own_st (fun _ k => XS.iconst X139.here hx rfl (hb hby at_108) k) ?_
    show own_Go p e s below _ _ _ T139 (mkF m 109 #[.val (.int p0), .val (.int p1), .val (.int p2), .val (.int p3), .val (.int p4), .val (.int (3 : Int32)), .val (.int kk), .val (.ref s0), .val (.ref s1), .val (.ref s2), .unset, .unset, .unset, .unset] [(.int (3 : Int32))])
    obtain ⟨T141, h141, k141, X141, e141, E141, A141, Ex141, O141, st141⟩ := newRE X139 hx hZ hown (hw _ (List.mem_of_getElem? (i := 26) rfl)) (hw _ (List.mem_of_getElem? (i := 27) rfl)) rfl (g := (mkF m 109 #[.val (.int p0), .val (.int p1), .val (.int p2), .val (.int p3), .val (.int p4), .val (.int (3 : Int32)), .val (.int kk), .val (.ref s0), .val (.ref s1), .val (.ref s2), .unset, .unset, .unset, .unset] [(.int (3 : Int32))])) rfl (hb hby at_109) rfl (by decide) (cap := 3) (by decide) (by decide) (by decide) (by decide) (ad := "[Ljava/lang/String;") (by decide)
    obtain ⟨arr, g141⟩ : ∃ z, z = T139.heap.size := ⟨_, rfl⟩
    rw [← g141] at A141 Ex141 st141
    have g_arr : n0 ≤ arr := Nat.le_trans Z140 (Nat.le_of_eq g141.symm)
    have ne_s0_arr : s0 ≠ arr := Nat.ne_of_lt (Nat.lt_of_lt_of_le E_s0.lt (Nat.le_of_eq g141.symm))
    have ne_arr_s0 := Ne.symm ne_s0_arr
    have ne_s1_arr : s1 ≠ arr := Nat.ne_of_lt (Nat.lt_of_lt_of_le E_s1.lt (Nat.le_of_eq g141.symm))
    have ne_arr_s1 := Ne.symm ne_s1_arr
    have ne_s2_arr : s2 ≠ arr := Nat.ne_of_lt (Nat.lt_of_lt_of_le E_s2.lt (Nat.le_of_eq g141.symm))
    have ne_arr_s2 := Ne.symm ne_s2_arr
    replace E_s0 := E_s0.ext E141
    replace E_s1 := E_s1.ext E141
    replace E_s2 := E_s2.ext E141
    have Z142 := Nat.le_trans Z140 E141.1
    have V_arr : Arv Z h141 arr k141 (.object "java/lang/String") (3 : Int32) [.null, .null, .null] .null := (Arv.new A141 (by decide)).pad (pad_rep [] .null 3)
    have E_arr := Ex141
    have O_arr := O141
    refine own_st st141 ?_
    show own_Go p e s below _ _ _ T141 (mkF m 112 #[.val (.int p0), .val (.int p1), .val (.int p2), .val (.int p3), .val (.int p4), .val (.int (3 : Int32)), .val (.int kk), .val (.ref s0), .val (.ref s1), .val (.ref s2), .unset, .unset, .unset, .unset] [(.ref arr)])
    refine own_st (fun _ k => XS.dup X141.here hx rfl (hb hby at_112) rfl rfl k) ?_
    show own_Go p e s below _ _ _ T141 (mkF m 113 #[.val (.int p0), .val (.int p1), .val (.int p2), .val (.int p3), .val (.int p4), .val (.int (3 : Int32)), .val (.int kk), .val (.ref s0), .val (.ref s1), .val (.ref s2), .unset, .unset, .unset, .unset] [(.ref arr), (.ref arr)])
    refine own_st (fun _ k => XS.iconst X141.here hx rfl (hb hby at_113) k) ?_
    show own_Go p e s below _ _ _ T141 (mkF m 114 #[.val (.int p0), .val (.int p1), .val (.int p2), .val (.int p3), .val (.int p4), .val (.int (3 : Int32)), .val (.int kk), .val (.ref s0), .val (.ref s1), .val (.ref s2), .unset, .unset, .unset, .unset] [(.int (0 : Int32)), (.ref arr), (.ref arr)])
    refine own_st (fun _ k => XS.aload X141.here hx rfl (hb hby at_114) rfl rfl k) ?_
    show own_Go p e s below _ _ _ T141 (mkF m 116 #[.val (.int p0), .val (.int p1), .val (.int p2), .val (.int p3), .val (.int p4), .val (.int (3 : Int32)), .val (.int kk), .val (.ref s0), .val (.ref s1), .val (.ref s2), .unset, .unset, .unset, .unset] [(.ref s0), (.int (0 : Int32)), (.ref arr), (.ref arr)])
    obtain ⟨T143, h143, X143, e143, W143, V143, st143⟩ := own_stR X141 hx hZ e141 V_arr rfl (v := (.ref s0)) (fun cl A q => Sto.ofV A q O_arr (Ins.self E_s0)) rfl (j := (0 : Int32)) ⟨by decide, by decide⟩ (Nat.le_of_ble_eq_true rfl) (g := (mkF m 116 #[.val (.int p0), .val (.int p1), .val (.int p2), .val (.int p3), .val (.int p4), .val (.int (3 : Int32)), .val (.int kk), .val (.ref s0), .val (.ref s1), .val (.ref s2), .unset, .unset, .unset, .unset] [(.ref s0), (.int (0 : Int32)), (.ref arr), (.ref arr)])) rfl rfl (hb hby at_116)
    clear V_arr
    have V_arr : Arv Z h143 arr k141 (.object "java/lang/String") (3 : Int32) [(.ref s0), .null, .null] .null := V143
    replace E_s0 := E_s0.wr W143
    replace E_s1 := E_s1.wr W143
    replace E_s2 := E_s2.wr W143
    replace E_arr := E_arr.wr W143
    have Z144 := Nat.le_trans Z142 (Keep.of_wr W143).1
    have N143 := Fr.snoc X143 N139 g_arr
    refine own_st st143 ?_
    show own_Go p e s below _ _ _ T143 (mkF m 117 #[.val (.int p0), .val (.int p1), .val (.int p2), .val (.int p3), .val (.int p4), .val (.int (3 : Int32)), .val (.int kk), .val (.ref s0), .val (.ref s1), .val (.ref s2), .unset, .unset, .unset, .unset] [(.ref arr)])
    refine own_st (fun _ k => XS.dup X143.here hx rfl (hb hby at_117) rfl rfl k) ?_
    show own_Go p e s below _ _ _ T143 (mkF m 118 #[.val (.int p0), .val (.int p1), .val (.int p2), .val (.int p3), .val (.int p4), .val (.int (3 : Int32)), .val (.int kk), .val (.ref s0), .val (.ref s1), .val (.ref s2), .unset, .unset, .unset, .unset] [(.ref arr), (.ref arr)])
    refine own_st (fun _ k => XS.iconst X143.here hx rfl (hb hby at_118) k) ?_
    show own_Go p e s below _ _ _ T143 (mkF m 119 #[.val (.int p0), .val (.int p1), .val (.int p2), .val (.int p3), .val (.int p4), .val (.int (3 : Int32)), .val (.int kk), .val (.ref s0), .val (.ref s1), .val (.ref s2), .unset, .unset, .unset, .unset] [(.int (1 : Int32)), (.ref arr), (.ref arr)])
    refine own_st (fun _ k => XS.aload X143.here hx rfl (hb hby at_119) rfl rfl k) ?_
    show own_Go p e s below _ _ _ T143 (mkF m 121 #[.val (.int p0), .val (.int p1), .val (.int p2), .val (.int p3), .val (.int p4), .val (.int (3 : Int32)), .val (.int kk), .val (.ref s0), .val (.ref s1), .val (.ref s2), .unset, .unset, .unset, .unset] [(.ref s1), (.int (1 : Int32)), (.ref arr), (.ref arr)])
    obtain ⟨T145, h145, X145, e145, W145, V145, st145⟩ := own_stR X143 hx hZ e143 V_arr rfl (v := (.ref s1)) (fun cl A q => Sto.ofV A q O_arr (Ins.self E_s1)) rfl (j := (1 : Int32)) ⟨by decide, by decide⟩ (Nat.le_of_ble_eq_true rfl) (g := (mkF m 121 #[.val (.int p0), .val (.int p1), .val (.int p2), .val (.int p3), .val (.int p4), .val (.int (3 : Int32)), .val (.int kk), .val (.ref s0), .val (.ref s1), .val (.ref s2), .unset, .unset, .unset, .unset] [(.ref s1), (.int (1 : Int32)), (.ref arr), (.ref arr)])) rfl rfl (hb hby at_121)
    clear V_arr
    have V_arr : Arv Z h145 arr k141 (.object "java/lang/String") (3 : Int32) [(.ref s0), (.ref s1), .null] .null := V145
    replace E_s0 := E_s0.wr W145
    replace E_s1 := E_s1.wr W145
    replace E_s2 := E_s2.wr W145
    replace E_arr := E_arr.wr W145
    have Z146 := Nat.le_trans Z144 (Keep.of_wr W145).1
    have N145 := Fr.snoc X145 N143 g_arr
    refine own_st st145 ?_
    show own_Go p e s below _ _ _ T145 (mkF m 122 #[.val (.int p0), .val (.int p1), .val (.int p2), .val (.int p3), .val (.int p4), .val (.int (3 : Int32)), .val (.int kk), .val (.ref s0), .val (.ref s1), .val (.ref s2), .unset, .unset, .unset, .unset] [(.ref arr)])
    refine own_st (fun _ k => XS.dup X145.here hx rfl (hb hby at_122) rfl rfl k) ?_
    show own_Go p e s below _ _ _ T145 (mkF m 123 #[.val (.int p0), .val (.int p1), .val (.int p2), .val (.int p3), .val (.int p4), .val (.int (3 : Int32)), .val (.int kk), .val (.ref s0), .val (.ref s1), .val (.ref s2), .unset, .unset, .unset, .unset] [(.ref arr), (.ref arr)])
    refine own_st (fun _ k => XS.iconst X145.here hx rfl (hb hby at_123) k) ?_
    show own_Go p e s below _ _ _ T145 (mkF m 124 #[.val (.int p0), .val (.int p1), .val (.int p2), .val (.int p3), .val (.int p4), .val (.int (3 : Int32)), .val (.int kk), .val (.ref s0), .val (.ref s1), .val (.ref s2), .unset, .unset, .unset, .unset] [(.int (2 : Int32)), (.ref arr), (.ref arr)])
    refine own_st (fun _ k => XS.aload X145.here hx rfl (hb hby at_124) rfl rfl k) ?_
    show own_Go p e s below _ _ _ T145 (mkF m 126 #[.val (.int p0), .val (.int p1), .val (.int p2), .val (.int p3), .val (.int p4), .val (.int (3 : Int32)), .val (.int kk), .val (.ref s0), .val (.ref s1), .val (.ref s2), .unset, .unset, .unset, .unset] [(.ref s2), (.int (2 : Int32)), (.ref arr), (.ref arr)])
    obtain ⟨T147, h147, X147, e147, W147, V147, st147⟩ := own_stR X145 hx hZ e145 V_arr rfl (v := (.ref s2)) (fun cl A q => Sto.ofV A q O_arr (Ins.self E_s2)) rfl (j := (2 : Int32)) ⟨by decide, by decide⟩ (Nat.le_of_ble_eq_true rfl) (g := (mkF m 126 #[.val (.int p0), .val (.int p1), .val (.int p2), .val (.int p3), .val (.int p4), .val (.int (3 : Int32)), .val (.int kk), .val (.ref s0), .val (.ref s1), .val (.ref s2), .unset, .unset, .unset, .unset] [(.ref s2), (.int (2 : Int32)), (.ref arr), (.ref arr)])) rfl rfl (hb hby at_126)
    clear V_arr
    have V_arr : Arv Z h147 arr k141 (.object "java/lang/String") (3 : Int32) [(.ref s0), (.ref s1), (.ref s2)] .null := V147
    replace E_s0 := E_s0.wr W147
    replace E_s1 := E_s1.wr W147
    replace E_s2 := E_s2.wr W147
    replace E_arr := E_arr.wr W147
    have Z148 := Nat.le_trans Z146 (Keep.of_wr W147).1
    have N147 := Fr.snoc X147 N145 g_arr
    refine own_st st147 ?_
    show own_Go p e s below _ _ _ T147 (mkF m 127 #[.val (.int p0), .val (.int p1), .val (.int p2), .val (.int p3), .val (.int p4), .val (.int (3 : Int32)), .val (.int kk), .val (.ref s0), .val (.ref s1), .val (.ref s2), .unset, .unset, .unset, .unset] [(.ref arr)])
    refine own_st (fun _ k => XS.astore X147.here hx rfl (hb hby at_127) rfl rfl (l' := #[.val (.int p0), .val (.int p1), .val (.int p2), .val (.int p3), .val (.int p4), .val (.int (3 : Int32)), .val (.int kk), .val (.ref s0), .val (.ref s1), .val (.ref s2), .val (.ref arr), .unset, .unset, .unset]) rfl k) ?_
    show own_Go p e s below _ _ _ T147 (mkF m 129 #[.val (.int p0), .val (.int p1), .val (.int p2), .val (.int p3), .val (.int p4), .val (.int (3 : Int32)), .val (.int kk), .val (.ref s0), .val (.ref s1), .val (.ref s2), .val (.ref arr), .unset, .unset, .unset] [])
    obtain ⟨T149, h149, X149, e149, E149, A149, D149, -, st149⟩ := newO X147 hx hZ hown (hw _ (List.mem_of_getElem? (i := 28) rfl)) (hw _ (List.mem_of_getElem? (i := 29) rfl)) (hw _ (List.mem_of_getElem? (i := 30) rfl)) e147 (g := (mkF m 129 #[.val (.int p0), .val (.int p1), .val (.int p2), .val (.int p3), .val (.int p4), .val (.int (3 : Int32)), .val (.int kk), .val (.ref s0), .val (.ref s1), .val (.ref s2), .val (.ref arr), .unset, .unset, .unset] [])) rfl (hb hby at_129) (by decide) (by decide)
    obtain ⟨b, g149⟩ : ∃ z, z = h147.size := ⟨_, rfl⟩
    rw [← g149] at A149 D149 st149
    have g_b : n0 ≤ b := Nat.le_trans Z148 (Nat.le_of_eq g149.symm)
    have ne_arr_b : arr ≠ b := Nat.ne_of_lt (Nat.lt_of_lt_of_le E_arr.lt (Nat.le_of_eq g149.symm))
    have ne_b_arr := Ne.symm ne_arr_b
    have ne_s0_b : s0 ≠ b := Nat.ne_of_lt (Nat.lt_of_lt_of_le E_s0.lt (Nat.le_of_eq g149.symm))
    have ne_b_s0 := Ne.symm ne_s0_b
    have ne_s1_b : s1 ≠ b := Nat.ne_of_lt (Nat.lt_of_lt_of_le E_s1.lt (Nat.le_of_eq g149.symm))
    have ne_b_s1 := Ne.symm ne_s1_b
    have ne_s2_b : s2 ≠ b := Nat.ne_of_lt (Nat.lt_of_lt_of_le E_s2.lt (Nat.le_of_eq g149.symm))
    have ne_b_s2 := Ne.symm ne_s2_b
    replace E_s0 := E_s0.ext E149
    replace E_s1 := E_s1.ext E149
    replace E_s2 := E_s2.ext E149
    replace E_arr := E_arr.ext E149
    replace V_arr := V_arr.ext E149
    have Z150 := Nat.le_trans Z148 E149.1
    have E_b := A149
    have F_args_b : Fld Z h149 b "com/example/chronotope/chronotope/Arguments" "args" "[Ljava/lang/String;" .null := D149 (Or.inr (hw _ (List.mem_of_getElem? (i := 45) rfl))) (ty := (.array (.object "java/lang/String"))) (by decide)
    have F_next_b : Fld Z h149 b "com/example/chronotope/chronotope/Arguments" "next" "I" (.int (0 : Int32)) := D149 (Or.inl (hw _ (List.mem_of_getElem? (i := 52) rfl))) (ty := .int) (by decide)
    refine own_st st149 ?_
    show own_Go p e s below _ _ _ T149 (mkF m 132 #[.val (.int p0), .val (.int p1), .val (.int p2), .val (.int p3), .val (.int p4), .val (.int (3 : Int32)), .val (.int kk), .val (.ref s0), .val (.ref s1), .val (.ref s2), .val (.ref arr), .unset, .unset, .unset] [(.ref b)])
    refine own_st (fun _ k => XS.dup X149.here hx rfl (hb hby at_132) rfl rfl k) ?_
    show own_Go p e s below _ _ _ T149 (mkF m 133 #[.val (.int p0), .val (.int p1), .val (.int p2), .val (.int p3), .val (.int p4), .val (.int (3 : Int32)), .val (.int kk), .val (.ref s0), .val (.ref s1), .val (.ref s2), .val (.ref arr), .unset, .unset, .unset] [(.ref b), (.ref b)])
    refine own_st (fun _ k => XS.aload X149.here hx rfl (hb hby at_133) rfl rfl k) ?_
    show own_Go p e s below _ _ _ T149 (mkF m 135 #[.val (.int p0), .val (.int p1), .val (.int p2), .val (.int p3), .val (.int p4), .val (.int (3 : Int32)), .val (.int kk), .val (.ref s0), .val (.ref s1), .val (.ref s2), .val (.ref arr), .unset, .unset, .unset] [(.ref arr), (.ref b), (.ref b)])
    refine own_callN X149 hx hZ (y := (⟨"com/example/chronotope/chronotope/Arguments", "<init>", "([Ljava/lang/String;)V"⟩ : MethodName)) rfl hown (hw _ (List.mem_of_getElem? (i := 31) rfl)) (hw _ (List.mem_of_getElem? (i := 32) rfl)) (hw _ (List.mem_of_getElem? (i := 30) rfl)) (hw _ (List.mem_of_getElem? (i := 33) rfl)) (by decide) e149 (rm6_3 l Z a0 hw [] b arr k141 s0 s1 s2 h149 n0 Z150 E_b F_args_b F_next_b V_arr E_arr ne_b_arr ne_arr_b g_b) 1 (by decide) (by decide) (g := (mkF m 135 #[.val (.int p0), .val (.int p1), .val (.int p2), .val (.int p3), .val (.int p4), .val (.int (3 : Int32)), .val (.int kk), .val (.ref s0), .val (.ref s1), .val (.ref s2), .val (.ref arr), .unset, .unset, .unset] [(.ref arr), (.ref b), (.ref b)])) rfl (by rw [hml]; rfl) (a := b) (argsL := [(.ref arr)]) (rest := [(.ref b)]) pd4 rfl rfl rfl (by show 2 * 0 + _ ≤ _; exact Nat.le_of_eq rfl) (hb hby at_135) (by decide) (by decide) ?_
    intro T151 v151 L151 X151 hQ151
    obtain ⟨dd, rfl, N151q, K151q, sf_dd, y151_0, y151_1, y151_2, y151_3⟩ := hQ151
    have N151 := Fr.app N147 N151q
    have g_dd := Nat.le_trans Z150 sf_dd
    have ne_arr_dd : arr ≠ dd := Nat.ne_of_lt (Nat.lt_of_lt_of_le E_arr.lt sf_dd)
    have ne_dd_arr := Ne.symm ne_arr_dd
    have ne_b_dd : b ≠ dd := Nat.ne_of_lt (Nat.lt_of_lt_of_le E_b.lt sf_dd)
    have ne_dd_b := Ne.symm ne_b_dd
    have ne_s0_dd : s0 ≠ dd := Nat.ne_of_lt (Nat.lt_of_lt_of_le E_s0.lt sf_dd)
    have ne_dd_s0 := Ne.symm ne_s0_dd
    have ne_s1_dd : s1 ≠ dd := Nat.ne_of_lt (Nat.lt_of_lt_of_le E_s1.lt sf_dd)
    have ne_dd_s1 := Ne.symm ne_s1_dd
    have ne_s2_dd : s2 ≠ dd := Nat.ne_of_lt (Nat.lt_of_lt_of_le E_s2.lt sf_dd)
    have ne_dd_s2 := Ne.symm ne_s2_dd
    replace E_s0 := E_s0.keep K151q
    replace E_s1 := E_s1.keep K151q
    replace E_s2 := E_s2.keep K151q
    replace E_arr := E_arr.keep K151q
    replace V_arr := V_arr.keep K151q (ninS ne_arr_b nin0)
    replace E_b := E_b.keep K151q
    clear F_args_b
    clear F_next_b
    have Z152 := Nat.le_trans Z150 K151q.1
    have E_b := y151_0
    have F_args_b := y151_1
    have F_next_b := y151_2
    have V_dd := y151_3
    show own_Go p e s below _ _ _ T151 (mkF m 138 #[.val (.int p0), .val (.int p1), .val (.int p2), .val (.int p3), .val (.int p4), .val (.int (3 : Int32)), .val (.int kk), .val (.ref s0), .val (.ref s1), .val (.ref s2), .val (.ref arr), .unset, .unset, .unset] [(.ref b)])
    refine own_st (fun _ k => XS.astore X151.here hx rfl (hb hby at_138) rfl rfl (l' := #[.val (.int p0), .val (.int p1), .val (.int p2), .val (.int p3), .val (.int p4), .val (.int (3 : Int32)), .val (.int kk), .val (.ref s0), .val (.ref s1), .val (.ref s2), .val (.ref arr), .val (.ref b), .unset, .unset]) rfl k) ?_
    show own_Go p e s below _ _ _ T151 (mkF m 140 #[.val (.int p0), .val (.int p1), .val (.int p2), .val (.int p3), .val (.int p4), .val (.int (3 : Int32)), .val (.int kk), .val (.ref s0), .val (.ref s1), .val (.ref s2), .val (.ref arr), .val (.ref b), .unset, .unset] [])
    refine own_st (fun _ k => XS.aload X151.here hx rfl (hb hby at_140) rfl rfl k) ?_
    show own_Go p e s below _ _ _ T151 (mkF m 142 #[.val (.int p0), .val (.int p1), .val (.int p2), .val (.int p3), .val (.int p4), .val (.int (3 : Int32)), .val (.int kk), .val (.ref s0), .val (.ref s1), .val (.ref s2), .val (.ref arr), .val (.ref b), .unset, .unset] [(.ref b)])
    refine own_callV X151 hx hZ (y := (⟨"com/example/chronotope/chronotope/Arguments", "hasNext", "()Z"⟩ : MethodName)) hown (hw _ (List.mem_of_getElem? (i := 46) rfl)) (hw _ (List.mem_of_getElem? (i := 47) rfl)) (hw _ (List.mem_of_getElem? (i := 49) rfl)) (hw _ (List.mem_of_getElem? (i := 48) rfl)) (hw _ (List.mem_of_getElem? (i := 30) rfl)) (hw _ (List.mem_of_getElem? (i := 50) rfl)) (by decide) rfl (rm7 l Z a0 hw [] b dd (0 : Int32) (3 : Int32) k141 [(.ref s0), (.ref s1), (.ref s2)] T151.heap n0 Z152 F_args_b F_next_b V_dd) 0 (by decide) (by decide) E_b (g := (mkF m 142 #[.val (.int p0), .val (.int p1), .val (.int p2), .val (.int p3), .val (.int p4), .val (.int (3 : Int32)), .val (.int kk), .val (.ref s0), .val (.ref s1), .val (.ref s2), .val (.ref arr), .val (.ref b), .unset, .unset] [(.ref b)])) rfl (by rw [hml]; rfl) (argsL := []) (rest := []) pd5 rfl rfl rfl (by show 2 * 0 + _ ≤ _; exact Nat.le_of_eq rfl) (hb hby at_142) (by decide) (by decide) ?_
    intro T153 v153 L153 X153 hQ153
    obtain ⟨rfl, N153q, e153⟩ := hQ153
    have N153 := Fr.app N151 N153q
    show own_Go p e s below _ _ _ T153 (mkF m 145 #[.val (.int p0), .val (.int p1), .val (.int p2), .val (.int p3), .val (.int p4), .val (.int (3 : Int32)), .val (.int kk), .val (.ref s0), .val (.ref s1), .val (.ref s2), .val (.ref arr), .val (.ref b), .unset, .unset] [(.int (own_b ((0 : Int32) < (3 : Int32))))])
    refine own_st (fun _ k => XS.iconst X153.here hx rfl (hb hby at_145) k) ?_
    show own_Go p e s below _ _ _ T153 (mkF m 146 #[.val (.int p0), .val (.int p1), .val (.int p2), .val (.int p3), .val (.int p4), .val (.int (3 : Int32)), .val (.int kk), .val (.ref s0), .val (.ref s1), .val (.ref s2), .val (.ref arr), .val (.ref b), .unset, .unset] [(.int (0 : Int32)), (.int (own_b ((0 : Int32) < (3 : Int32))))])
    refine own_st (fun _ k => XS.iload X153.here hx rfl (hb hby at_146) rfl k) ?_
    show own_Go p e s below _ _ _ T153 (mkF m 148 #[.val (.int p0), .val (.int p1), .val (.int p2), .val (.int p3), .val (.int p4), .val (.int (3 : Int32)), .val (.int kk), .val (.ref s0), .val (.ref s1), .val (.ref s2), .val (.ref arr), .val (.ref b), .unset, .unset] [(.int (3 : Int32)), (.int (0 : Int32)), (.int (own_b ((0 : Int32) < (3 : Int32))))])
    refine own_st (fun _ k => XS.icmpNo X153.here hx rfl (hb hby at_148) rfl (by decide) k) ?_
    show own_Go p e s below _ _ _ T153 (mkF m 151 #[.val (.int p0), .val (.int p1), .val (.int p2), .val (.int p3), .val (.int p4), .val (.int (3 : Int32)), .val (.int kk), .val (.ref s0), .val (.ref s1), .val (.ref s2), .val (.ref arr), .val (.ref b), .unset, .unset] [(.int (own_b ((0 : Int32) < (3 : Int32))))])
    refine own_st (fun _ k => XS.iconst X153.here hx rfl (hb hby at_151) k) ?_
    show own_Go p e s below _ _ _ T153 (mkF m 152 #[.val (.int p0), .val (.int p1), .val (.int p2), .val (.int p3), .val (.int p4), .val (.int (3 : Int32)), .val (.int kk), .val (.ref s0), .val (.ref s1), .val (.ref s2), .val (.ref arr), .val (.ref b), .unset, .unset] [(.int (1 : Int32)), (.int (own_b ((0 : Int32) < (3 : Int32))))])
    refine own_st (fun _ k => XS.goto X153.here hx rfl (pc0 := 152) (pc' := 156) rfl (hb hby at_152) (by decide) (by decide) k) ?_
    show own_Go p e s below _ _ _ T153 (mkF m 156 #[.val (.int p0), .val (.int p1), .val (.int p2), .val (.int p3), .val (.int p4), .val (.int (3 : Int32)), .val (.int kk), .val (.ref s0), .val (.ref s1), .val (.ref s2), .val (.ref arr), .val (.ref b), .unset, .unset] [(.int (1 : Int32)), (.int (own_b ((0 : Int32) < (3 : Int32))))])
    refine own_st (fun _ k => XS.icmpYes X153.here hx rfl (pc0 := 156) (pc' := 161) rfl (hb hby at_156) rfl (teq (own_bt (by decide))).1 (by decide) (by decide) k) ?_
    show own_Go p e s below _ _ _ T153 (mkF m 161 #[.val (.int p0), .val (.int p1), .val (.int p2), .val (.int p3), .val (.int p4), .val (.int (3 : Int32)), .val (.int kk), .val (.ref s0), .val (.ref s1), .val (.ref s2), .val (.ref arr), .val (.ref b), .unset, .unset] [])
    refine own_st (fun _ k => XS.iload X153.here hx rfl (hb hby at_161) rfl k) ?_
    show own_Go p e s below _ _ _ T153 (mkF m 163 #[.val (.int p0), .val (.int p1), .val (.int p2), .val (.int p3), .val (.int p4), .val (.int (3 : Int32)), .val (.int kk), .val (.ref s0), .val (.ref s1), .val (.ref s2), .val (.ref arr), .val (.ref b), .unset, .unset] [(.int kk)])
    refine own_st (fun _ k => XS.iconst X153.here hx rfl (hb hby at_163) k) ?_
    show own_Go p e s below _ _ _ T153 (mkF m 164 #[.val (.int p0), .val (.int p1), .val (.int p2), .val (.int p3), .val (.int p4), .val (.int (3 : Int32)), .val (.int kk), .val (.ref s0), .val (.ref s1), .val (.ref s2), .val (.ref arr), .val (.ref b), .unset, .unset] [(.int (1 : Int32)), (.int kk)])
    rcases hk with rfl | hk
    · show own_Go p e s below _ _ _ T153 (mkF m 164 #[.val (.int p0), .val (.int p1), .val (.int p2), .val (.int p3), .val (.int p4), .val (.int (3 : Int32)), .val (.int (0 : Int32)), .val (.ref s0), .val (.ref s1), .val (.ref s2), .val (.ref arr), .val (.ref b), .unset, .unset] [(.int (1 : Int32)), (.int (0 : Int32))])
      refine own_st (fun _ k => XS.icmpYes X153.here hx rfl (pc0 := 164) (pc' := 203) rfl (hb hby at_164) rfl (by decide) (by decide) (by decide) k) ?_
      show own_Go p e s below _ _ _ T153 (mkF m 203 #[.val (.int p0), .val (.int p1), .val (.int p2), .val (.int p3), .val (.int p4), .val (.int (3 : Int32)), .val (.int (0 : Int32)), .val (.ref s0), .val (.ref s1), .val (.ref s2), .val (.ref arr), .val (.ref b), .unset, .unset] [])
      refine own_st (fun _ k => XS.iload X153.here hx rfl (hb hby at_203) rfl k) ?_
      show own_Go p e s below _ _ _ T153 (mkF m 205 #[.val (.int p0), .val (.int p1), .val (.int p2), .val (.int p3), .val (.int p4), .val (.int (3 : Int32)), .val (.int (0 : Int32)), .val (.ref s0), .val (.ref s1), .val (.ref s2), .val (.ref arr), .val (.ref b), .unset, .unset] [(.int (0 : Int32))])
      refine own_st (fun _ k => XS.iconst X153.here hx rfl (hb hby at_205) k) ?_
      show own_Go p e s below _ _ _ T153 (mkF m 206 #[.val (.int p0), .val (.int p1), .val (.int p2), .val (.int p3), .val (.int p4), .val (.int (3 : Int32)), .val (.int (0 : Int32)), .val (.ref s0), .val (.ref s1), .val (.ref s2), .val (.ref arr), .val (.ref b), .unset, .unset] [(.int (2 : Int32)), (.int (0 : Int32))])
      refine own_st (fun _ k => XS.icmpYes X153.here hx rfl (pc0 := 206) (pc' := 245) rfl (hb hby at_206) rfl (by decide) (by decide) (by decide) k) ?_
      show own_Go p e s below _ _ _ T153 (mkF m 245 #[.val (.int p0), .val (.int p1), .val (.int p2), .val (.int p3), .val (.int p4), .val (.int (3 : Int32)), .val (.int (0 : Int32)), .val (.ref s0), .val (.ref s1), .val (.ref s2), .val (.ref arr), .val (.ref b), .unset, .unset] [])
      refine own_st (fun _ k => XS.iload X153.here hx rfl (hb hby at_245) rfl k) ?_
      show own_Go p e s below _ _ _ T153 (mkF m 247 #[.val (.int p0), .val (.int p1), .val (.int p2), .val (.int p3), .val (.int p4), .val (.int (3 : Int32)), .val (.int (0 : Int32)), .val (.ref s0), .val (.ref s1), .val (.ref s2), .val (.ref arr), .val (.ref b), .unset, .unset] [(.int (0 : Int32))])
      refine own_st (fun _ k => XS.iconst X153.here hx rfl (hb hby at_247) k) ?_
      show own_Go p e s below _ _ _ T153 (mkF m 248 #[.val (.int p0), .val (.int p1), .val (.int p2), .val (.int p3), .val (.int p4), .val (.int (3 : Int32)), .val (.int (0 : Int32)), .val (.ref s0), .val (.ref s1), .val (.ref s2), .val (.ref arr), .val (.ref b), .unset, .unset] [(.int (3 : Int32)), (.int (0 : Int32))])
      refine own_st (fun _ k => XS.icmpYes X153.here hx rfl (pc0 := 248) (pc' := 287) rfl (hb hby at_248) rfl (by decide) (by decide) (by decide) k) ?_
      show own_Go p e s below _ _ _ T153 (mkF m 287 #[.val (.int p0), .val (.int p1), .val (.int p2), .val (.int p3), .val (.int p4), .val (.int (3 : Int32)), .val (.int (0 : Int32)), .val (.ref s0), .val (.ref s1), .val (.ref s2), .val (.ref arr), .val (.ref b), .unset, .unset] [])
      refine own_st (fun _ k => XS.aload X153.here hx rfl (hb hby at_287) rfl rfl k) ?_
      show own_Go p e s below _ _ _ T153 (mkF m 289 #[.val (.int p0), .val (.int p1), .val (.int p2), .val (.int p3), .val (.int p4), .val (.int (3 : Int32)), .val (.int (0 : Int32)), .val (.ref s0), .val (.ref s1), .val (.ref s2), .val (.ref arr), .val (.ref b), .unset, .unset] [(.ref b)])
      refine own_callV X153 hx hZ (y := (⟨"com/example/chronotope/chronotope/Arguments", "hasNext", "()Z"⟩ : MethodName)) hown (hw _ (List.mem_of_getElem? (i := 46) rfl)) (hw _ (List.mem_of_getElem? (i := 47) rfl)) (hw _ (List.mem_of_getElem? (i := 49) rfl)) (hw _ (List.mem_of_getElem? (i := 48) rfl)) (hw _ (List.mem_of_getElem? (i := 30) rfl)) (hw _ (List.mem_of_getElem? (i := 50) rfl)) (by decide) e153 (rm7 l Z a0 hw [] b dd (0 : Int32) (3 : Int32) k141 [(.ref s0), (.ref s1), (.ref s2)] T151.heap n0 Z152 F_args_b F_next_b V_dd) 0 (by decide) (by decide) E_b (g := (mkF m 289 #[.val (.int p0), .val (.int p1), .val (.int p2), .val (.int p3), .val (.int p4), .val (.int (3 : Int32)), .val (.int (0 : Int32)), .val (.ref s0), .val (.ref s1), .val (.ref s2), .val (.ref arr), .val (.ref b), .unset, .unset] [(.ref b)])) rfl (by rw [hml]; rfl) (argsL := []) (rest := []) pd5 rfl rfl rfl (by show 2 * 0 + _ ≤ _; exact Nat.le_of_eq rfl) (hb hby at_289) (by decide) (by decide) ?_
      intro T154 v154 L154 X154 hQ154
      obtain ⟨rfl, N154q, e154⟩ := hQ154
      have N154 := Fr.app N153 N154q
      show own_Go p e s below _ _ _ T154 (mkF m 292 #[.val (.int p0), .val (.int p1), .val (.int p2), .val (.int p3), .val (.int p4), .val (.int (3 : Int32)), .val (.int (0 : Int32)), .val (.ref s0), .val (.ref s1), .val (.ref s2), .val (.ref arr), .val (.ref b), .unset, .unset] [(.int (own_b ((0 : Int32) < (3 : Int32))))])
      refine own_st (fun _ k => XS.istore X154.here hx rfl (hb hby at_292) rfl (l' := #[.val (.int p0), .val (.int p1), .val (.int p2), .val (.int p3), .val (.int p4), .val (.int (3 : Int32)), .val (.int (0 : Int32)), .val (.ref s0), .val (.ref s1), .val (.ref s2), .val (.ref arr), .val (.ref b), .val (.int (own_b ((0 : Int32) < (3 : Int32)))), .unset]) rfl k) ?_
      show own_Go p e s below _ _ _ T154 (mkF m 294 #[.val (.int p0), .val (.int p1), .val (.int p2), .val (.int p3), .val (.int p4), .val (.int (3 : Int32)), .val (.int (0 : Int32)), .val (.ref s0), .val (.ref s1), .val (.ref s2), .val (.ref arr), .val (.ref b), .val (.int (own_b ((0 : Int32) < (3 : Int32)))), .unset] [])
      refine own_st (fun _ k => XS.aload X154.here hx rfl (hb hby at_294) rfl rfl k) ?_
      show own_Go p e s below _ _ _ T154 (mkF m 296 #[.val (.int p0), .val (.int p1), .val (.int p2), .val (.int p3), .val (.int p4), .val (.int (3 : Int32)), .val (.int (0 : Int32)), .val (.ref s0), .val (.ref s1), .val (.ref s2), .val (.ref arr), .val (.ref b), .val (.int (own_b ((0 : Int32) < (3 : Int32)))), .unset] [(.ref b)])
      refine own_callV X154 hx hZ (y := (⟨"com/example/chronotope/chronotope/Arguments", "hasNext", "()Z"⟩ : MethodName)) hown (hw _ (List.mem_of_getElem? (i := 46) rfl)) (hw _ (List.mem_of_getElem? (i := 47) rfl)) (hw _ (List.mem_of_getElem? (i := 49) rfl)) (hw _ (List.mem_of_getElem? (i := 48) rfl)) (hw _ (List.mem_of_getElem? (i := 30) rfl)) (hw _ (List.mem_of_getElem? (i := 50) rfl)) (by decide) e154 (rm7 l Z a0 hw [] b dd (0 : Int32) (3 : Int32) k141 [(.ref s0), (.ref s1), (.ref s2)] T151.heap n0 Z152 F_args_b F_next_b V_dd) 0 (by decide) (by decide) E_b (g := (mkF m 296 #[.val (.int p0), .val (.int p1), .val (.int p2), .val (.int p3), .val (.int p4), .val (.int (3 : Int32)), .val (.int (0 : Int32)), .val (.ref s0), .val (.ref s1), .val (.ref s2), .val (.ref arr), .val (.ref b), .val (.int (own_b ((0 : Int32) < (3 : Int32)))), .unset] [(.ref b)])) rfl (by rw [hml]; rfl) (argsL := []) (rest := []) pd5 rfl rfl rfl (by show 2 * 0 + _ ≤ _; exact Nat.le_of_eq rfl) (hb hby at_296) (by decide) (by decide) ?_
      intro T155 v155 L155 X155 hQ155
      obtain ⟨rfl, N155q, e155⟩ := hQ155
      have N155 := Fr.app N154 N155q
      show own_Go p e s below _ _ _ T155 (mkF m 299 #[.val (.int p0), .val (.int p1), .val (.int p2), .val (.int p3), .val (.int p4), .val (.int (3 : Int32)), .val (.int (0 : Int32)), .val (.ref s0), .val (.ref s1), .val (.ref s2), .val (.ref arr), .val (.ref b), .val (.int (own_b ((0 : Int32) < (3 : Int32)))), .unset] [(.int (own_b ((0 : Int32) < (3 : Int32))))])
      refine own_st (fun _ k => XS.istore X155.here hx rfl (hb hby at_299) rfl (l' := #[.val (.int p0), .val (.int p1), .val (.int p2), .val (.int p3), .val (.int p4), .val (.int (3 : Int32)), .val (.int (0 : Int32)), .val (.ref s0), .val (.ref s1), .val (.ref s2), .val (.ref arr), .val (.ref b), .val (.int (own_b ((0 : Int32) < (3 : Int32)))), .val (.int (own_b ((0 : Int32) < (3 : Int32))))]) rfl k) ?_
      show own_Go p e s below _ _ _ T155 (mkF m 301 #[.val (.int p0), .val (.int p1), .val (.int p2), .val (.int p3), .val (.int p4), .val (.int (3 : Int32)), .val (.int (0 : Int32)), .val (.ref s0), .val (.ref s1), .val (.ref s2), .val (.ref arr), .val (.ref b), .val (.int (own_b ((0 : Int32) < (3 : Int32)))), .val (.int (own_b ((0 : Int32) < (3 : Int32))))] [])
      refine own_st (fun _ k => XS.iload X155.here hx rfl (hb hby at_301) rfl k) ?_
      show own_Go p e s below _ _ _ T155 (mkF m 303 #[.val (.int p0), .val (.int p1), .val (.int p2), .val (.int p3), .val (.int p4), .val (.int (3 : Int32)), .val (.int (0 : Int32)), .val (.ref s0), .val (.ref s1), .val (.ref s2), .val (.ref arr), .val (.ref b), .val (.int (own_b ((0 : Int32) < (3 : Int32)))), .val (.int (own_b ((0 : Int32) < (3 : Int32))))] [(.int (own_b ((0 : Int32) < (3 : Int32))))])
      refine own_st (fun _ k => XS.iload X155.here hx rfl (hb hby at_303) rfl k) ?_
      show own_Go p e s below _ _ _ T155 (mkF m 305 #[.val (.int p0), .val (.int p1), .val (.int p2), .val (.int p3), .val (.int p4), .val (.int (3 : Int32)), .val (.int (0 : Int32)), .val (.ref s0), .val (.ref s1), .val (.ref s2), .val (.ref arr), .val (.ref b), .val (.int (own_b ((0 : Int32) < (3 : Int32)))), .val (.int (own_b ((0 : Int32) < (3 : Int32))))] [(.int (0 : Int32)), (.int (own_b ((0 : Int32) < (3 : Int32))))])
      refine own_st (fun _ k => XS.iload X155.here hx rfl (hb hby at_305) rfl k) ?_
      show own_Go p e s below _ _ _ T155 (mkF m 307 #[.val (.int p0), .val (.int p1), .val (.int p2), .val (.int p3), .val (.int p4), .val (.int (3 : Int32)), .val (.int (0 : Int32)), .val (.ref s0), .val (.ref s1), .val (.ref s2), .val (.ref arr), .val (.ref b), .val (.int (own_b ((0 : Int32) < (3 : Int32)))), .val (.int (own_b ((0 : Int32) < (3 : Int32))))] [(.int (3 : Int32)), (.int (0 : Int32)), (.int (own_b ((0 : Int32) < (3 : Int32))))])
      refine own_st (fun _ k => XS.icmpNo X155.here hx rfl (hb hby at_307) rfl (by decide) k) ?_
      show own_Go p e s below _ _ _ T155 (mkF m 310 #[.val (.int p0), .val (.int p1), .val (.int p2), .val (.int p3), .val (.int p4), .val (.int (3 : Int32)), .val (.int (0 : Int32)), .val (.ref s0), .val (.ref s1), .val (.ref s2), .val (.ref arr), .val (.ref b), .val (.int (own_b ((0 : Int32) < (3 : Int32)))), .val (.int (own_b ((0 : Int32) < (3 : Int32))))] [(.int (own_b ((0 : Int32) < (3 : Int32))))])
      refine own_st (fun _ k => XS.iconst X155.here hx rfl (hb hby at_310) k) ?_
      show own_Go p e s below _ _ _ T155 (mkF m 311 #[.val (.int p0), .val (.int p1), .val (.int p2), .val (.int p3), .val (.int p4), .val (.int (3 : Int32)), .val (.int (0 : Int32)), .val (.ref s0), .val (.ref s1), .val (.ref s2), .val (.ref arr), .val (.ref b), .val (.int (own_b ((0 : Int32) < (3 : Int32)))), .val (.int (own_b ((0 : Int32) < (3 : Int32))))] [(.int (1 : Int32)), (.int (own_b ((0 : Int32) < (3 : Int32))))])
      refine own_st (fun _ k => XS.goto X155.here hx rfl (pc0 := 311) (pc' := 315) rfl (hb hby at_311) (by decide) (by decide) k) ?_
      show own_Go p e s below _ _ _ T155 (mkF m 315 #[.val (.int p0), .val (.int p1), .val (.int p2), .val (.int p3), .val (.int p4), .val (.int (3 : Int32)), .val (.int (0 : Int32)), .val (.ref s0), .val (.ref s1), .val (.ref s2), .val (.ref arr), .val (.ref b), .val (.int (own_b ((0 : Int32) < (3 : Int32)))), .val (.int (own_b ((0 : Int32) < (3 : Int32))))] [(.int (1 : Int32)), (.int (own_b ((0 : Int32) < (3 : Int32))))])
      refine own_st (fun _ k => XS.icmpNo X155.here hx rfl (hb hby at_315) rfl (teq (own_bt (by decide))).2 k) ?_
      show own_Go p e s below _ _ _ T155 (mkF m 318 #[.val (.int p0), .val (.int p1), .val (.int p2), .val (.int p3), .val (.int p4), .val (.int (3 : Int32)), .val (.int (0 : Int32)), .val (.ref s0), .val (.ref s1), .val (.ref s2), .val (.ref arr), .val (.ref b), .val (.int (own_b ((0 : Int32) < (3 : Int32)))), .val (.int (own_b ((0 : Int32) < (3 : Int32))))] [])
      refine own_st (fun _ k => XS.iload X155.here hx rfl (hb hby at_318) rfl k) ?_
      show own_Go p e s below _ _ _ T155 (mkF m 320 #[.val (.int p0), .val (.int p1), .val (.int p2), .val (.int p3), .val (.int p4), .val (.int (3 : Int32)), .val (.int (0 : Int32)), .val (.ref s0), .val (.ref s1), .val (.ref s2), .val (.ref arr), .val (.ref b), .val (.int (own_b ((0 : Int32) < (3 : Int32)))), .val (.int (own_b ((0 : Int32) < (3 : Int32))))] [(.int (own_b ((0 : Int32) < (3 : Int32))))])
      refine own_st (fun _ k => XS.iload X155.here hx rfl (hb hby at_320) rfl k) ?_
      show own_Go p e s below _ _ _ T155 (mkF m 322 #[.val (.int p0), .val (.int p1), .val (.int p2), .val (.int p3), .val (.int p4), .val (.int (3 : Int32)), .val (.int (0 : Int32)), .val (.ref s0), .val (.ref s1), .val (.ref s2), .val (.ref arr), .val (.ref b), .val (.int (own_b ((0 : Int32) < (3 : Int32)))), .val (.int (own_b ((0 : Int32) < (3 : Int32))))] [(.int (own_b ((0 : Int32) < (3 : Int32)))), (.int (own_b ((0 : Int32) < (3 : Int32))))])
      refine own_st (fun _ k => XS.icmpNo X155.here hx rfl (hb hby at_322) rfl (teq rfl).2 k) ?_
      show own_Go p e s below _ _ _ T155 (mkF m 325 #[.val (.int p0), .val (.int p1), .val (.int p2), .val (.int p3), .val (.int p4), .val (.int (3 : Int32)), .val (.int (0 : Int32)), .val (.ref s0), .val (.ref s1), .val (.ref s2), .val (.ref arr), .val (.ref b), .val (.int (own_b ((0 : Int32) < (3 : Int32)))), .val (.int (own_b ((0 : Int32) < (3 : Int32))))] [])
      refine own_st (fun _ k => XS.iconst X155.here hx rfl (hb hby at_325) k) ?_
      show own_Go p e s below _ _ _ T155 (mkF m 326 #[.val (.int p0), .val (.int p1), .val (.int p2), .val (.int p3), .val (.int p4), .val (.int (3 : Int32)), .val (.int (0 : Int32)), .val (.ref s0), .val (.ref s1), .val (.ref s2), .val (.ref arr), .val (.ref b), .val (.int (own_b ((0 : Int32) < (3 : Int32)))), .val (.int (own_b ((0 : Int32) < (3 : Int32))))] [(.int (1 : Int32))])
      refine own_st (fun _ k => XS.goto X155.here hx rfl (pc0 := 326) (pc' := 330) rfl (hb hby at_326) (by decide) (by decide) k) ?_
      show own_Go p e s below _ _ _ T155 (mkF m 330 #[.val (.int p0), .val (.int p1), .val (.int p2), .val (.int p3), .val (.int p4), .val (.int (3 : Int32)), .val (.int (0 : Int32)), .val (.ref s0), .val (.ref s1), .val (.ref s2), .val (.ref arr), .val (.ref b), .val (.int (own_b ((0 : Int32) < (3 : Int32)))), .val (.int (own_b ((0 : Int32) < (3 : Int32))))] [(.int (1 : Int32))])
      exact own_retN X155 hx hlk (t := .boolean) hret (by simp) (hb hby at_330) (z' := (1 : Int32)) rfl (by decide) (by decide) ⟨rfl, N155⟩
    refine own_st (fun _ k => XS.icmpNo X153.here hx rfl (hb hby at_164) rfl (flt (by rcases hk with rfl | rfl | rfl <;> decide)).1 k) ?_
    show own_Go p e s below _ _ _ T153 (mkF m 167 #[.val (.int p0), .val (.int p1), .val (.int p2), .val (.int p3), .val (.int p4), .val (.int (3 : Int32)), .val (.int kk), .val (.ref s0), .val (.ref s1), .val (.ref s2), .val (.ref arr), .val (.ref b), .unset, .unset] [])
    refine own_st (fun _ k => XS.aload X153.here hx rfl (hb hby at_167) rfl rfl k) ?_
    show own_Go p e s below _ _ _ T153 (mkF m 169 #[.val (.int p0), .val (.int p1), .val (.int p2), .val (.int p3), .val (.int p4), .val (.int (3 : Int32)), .val (.int kk), .val (.ref s0), .val (.ref s1), .val (.ref s2), .val (.ref arr), .val (.ref b), .unset, .unset] [(.ref s0)])
    refine own_st (fun _ k => XS.aload X153.here hx rfl (hb hby at_169) rfl rfl k) ?_
    show own_Go p e s below _ _ _ T153 (mkF m 171 #[.val (.int p0), .val (.int p1), .val (.int p2), .val (.int p3), .val (.int p4), .val (.int (3 : Int32)), .val (.int kk), .val (.ref s0), .val (.ref s1), .val (.ref s2), .val (.ref arr), .val (.ref b), .unset, .unset] [(.ref b), (.ref s0)])
    refine own_callV X153 hx hZ (y := (⟨"com/example/chronotope/chronotope/Arguments", "next", "()Ljava/lang/String;"⟩ : MethodName)) hown (hw _ (List.mem_of_getElem? (i := 53) rfl)) (hw _ (List.mem_of_getElem? (i := 54) rfl)) (hw _ (List.mem_of_getElem? (i := 56) rfl)) (hw _ (List.mem_of_getElem? (i := 55) rfl)) (hw _ (List.mem_of_getElem? (i := 30) rfl)) (hw _ (List.mem_of_getElem? (i := 57) rfl)) (by decide) e153 (rm8 l Z a0 hw [] b dd (0 : Int32) (3 : Int32) k141 [(.ref s0), (.ref s1), (.ref s2)] s0 T151.heap n0 Z152 F_args_b F_next_b V_dd E_b ne_dd_b g_b ⟨by decide, by decide⟩ rfl) 1 (by decide) (by decide) E_b (g := (mkF m 171 #[.val (.int p0), .val (.int p1), .val (.int p2), .val (.int p3), .val (.int p4), .val (.int (3 : Int32)), .val (.int kk), .val (.ref s0), .val (.ref s1), .val (.ref s2), .val (.ref arr), .val (.ref b), .unset, .unset] [(.ref b), (.ref s0)])) rfl (by rw [hml]; rfl) (argsL := []) (rest := [(.ref s0)]) pd6 rfl rfl rfl (by show 2 * 0 + _ ≤ _; exact Nat.le_of_eq rfl) (hb hby at_171) (by decide) (by decide) ?_
    intro T156 v156 L156 X156 hQ156
    obtain ⟨rfl, N156q, K156q, y156_0, y156_1, y156_2, y156_3⟩ := hQ156
    have N156 := Fr.app N153 N156q
    replace E_s0 := E_s0.keep K156q
    replace E_s1 := E_s1.keep K156q
    replace E_s2 := E_s2.keep K156q
    replace E_b := E_b.keep K156q
    clear F_args_b
    clear F_next_b
    replace V_dd := V_dd.keep K156q (ninS ne_dd_b nin0)
    have Z157 := Nat.le_trans Z152 K156q.1
    have E_b := y156_0
    have F_args_b := y156_1
    have F_next_b := y156_2
    have V_dd := y156_3
    show own_Go p e s below _ _ _ T156 (mkF m 174 #[.val (.int p0), .val (.int p1), .val (.int p2), .val (.int p3), .val (.int p4), .val (.int (3 : Int32)), .val (.int kk), .val (.ref s0), .val (.ref s1), .val (.ref s2), .val (.ref arr), .val (.ref b), .unset, .unset] [(.ref s0), (.ref s0)])
    refine own_callV X156 hx hZ (y := (⟨"java/lang/String", "equals", "(Ljava/lang/Object;)Z"⟩ : MethodName)) hown (hw _ (List.mem_of_getElem? (i := 59) rfl)) (hw _ (List.mem_of_getElem? (i := 60) rfl)) (hw _ (List.mem_of_getElem? (i := 62) rfl)) (hw _ (List.mem_of_getElem? (i := 61) rfl)) (hw _ (List.mem_of_getElem? (i := 2) rfl)) (hw _ (List.mem_of_getElem? (i := 63) rfl)) (by decide) rfl (rm9 l Z a0 hw [] s0 T156.heap n0 Z157) 0 (by decide) (by decide) E_s0 (g := (mkF m 174 #[.val (.int p0), .val (.int p1), .val (.int p2), .val (.int p3), .val (.int p4), .val (.int (3 : Int32)), .val (.int kk), .val (.ref s0), .val (.ref s1), .val (.ref s2), .val (.ref arr), .val (.ref b), .unset, .unset] [(.ref s0), (.ref s0)])) rfl (by rw [hml]; rfl) (argsL := [(.ref s0)]) (rest := []) pd7 rfl rfl rfl (by show 2 * 0 + _ ≤ _; exact Nat.le_of_eq rfl) (hb hby at_174) (by decide) (by decide) ?_
    intro T158 v158 L158 X158 hQ158
    obtain ⟨rfl, N158q, e158⟩ := hQ158
    have N158 := Fr.app N156 N158q
    show own_Go p e s below _ _ _ T158 (mkF m 177 #[.val (.int p0), .val (.int p1), .val (.int p2), .val (.int p3), .val (.int p4), .val (.int (3 : Int32)), .val (.int kk), .val (.ref s0), .val (.ref s1), .val (.ref s2), .val (.ref arr), .val (.ref b), .unset, .unset] [(.int (1 : Int32))])
    refine own_st (fun _ k => XS.ifYes X158.here hx rfl (pc0 := 177) (pc' := 182) rfl (hb hby at_177) rfl (by decide) (by decide) (by decide) k) ?_
    show own_Go p e s below _ _ _ T158 (mkF m 182 #[.val (.int p0), .val (.int p1), .val (.int p2), .val (.int p3), .val (.int p4), .val (.int (3 : Int32)), .val (.int kk), .val (.ref s0), .val (.ref s1), .val (.ref s2), .val (.ref arr), .val (.ref b), .unset, .unset] [])
    refine own_st (fun _ k => XS.aload X158.here hx rfl (hb hby at_182) rfl rfl k) ?_
    show own_Go p e s below _ _ _ T158 (mkF m 184 #[.val (.int p0), .val (.int p1), .val (.int p2), .val (.int p3), .val (.int p4), .val (.int (3 : Int32)), .val (.int kk), .val (.ref s0), .val (.ref s1), .val (.ref s2), .val (.ref arr), .val (.ref b), .unset, .unset] [(.ref b)])
    refine own_callV X158 hx hZ (y := (⟨"com/example/chronotope/chronotope/Arguments", "hasNext", "()Z"⟩ : MethodName)) hown (hw _ (List.mem_of_getElem? (i := 46) rfl)) (hw _ (List.mem_of_getElem? (i := 47) rfl)) (hw _ (List.mem_of_getElem? (i := 49) rfl)) (hw _ (List.mem_of_getElem? (i := 48) rfl)) (hw _ (List.mem_of_getElem? (i := 30) rfl)) (hw _ (List.mem_of_getElem? (i := 50) rfl)) (by decide) e158 (rm7 l Z a0 hw [] b dd ((0 : Int32) + (1 : Int32)) (3 : Int32) k141 [(.ref s0), (.ref s1), (.ref s2)] T156.heap n0 Z157 F_args_b F_next_b V_dd) 0 (by decide) (by decide) E_b (g := (mkF m 184 #[.val (.int p0), .val (.int p1), .val (.int p2), .val (.int p3), .val (.int p4), .val (.int (3 : Int32)), .val (.int kk), .val (.ref s0), .val (.ref s1), .val (.ref s2), .val (.ref arr), .val (.ref b), .unset, .unset] [(.ref b)])) rfl (by rw [hml]; rfl) (argsL := []) (rest := []) pd5 rfl rfl rfl (by show 2 * 0 + _ ≤ _; exact Nat.le_of_eq rfl) (hb hby at_184) (by decide) (by decide) ?_
    intro T159 v159 L159 X159 hQ159
    obtain ⟨rfl, N159q, e159⟩ := hQ159
    have N159 := Fr.app N158 N159q
    show own_Go p e s below _ _ _ T159 (mkF m 187 #[.val (.int p0), .val (.int p1), .val (.int p2), .val (.int p3), .val (.int p4), .val (.int (3 : Int32)), .val (.int kk), .val (.ref s0), .val (.ref s1), .val (.ref s2), .val (.ref arr), .val (.ref b), .unset, .unset] [(.int (own_b (((0 : Int32) + (1 : Int32)) < (3 : Int32))))])
    refine own_st (fun _ k => XS.iconst X159.here hx rfl (hb hby at_187) k) ?_
    show own_Go p e s below _ _ _ T159 (mkF m 188 #[.val (.int p0), .val (.int p1), .val (.int p2), .val (.int p3), .val (.int p4), .val (.int (3 : Int32)), .val (.int kk), .val (.ref s0), .val (.ref s1), .val (.ref s2), .val (.ref arr), .val (.ref b), .unset, .unset] [(.int (1 : Int32)), (.int (own_b (((0 : Int32) + (1 : Int32)) < (3 : Int32))))])
    refine own_st (fun _ k => XS.iload X159.here hx rfl (hb hby at_188) rfl k) ?_
    show own_Go p e s below _ _ _ T159 (mkF m 190 #[.val (.int p0), .val (.int p1), .val (.int p2), .val (.int p3), .val (.int p4), .val (.int (3 : Int32)), .val (.int kk), .val (.ref s0), .val (.ref s1), .val (.ref s2), .val (.ref arr), .val (.ref b), .unset, .unset] [(.int (3 : Int32)), (.int (1 : Int32)), (.int (own_b (((0 : Int32) + (1 : Int32)) < (3 : Int32))))])
    refine own_st (fun _ k => XS.icmpNo X159.here hx rfl (hb hby at_190) rfl (by decide) k) ?_
    show own_Go p e s below _ _ _ T159 (mkF m 193 #[.val (.int p0), .val (.int p1), .val (.int p2), .val (.int p3), .val (.int p4), .val (.int (3 : Int32)), .val (.int kk), .val (.ref s0), .val (.ref s1), .val (.ref s2), .val (.ref arr), .val (.ref b), .unset, .unset] [(.int (own_b (((0 : Int32) + (1 : Int32)) < (3 : Int32))))])
    refine own_st (fun _ k => XS.iconst X159.here hx rfl (hb hby at_193) k) ?_
    show own_Go p e s below _ _ _ T159 (mkF m 194 #[.val (.int p0), .val (.int p1), .val (.int p2), .val (.int p3), .val (.int p4), .val (.int (3 : Int32)), .val (.int kk), .val (.ref s0), .val (.ref s1), .val (.ref s2), .val (.ref arr), .val (.ref b), .unset, .unset] [(.int (1 : Int32)), (.int (own_b (((0 : Int32) + (1 : Int32)) < (3 : Int32))))])
    refine own_st (fun _ k => XS.goto X159.here hx rfl (pc0 := 194) (pc' := 198) rfl (hb hby at_194) (by decide) (by decide) k) ?_
    show own_Go p e s below _ _ _ T159 (mkF m 198 #[.val (.int p0), .val (.int p1), .val (.int p2), .val (.int p3), .val (.int p4), .val (.int (3 : Int32)), .val (.int kk), .val (.ref s0), .val (.ref s1), .val (.ref s2), .val (.ref arr), .val (.ref b), .unset, .unset] [(.int (1 : Int32)), (.int (own_b (((0 : Int32) + (1 : Int32)) < (3 : Int32))))])
    refine own_st (fun _ k => XS.icmpYes X159.here hx rfl (pc0 := 198) (pc' := 203) rfl (hb hby at_198) rfl (teq (own_bt (by decide))).1 (by decide) (by decide) k) ?_
    show own_Go p e s below _ _ _ T159 (mkF m 203 #[.val (.int p0), .val (.int p1), .val (.int p2), .val (.int p3), .val (.int p4), .val (.int (3 : Int32)), .val (.int kk), .val (.ref s0), .val (.ref s1), .val (.ref s2), .val (.ref arr), .val (.ref b), .unset, .unset] [])
    refine own_st (fun _ k => XS.iload X159.here hx rfl (hb hby at_203) rfl k) ?_
    show own_Go p e s below _ _ _ T159 (mkF m 205 #[.val (.int p0), .val (.int p1), .val (.int p2), .val (.int p3), .val (.int p4), .val (.int (3 : Int32)), .val (.int kk), .val (.ref s0), .val (.ref s1), .val (.ref s2), .val (.ref arr), .val (.ref b), .unset, .unset] [(.int kk)])
    refine own_st (fun _ k => XS.iconst X159.here hx rfl (hb hby at_205) k) ?_
    show own_Go p e s below _ _ _ T159 (mkF m 206 #[.val (.int p0), .val (.int p1), .val (.int p2), .val (.int p3), .val (.int p4), .val (.int (3 : Int32)), .val (.int kk), .val (.ref s0), .val (.ref s1), .val (.ref s2), .val (.ref arr), .val (.ref b), .unset, .unset] [(.int (2 : Int32)), (.int kk)])
    rcases hk with rfl | hk
    · show own_Go p e s below _ _ _ T159 (mkF m 206 #[.val (.int p0), .val (.int p1), .val (.int p2), .val (.int p3), .val (.int p4), .val (.int (3 : Int32)), .val (.int (1 : Int32)), .val (.ref s0), .val (.ref s1), .val (.ref s2), .val (.ref arr), .val (.ref b), .unset, .unset] [(.int (2 : Int32)), (.int (1 : Int32))])
      refine own_st (fun _ k => XS.icmpYes X159.here hx rfl (pc0 := 206) (pc' := 245) rfl (hb hby at_206) rfl (by decide) (by decide) (by decide) k) ?_
      show own_Go p e s below _ _ _ T159 (mkF m 245 #[.val (.int p0), .val (.int p1), .val (.int p2), .val (.int p3), .val (.int p4), .val (.int (3 : Int32)), .val (.int (1 : Int32)), .val (.ref s0), .val (.ref s1), .val (.ref s2), .val (.ref arr), .val (.ref b), .unset, .unset] [])
      refine own_st (fun _ k => XS.iload X159.here hx rfl (hb hby at_245) rfl k) ?_
      show own_Go p e s below _ _ _ T159 (mkF m 247 #[.val (.int p0), .val (.int p1), .val (.int p2), .val (.int p3), .val (.int p4), .val (.int (3 : Int32)), .val (.int (1 : Int32)), .val (.ref s0), .val (.ref s1), .val (.ref s2), .val (.ref arr), .val (.ref b), .unset, .unset] [(.int (1 : Int32))])
      refine own_st (fun _ k => XS.iconst X159.here hx rfl (hb hby at_247) k) ?_
      show own_Go p e s below _ _ _ T159 (mkF m 248 #[.val (.int p0), .val (.int p1), .val (.int p2), .val (.int p3), .val (.int p4), .val (.int (3 : Int32)), .val (.int (1 : Int32)), .val (.ref s0), .val (.ref s1), .val (.ref s2), .val (.ref arr), .val (.ref b), .unset, .unset] [(.int (3 : Int32)), (.int (1 : Int32))])
      refine own_st (fun _ k => XS.icmpYes X159.here hx rfl (pc0 := 248) (pc' := 287) rfl (hb hby at_248) rfl (by decide) (by decide) (by decide) k) ?_
      show own_Go p e s below _ _ _ T159 (mkF m 287 #[.val (.int p0), .val (.int p1), .val (.int p2), .val (.int p3), .val (.int p4), .val (.int (3 : Int32)), .val (.int (1 : Int32)), .val (.ref s0), .val (.ref s1), .val (.ref s2), .val (.ref arr), .val (.ref b), .unset, .unset] [])
      refine own_st (fun _ k => XS.aload X159.here hx rfl (hb hby at_287) rfl rfl k) ?_
      show own_Go p e s below _ _ _ T159 (mkF m 289 #[.val (.int p0), .val (.int p1), .val (.int p2), .val (.int p3), .val (.int p4), .val (.int (3 : Int32)), .val (.int (1 : Int32)), .val (.ref s0), .val (.ref s1), .val (.ref s2), .val (.ref arr), .val (.ref b), .unset, .unset] [(.ref b)])
      refine own_callV X159 hx hZ (y := (⟨"com/example/chronotope/chronotope/Arguments", "hasNext", "()Z"⟩ : MethodName)) hown (hw _ (List.mem_of_getElem? (i := 46) rfl)) (hw _ (List.mem_of_getElem? (i := 47) rfl)) (hw _ (List.mem_of_getElem? (i := 49) rfl)) (hw _ (List.mem_of_getElem? (i := 48) rfl)) (hw _ (List.mem_of_getElem? (i := 30) rfl)) (hw _ (List.mem_of_getElem? (i := 50) rfl)) (by decide) e159 (rm7 l Z a0 hw [] b dd ((0 : Int32) + (1 : Int32)) (3 : Int32) k141 [(.ref s0), (.ref s1), (.ref s2)] T156.heap n0 Z157 F_args_b F_next_b V_dd) 0 (by decide) (by decide) E_b (g := (mkF m 289 #[.val (.int p0), .val (.int p1), .val (.int p2), .val (.int p3), .val (.int p4), .val (.int (3 : Int32)), .val (.int (1 : Int32)), .val (.ref s0), .val (.ref s1), .val (.ref s2), .val (.ref arr), .val (.ref b), .unset, .unset] [(.ref b)])) rfl (by rw [hml]; rfl) (argsL := []) (rest := []) pd5 rfl rfl rfl (by show 2 * 0 + _ ≤ _; exact Nat.le_of_eq rfl) (hb hby at_289) (by decide) (by decide) ?_
      intro T160 v160 L160 X160 hQ160
      obtain ⟨rfl, N160q, e160⟩ := hQ160
      have N160 := Fr.app N159 N160q
      show own_Go p e s below _ _ _ T160 (mkF m 292 #[.val (.int p0), .val (.int p1), .val (.int p2), .val (.int p3), .val (.int p4), .val (.int (3 : Int32)), .val (.int (1 : Int32)), .val (.ref s0), .val (.ref s1), .val (.ref s2), .val (.ref arr), .val (.ref b), .unset, .unset] [(.int (own_b (((0 : Int32) + (1 : Int32)) < (3 : Int32))))])
      refine own_st (fun _ k => XS.istore X160.here hx rfl (hb hby at_292) rfl (l' := #[.val (.int p0), .val (.int p1), .val (.int p2), .val (.int p3), .val (.int p4), .val (.int (3 : Int32)), .val (.int (1 : Int32)), .val (.ref s0), .val (.ref s1), .val (.ref s2), .val (.ref arr), .val (.ref b), .val (.int (own_b (((0 : Int32) + (1 : Int32)) < (3 : Int32)))), .unset]) rfl k) ?_
      show own_Go p e s below _ _ _ T160 (mkF m 294 #[.val (.int p0), .val (.int p1), .val (.int p2), .val (.int p3), .val (.int p4), .val (.int (3 : Int32)), .val (.int (1 : Int32)), .val (.ref s0), .val (.ref s1), .val (.ref s2), .val (.ref arr), .val (.ref b), .val (.int (own_b (((0 : Int32) + (1 : Int32)) < (3 : Int32)))), .unset] [])
      refine own_st (fun _ k => XS.aload X160.here hx rfl (hb hby at_294) rfl rfl k) ?_
      show own_Go p e s below _ _ _ T160 (mkF m 296 #[.val (.int p0), .val (.int p1), .val (.int p2), .val (.int p3), .val (.int p4), .val (.int (3 : Int32)), .val (.int (1 : Int32)), .val (.ref s0), .val (.ref s1), .val (.ref s2), .val (.ref arr), .val (.ref b), .val (.int (own_b (((0 : Int32) + (1 : Int32)) < (3 : Int32)))), .unset] [(.ref b)])
      refine own_callV X160 hx hZ (y := (⟨"com/example/chronotope/chronotope/Arguments", "hasNext", "()Z"⟩ : MethodName)) hown (hw _ (List.mem_of_getElem? (i := 46) rfl)) (hw _ (List.mem_of_getElem? (i := 47) rfl)) (hw _ (List.mem_of_getElem? (i := 49) rfl)) (hw _ (List.mem_of_getElem? (i := 48) rfl)) (hw _ (List.mem_of_getElem? (i := 30) rfl)) (hw _ (List.mem_of_getElem? (i := 50) rfl)) (by decide) e160 (rm7 l Z a0 hw [] b dd ((0 : Int32) + (1 : Int32)) (3 : Int32) k141 [(.ref s0), (.ref s1), (.ref s2)] T156.heap n0 Z157 F_args_b F_next_b V_dd) 0 (by decide) (by decide) E_b (g := (mkF m 296 #[.val (.int p0), .val (.int p1), .val (.int p2), .val (.int p3), .val (.int p4), .val (.int (3 : Int32)), .val (.int (1 : Int32)), .val (.ref s0), .val (.ref s1), .val (.ref s2), .val (.ref arr), .val (.ref b), .val (.int (own_b (((0 : Int32) + (1 : Int32)) < (3 : Int32)))), .unset] [(.ref b)])) rfl (by rw [hml]; rfl) (argsL := []) (rest := []) pd5 rfl rfl rfl (by show 2 * 0 + _ ≤ _; exact Nat.le_of_eq rfl) (hb hby at_296) (by decide) (by decide) ?_
      intro T161 v161 L161 X161 hQ161
      obtain ⟨rfl, N161q, e161⟩ := hQ161
      have N161 := Fr.app N160 N161q
      show own_Go p e s below _ _ _ T161 (mkF m 299 #[.val (.int p0), .val (.int p1), .val (.int p2), .val (.int p3), .val (.int p4), .val (.int (3 : Int32)), .val (.int (1 : Int32)), .val (.ref s0), .val (.ref s1), .val (.ref s2), .val (.ref arr), .val (.ref b), .val (.int (own_b (((0 : Int32) + (1 : Int32)) < (3 : Int32)))), .unset] [(.int (own_b (((0 : Int32) + (1 : Int32)) < (3 : Int32))))])
      refine own_st (fun _ k => XS.istore X161.here hx rfl (hb hby at_299) rfl (l' := #[.val (.int p0), .val (.int p1), .val (.int p2), .val (.int p3), .val (.int p4), .val (.int (3 : Int32)), .val (.int (1 : Int32)), .val (.ref s0), .val (.ref s1), .val (.ref s2), .val (.ref arr), .val (.ref b), .val (.int (own_b (((0 : Int32) + (1 : Int32)) < (3 : Int32)))), .val (.int (own_b (((0 : Int32) + (1 : Int32)) < (3 : Int32))))]) rfl k) ?_
      show own_Go p e s below _ _ _ T161 (mkF m 301 #[.val (.int p0), .val (.int p1), .val (.int p2), .val (.int p3), .val (.int p4), .val (.int (3 : Int32)), .val (.int (1 : Int32)), .val (.ref s0), .val (.ref s1), .val (.ref s2), .val (.ref arr), .val (.ref b), .val (.int (own_b (((0 : Int32) + (1 : Int32)) < (3 : Int32)))), .val (.int (own_b (((0 : Int32) + (1 : Int32)) < (3 : Int32))))] [])
      refine own_st (fun _ k => XS.iload X161.here hx rfl (hb hby at_301) rfl k) ?_
      show own_Go p e s below _ _ _ T161 (mkF m 303 #[.val (.int p0), .val (.int p1), .val (.int p2), .val (.int p3), .val (.int p4), .val (.int (3 : Int32)), .val (.int (1 : Int32)), .val (.ref s0), .val (.ref s1), .val (.ref s2), .val (.ref arr), .val (.ref b), .val (.int (own_b (((0 : Int32) + (1 : Int32)) < (3 : Int32)))), .val (.int (own_b (((0 : Int32) + (1 : Int32)) < (3 : Int32))))] [(.int (own_b (((0 : Int32) + (1 : Int32)) < (3 : Int32))))])
      refine own_st (fun _ k => XS.iload X161.here hx rfl (hb hby at_303) rfl k) ?_
      show own_Go p e s below _ _ _ T161 (mkF m 305 #[.val (.int p0), .val (.int p1), .val (.int p2), .val (.int p3), .val (.int p4), .val (.int (3 : Int32)), .val (.int (1 : Int32)), .val (.ref s0), .val (.ref s1), .val (.ref s2), .val (.ref arr), .val (.ref b), .val (.int (own_b (((0 : Int32) + (1 : Int32)) < (3 : Int32)))), .val (.int (own_b (((0 : Int32) + (1 : Int32)) < (3 : Int32))))] [(.int (1 : Int32)), (.int (own_b (((0 : Int32) + (1 : Int32)) < (3 : Int32))))])
      refine own_st (fun _ k => XS.iload X161.here hx rfl (hb hby at_305) rfl k) ?_
      show own_Go p e s below _ _ _ T161 (mkF m 307 #[.val (.int p0), .val (.int p1), .val (.int p2), .val (.int p3), .val (.int p4), .val (.int (3 : Int32)), .val (.int (1 : Int32)), .val (.ref s0), .val (.ref s1), .val (.ref s2), .val (.ref arr), .val (.ref b), .val (.int (own_b (((0 : Int32) + (1 : Int32)) < (3 : Int32)))), .val (.int (own_b (((0 : Int32) + (1 : Int32)) < (3 : Int32))))] [(.int (3 : Int32)), (.int (1 : Int32)), (.int (own_b (((0 : Int32) + (1 : Int32)) < (3 : Int32))))])
      refine own_st (fun _ k => XS.icmpNo X161.here hx rfl (hb hby at_307) rfl (by decide) k) ?_
      show own_Go p e s below _ _ _ T161 (mkF m 310 #[.val (.int p0), .val (.int p1), .val (.int p2), .val (.int p3), .val (.int p4), .val (.int (3 : Int32)), .val (.int (1 : Int32)), .val (.ref s0), .val (.ref s1), .val (.ref s2), .val (.ref arr), .val (.ref b), .val (.int (own_b (((0 : Int32) + (1 : Int32)) < (3 : Int32)))), .val (.int (own_b (((0 : Int32) + (1 : Int32)) < (3 : Int32))))] [(.int (own_b (((0 : Int32) + (1 : Int32)) < (3 : Int32))))])
      refine own_st (fun _ k => XS.iconst X161.here hx rfl (hb hby at_310) k) ?_
      show own_Go p e s below _ _ _ T161 (mkF m 311 #[.val (.int p0), .val (.int p1), .val (.int p2), .val (.int p3), .val (.int p4), .val (.int (3 : Int32)), .val (.int (1 : Int32)), .val (.ref s0), .val (.ref s1), .val (.ref s2), .val (.ref arr), .val (.ref b), .val (.int (own_b (((0 : Int32) + (1 : Int32)) < (3 : Int32)))), .val (.int (own_b (((0 : Int32) + (1 : Int32)) < (3 : Int32))))] [(.int (1 : Int32)), (.int (own_b (((0 : Int32) + (1 : Int32)) < (3 : Int32))))])
      refine own_st (fun _ k => XS.goto X161.here hx rfl (pc0 := 311) (pc' := 315) rfl (hb hby at_311) (by decide) (by decide) k) ?_
      show own_Go p e s below _ _ _ T161 (mkF m 315 #[.val (.int p0), .val (.int p1), .val (.int p2), .val (.int p3), .val (.int p4), .val (.int (3 : Int32)), .val (.int (1 : Int32)), .val (.ref s0), .val (.ref s1), .val (.ref s2), .val (.ref arr), .val (.ref b), .val (.int (own_b (((0 : Int32) + (1 : Int32)) < (3 : Int32)))), .val (.int (own_b (((0 : Int32) + (1 : Int32)) < (3 : Int32))))] [(.int (1 : Int32)), (.int (own_b (((0 : Int32) + (1 : Int32)) < (3 : Int32))))])
      refine own_st (fun _ k => XS.icmpNo X161.here hx rfl (hb hby at_315) rfl (teq (own_bt (by decide))).2 k) ?_
      show own_Go p e s below _ _ _ T161 (mkF m 318 #[.val (.int p0), .val (.int p1), .val (.int p2), .val (.int p3), .val (.int p4), .val (.int (3 : Int32)), .val (.int (1 : Int32)), .val (.ref s0), .val (.ref s1), .val (.ref s2), .val (.ref arr), .val (.ref b), .val (.int (own_b (((0 : Int32) + (1 : Int32)) < (3 : Int32)))), .val (.int (own_b (((0 : Int32) + (1 : Int32)) < (3 : Int32))))] [])
      refine own_st (fun _ k => XS.iload X161.here hx rfl (hb hby at_318) rfl k) ?_
      show own_Go p e s below _ _ _ T161 (mkF m 320 #[.val (.int p0), .val (.int p1), .val (.int p2), .val (.int p3), .val (.int p4), .val (.int (3 : Int32)), .val (.int (1 : Int32)), .val (.ref s0), .val (.ref s1), .val (.ref s2), .val (.ref arr), .val (.ref b), .val (.int (own_b (((0 : Int32) + (1 : Int32)) < (3 : Int32)))), .val (.int (own_b (((0 : Int32) + (1 : Int32)) < (3 : Int32))))] [(.int (own_b (((0 : Int32) + (1 : Int32)) < (3 : Int32))))])
      refine own_st (fun _ k => XS.iload X161.here hx rfl (hb hby at_320) rfl k) ?_
      show own_Go p e s below _ _ _ T161 (mkF m 322 #[.val (.int p0), .val (.int p1), .val (.int p2), .val (.int p3), .val (.int p4), .val (.int (3 : Int32)), .val (.int (1 : Int32)), .val (.ref s0), .val (.ref s1), .val (.ref s2), .val (.ref arr), .val (.ref b), .val (.int (own_b (((0 : Int32) + (1 : Int32)) < (3 : Int32)))), .val (.int (own_b (((0 : Int32) + (1 : Int32)) < (3 : Int32))))] [(.int (own_b (((0 : Int32) + (1 : Int32)) < (3 : Int32)))), (.int (own_b (((0 : Int32) + (1 : Int32)) < (3 : Int32))))])
      refine own_st (fun _ k => XS.icmpNo X161.here hx rfl (hb hby at_322) rfl (teq rfl).2 k) ?_
      show own_Go p e s below _ _ _ T161 (mkF m 325 #[.val (.int p0), .val (.int p1), .val (.int p2), .val (.int p3), .val (.int p4), .val (.int (3 : Int32)), .val (.int (1 : Int32)), .val (.ref s0), .val (.ref s1), .val (.ref s2), .val (.ref arr), .val (.ref b), .val (.int (own_b (((0 : Int32) + (1 : Int32)) < (3 : Int32)))), .val (.int (own_b (((0 : Int32) + (1 : Int32)) < (3 : Int32))))] [])
      refine own_st (fun _ k => XS.iconst X161.here hx rfl (hb hby at_325) k) ?_
      show own_Go p e s below _ _ _ T161 (mkF m 326 #[.val (.int p0), .val (.int p1), .val (.int p2), .val (.int p3), .val (.int p4), .val (.int (3 : Int32)), .val (.int (1 : Int32)), .val (.ref s0), .val (.ref s1), .val (.ref s2), .val (.ref arr), .val (.ref b), .val (.int (own_b (((0 : Int32) + (1 : Int32)) < (3 : Int32)))), .val (.int (own_b (((0 : Int32) + (1 : Int32)) < (3 : Int32))))] [(.int (1 : Int32))])
      refine own_st (fun _ k => XS.goto X161.here hx rfl (pc0 := 326) (pc' := 330) rfl (hb hby at_326) (by decide) (by decide) k) ?_
      show own_Go p e s below _ _ _ T161 (mkF m 330 #[.val (.int p0), .val (.int p1), .val (.int p2), .val (.int p3), .val (.int p4), .val (.int (3 : Int32)), .val (.int (1 : Int32)), .val (.ref s0), .val (.ref s1), .val (.ref s2), .val (.ref arr), .val (.ref b), .val (.int (own_b (((0 : Int32) + (1 : Int32)) < (3 : Int32)))), .val (.int (own_b (((0 : Int32) + (1 : Int32)) < (3 : Int32))))] [(.int (1 : Int32))])
      exact own_retN X161 hx hlk (t := .boolean) hret (by simp) (hb hby at_330) (z' := (1 : Int32)) rfl (by decide) (by decide) ⟨rfl, N161⟩
    refine own_st (fun _ k => XS.icmpNo X159.here hx rfl (hb hby at_206) rfl (flt (by rcases hk with rfl | rfl <;> decide)).1 k) ?_
    show own_Go p e s below _ _ _ T159 (mkF m 209 #[.val (.int p0), .val (.int p1), .val (.int p2), .val (.int p3), .val (.int p4), .val (.int (3 : Int32)), .val (.int kk), .val (.ref s0), .val (.ref s1), .val (.ref s2), .val (.ref arr), .val (.ref b), .unset, .unset] [])
    refine own_st (fun _ k => XS.aload X159.here hx rfl (hb hby at_209) rfl rfl k) ?_
    show own_Go p e s below _ _ _ T159 (mkF m 211 #[.val (.int p0), .val (.int p1), .val (.int p2), .val (.int p3), .val (.int p4), .val (.int (3 : Int32)), .val (.int kk), .val (.ref s0), .val (.ref s1), .val (.ref s2), .val (.ref arr), .val (.ref b), .unset, .unset] [(.ref s1)])
    refine own_st (fun _ k => XS.aload X159.here hx rfl (hb hby at_211) rfl rfl k) ?_
    show own_Go p e s below _ _ _ T159 (mkF m 213 #[.val (.int p0), .val (.int p1), .val (.int p2), .val (.int p3), .val (.int p4), .val (.int (3 : Int32)), .val (.int kk), .val (.ref s0), .val (.ref s1), .val (.ref s2), .val (.ref arr), .val (.ref b), .unset, .unset] [(.ref b), (.ref s1)])
    refine own_callV X159 hx hZ (y := (⟨"com/example/chronotope/chronotope/Arguments", "next", "()Ljava/lang/String;"⟩ : MethodName)) hown (hw _ (List.mem_of_getElem? (i := 53) rfl)) (hw _ (List.mem_of_getElem? (i := 54) rfl)) (hw _ (List.mem_of_getElem? (i := 56) rfl)) (hw _ (List.mem_of_getElem? (i := 55) rfl)) (hw _ (List.mem_of_getElem? (i := 30) rfl)) (hw _ (List.mem_of_getElem? (i := 57) rfl)) (by decide) e159 (rm8 l Z a0 hw [] b dd ((0 : Int32) + (1 : Int32)) (3 : Int32) k141 [(.ref s0), (.ref s1), (.ref s2)] s1 T156.heap n0 Z157 F_args_b F_next_b V_dd E_b ne_dd_b g_b ⟨by decide, by decide⟩ rfl) 1 (by decide) (by decide) E_b (g := (mkF m 213 #[.val (.int p0), .val (.int p1), .val (.int p2), .val (.int p3), .val (.int p4), .val (.int (3 : Int32)), .val (.int kk), .val (.ref s0), .val (.ref s1), .val (.ref s2), .val (.ref arr), .val (.ref b), .unset, .unset] [(.ref b), (.ref s1)])) rfl (by rw [hml]; rfl) (argsL := []) (rest := [(.ref s1)]) pd6 rfl rfl rfl (by show 2 * 0 + _ ≤ _; exact Nat.le_of_eq rfl) (hb hby at_213) (by decide) (by decide) ?_
    intro T162 v162 L162 X162 hQ162
    obtain ⟨rfl, N162q, K162q, y162_0, y162_1, y162_2, y162_3⟩ := hQ162
    have N162 := Fr.app N159 N162q
    replace E_s0 := E_s0.keep K162q
    replace E_s1 := E_s1.keep K162q
    replace E_s2 := E_s2.keep K162q
    replace E_b := E_b.keep K162q
    replace V_dd := V_dd.keep K162q (ninS ne_dd_b nin0)
    clear F_args_b
    clear F_next_b
    have Z163 := Nat.le_trans Z157 K162q.1
    have E_b := y162_0
    have F_args_b := y162_1
    have F_next_b := y162_2
    have V_dd := y162_3
    show own_Go p e s below _ _ _ T162 (mkF m 216 #[.val (.int p0), .val (.int p1), .val (.int p2), .val (.int p3), .val (.int p4), .val (.int (3 : Int32)), .val (.int kk), .val (.ref s0), .val (.ref s1), .val (.ref s2), .val (.ref arr), .val (.ref b), .unset, .unset] [(.ref s1), (.ref s1)])
    refine own_callV X162 hx hZ (y := (⟨"java/lang/String", "equals", "(Ljava/lang/Object;)Z"⟩ : MethodName)) hown (hw _ (List.mem_of_getElem? (i := 59) rfl)) (hw _ (List.mem_of_getElem? (i := 60) rfl)) (hw _ (List.mem_of_getElem? (i := 62) rfl)) (hw _ (List.mem_of_getElem? (i := 61) rfl)) (hw _ (List.mem_of_getElem? (i := 2) rfl)) (hw _ (List.mem_of_getElem? (i := 63) rfl)) (by decide) rfl (rm9 l Z a0 hw [] s1 T162.heap n0 Z163) 0 (by decide) (by decide) E_s1 (g := (mkF m 216 #[.val (.int p0), .val (.int p1), .val (.int p2), .val (.int p3), .val (.int p4), .val (.int (3 : Int32)), .val (.int kk), .val (.ref s0), .val (.ref s1), .val (.ref s2), .val (.ref arr), .val (.ref b), .unset, .unset] [(.ref s1), (.ref s1)])) rfl (by rw [hml]; rfl) (argsL := [(.ref s1)]) (rest := []) pd7 rfl rfl rfl (by show 2 * 0 + _ ≤ _; exact Nat.le_of_eq rfl) (hb hby at_216) (by decide) (by decide) ?_
    intro T164 v164 L164 X164 hQ164
    obtain ⟨rfl, N164q, e164⟩ := hQ164
    have N164 := Fr.app N162 N164q
    show own_Go p e s below _ _ _ T164 (mkF m 219 #[.val (.int p0), .val (.int p1), .val (.int p2), .val (.int p3), .val (.int p4), .val (.int (3 : Int32)), .val (.int kk), .val (.ref s0), .val (.ref s1), .val (.ref s2), .val (.ref arr), .val (.ref b), .unset, .unset] [(.int (1 : Int32))])
    refine own_st (fun _ k => XS.ifYes X164.here hx rfl (pc0 := 219) (pc' := 224) rfl (hb hby at_219) rfl (by decide) (by decide) (by decide) k) ?_
    show own_Go p e s below _ _ _ T164 (mkF m 224 #[.val (.int p0), .val (.int p1), .val (.int p2), .val (.int p3), .val (.int p4), .val (.int (3 : Int32)), .val (.int kk), .val (.ref s0), .val (.ref s1), .val (.ref s2), .val (.ref arr), .val (.ref b), .unset, .unset] [])
    refine own_st (fun _ k => XS.aload X164.here hx rfl (hb hby at_224) rfl rfl k) ?_
    show own_Go p e s below _ _ _ T164 (mkF m 226 #[.val (.int p0), .val (.int p1), .val (.int p2), .val (.int p3), .val (.int p4), .val (.int (3 : Int32)), .val (.int kk), .val (.ref s0), .val (.ref s1), .val (.ref s2), .val (.ref arr), .val (.ref b), .unset, .unset] [(.ref b)])
    refine own_callV X164 hx hZ (y := (⟨"com/example/chronotope/chronotope/Arguments", "hasNext", "()Z"⟩ : MethodName)) hown (hw _ (List.mem_of_getElem? (i := 46) rfl)) (hw _ (List.mem_of_getElem? (i := 47) rfl)) (hw _ (List.mem_of_getElem? (i := 49) rfl)) (hw _ (List.mem_of_getElem? (i := 48) rfl)) (hw _ (List.mem_of_getElem? (i := 30) rfl)) (hw _ (List.mem_of_getElem? (i := 50) rfl)) (by decide) e164 (rm7 l Z a0 hw [] b dd (((0 : Int32) + (1 : Int32)) + (1 : Int32)) (3 : Int32) k141 [(.ref s0), (.ref s1), (.ref s2)] T162.heap n0 Z163 F_args_b F_next_b V_dd) 0 (by decide) (by decide) E_b (g := (mkF m 226 #[.val (.int p0), .val (.int p1), .val (.int p2), .val (.int p3), .val (.int p4), .val (.int (3 : Int32)), .val (.int kk), .val (.ref s0), .val (.ref s1), .val (.ref s2), .val (.ref arr), .val (.ref b), .unset, .unset] [(.ref b)])) rfl (by rw [hml]; rfl) (argsL := []) (rest := []) pd5 rfl rfl rfl (by show 2 * 0 + _ ≤ _; exact Nat.le_of_eq rfl) (hb hby at_226) (by decide) (by decide) ?_
    intro T165 v165 L165 X165 hQ165
    obtain ⟨rfl, N165q, e165⟩ := hQ165
    have N165 := Fr.app N164 N165q
    show own_Go p e s below _ _ _ T165 (mkF m 229 #[.val (.int p0), .val (.int p1), .val (.int p2), .val (.int p3), .val (.int p4), .val (.int (3 : Int32)), .val (.int kk), .val (.ref s0), .val (.ref s1), .val (.ref s2), .val (.ref arr), .val (.ref b), .unset, .unset] [(.int (own_b ((((0 : Int32) + (1 : Int32)) + (1 : Int32)) < (3 : Int32))))])
    refine own_st (fun _ k => XS.iconst X165.here hx rfl (hb hby at_229) k) ?_
    show own_Go p e s below _ _ _ T165 (mkF m 230 #[.val (.int p0), .val (.int p1), .val (.int p2), .val (.int p3), .val (.int p4), .val (.int (3 : Int32)), .val (.int kk), .val (.ref s0), .val (.ref s1), .val (.ref s2), .val (.ref arr), .val (.ref b), .unset, .unset] [(.int (2 : Int32)), (.int (own_b ((((0 : Int32) + (1 : Int32)) + (1 : Int32)) < (3 : Int32))))])
    refine own_st (fun _ k => XS.iload X165.here hx rfl (hb hby at_230) rfl k) ?_
    show own_Go p e s below _ _ _ T165 (mkF m 232 #[.val (.int p0), .val (.int p1), .val (.int p2), .val (.int p3), .val (.int p4), .val (.int (3 : Int32)), .val (.int kk), .val (.ref s0), .val (.ref s1), .val (.ref s2), .val (.ref arr), .val (.ref b), .unset, .unset] [(.int (3 : Int32)), (.int (2 : Int32)), (.int (own_b ((((0 : Int32) + (1 : Int32)) + (1 : Int32)) < (3 : Int32))))])
    refine own_st (fun _ k => XS.icmpNo X165.here hx rfl (hb hby at_232) rfl (by decide) k) ?_
    show own_Go p e s below _ _ _ T165 (mkF m 235 #[.val (.int p0), .val (.int p1), .val (.int p2), .val (.int p3), .val (.int p4), .val (.int (3 : Int32)), .val (.int kk), .val (.ref s0), .val (.ref s1), .val (.ref s2), .val (.ref arr), .val (.ref b), .unset, .unset] [(.int (own_b ((((0 : Int32) + (1 : Int32)) + (1 : Int32)) < (3 : Int32))))])
    refine own_st (fun _ k => XS.iconst X165.here hx rfl (hb hby at_235) k) ?_
    show own_Go p e s below _ _ _ T165 (mkF m 236 #[.val (.int p0), .val (.int p1), .val (.int p2), .val (.int p3), .val (.int p4), .val (.int (3 : Int32)), .val (.int kk), .val (.ref s0), .val (.ref s1), .val (.ref s2), .val (.ref arr), .val (.ref b), .unset, .unset] [(.int (1 : Int32)), (.int (own_b ((((0 : Int32) + (1 : Int32)) + (1 : Int32)) < (3 : Int32))))])
    refine own_st (fun _ k => XS.goto X165.here hx rfl (pc0 := 236) (pc' := 240) rfl (hb hby at_236) (by decide) (by decide) k) ?_
    show own_Go p e s below _ _ _ T165 (mkF m 240 #[.val (.int p0), .val (.int p1), .val (.int p2), .val (.int p3), .val (.int p4), .val (.int (3 : Int32)), .val (.int kk), .val (.ref s0), .val (.ref s1), .val (.ref s2), .val (.ref arr), .val (.ref b), .unset, .unset] [(.int (1 : Int32)), (.int (own_b ((((0 : Int32) + (1 : Int32)) + (1 : Int32)) < (3 : Int32))))])
    refine own_st (fun _ k => XS.icmpYes X165.here hx rfl (pc0 := 240) (pc' := 245) rfl (hb hby at_240) rfl (teq (own_bt (by decide))).1 (by decide) (by decide) k) ?_
    show own_Go p e s below _ _ _ T165 (mkF m 245 #[.val (.int p0), .val (.int p1), .val (.int p2), .val (.int p3), .val (.int p4), .val (.int (3 : Int32)), .val (.int kk), .val (.ref s0), .val (.ref s1), .val (.ref s2), .val (.ref arr), .val (.ref b), .unset, .unset] [])
    refine own_st (fun _ k => XS.iload X165.here hx rfl (hb hby at_245) rfl k) ?_
    show own_Go p e s below _ _ _ T165 (mkF m 247 #[.val (.int p0), .val (.int p1), .val (.int p2), .val (.int p3), .val (.int p4), .val (.int (3 : Int32)), .val (.int kk), .val (.ref s0), .val (.ref s1), .val (.ref s2), .val (.ref arr), .val (.ref b), .unset, .unset] [(.int kk)])
    refine own_st (fun _ k => XS.iconst X165.here hx rfl (hb hby at_247) k) ?_
    show own_Go p e s below _ _ _ T165 (mkF m 248 #[.val (.int p0), .val (.int p1), .val (.int p2), .val (.int p3), .val (.int p4), .val (.int (3 : Int32)), .val (.int kk), .val (.ref s0), .val (.ref s1), .val (.ref s2), .val (.ref arr), .val (.ref b), .unset, .unset] [(.int (3 : Int32)), (.int kk)])
    rcases hk with rfl | hk
    · show own_Go p e s below _ _ _ T165 (mkF m 248 #[.val (.int p0), .val (.int p1), .val (.int p2), .val (.int p3), .val (.int p4), .val (.int (3 : Int32)), .val (.int (2 : Int32)), .val (.ref s0), .val (.ref s1), .val (.ref s2), .val (.ref arr), .val (.ref b), .unset, .unset] [(.int (3 : Int32)), (.int (2 : Int32))])
      refine own_st (fun _ k => XS.icmpYes X165.here hx rfl (pc0 := 248) (pc' := 287) rfl (hb hby at_248) rfl (by decide) (by decide) (by decide) k) ?_
      show own_Go p e s below _ _ _ T165 (mkF m 287 #[.val (.int p0), .val (.int p1), .val (.int p2), .val (.int p3), .val (.int p4), .val (.int (3 : Int32)), .val (.int (2 : Int32)), .val (.ref s0), .val (.ref s1), .val (.ref s2), .val (.ref arr), .val (.ref b), .unset, .unset] [])
      refine own_st (fun _ k => XS.aload X165.here hx rfl (hb hby at_287) rfl rfl k) ?_
      show own_Go p e s below _ _ _ T165 (mkF m 289 #[.val (.int p0), .val (.int p1), .val (.int p2), .val (.int p3), .val (.int p4), .val (.int (3 : Int32)), .val (.int (2 : Int32)), .val (.ref s0), .val (.ref s1), .val (.ref s2), .val (.ref arr), .val (.ref b), .unset, .unset] [(.ref b)])
      refine own_callV X165 hx hZ (y := (⟨"com/example/chronotope/chronotope/Arguments", "hasNext", "()Z"⟩ : MethodName)) hown (hw _ (List.mem_of_getElem? (i := 46) rfl)) (hw _ (List.mem_of_getElem? (i := 47) rfl)) (hw _ (List.mem_of_getElem? (i := 49) rfl)) (hw _ (List.mem_of_getElem? (i := 48) rfl)) (hw _ (List.mem_of_getElem? (i := 30) rfl)) (hw _ (List.mem_of_getElem? (i := 50) rfl)) (by decide) e165 (rm7 l Z a0 hw [] b dd (((0 : Int32) + (1 : Int32)) + (1 : Int32)) (3 : Int32) k141 [(.ref s0), (.ref s1), (.ref s2)] T162.heap n0 Z163 F_args_b F_next_b V_dd) 0 (by decide) (by decide) E_b (g := (mkF m 289 #[.val (.int p0), .val (.int p1), .val (.int p2), .val (.int p3), .val (.int p4), .val (.int (3 : Int32)), .val (.int (2 : Int32)), .val (.ref s0), .val (.ref s1), .val (.ref s2), .val (.ref arr), .val (.ref b), .unset, .unset] [(.ref b)])) rfl (by rw [hml]; rfl) (argsL := []) (rest := []) pd5 rfl rfl rfl (by show 2 * 0 + _ ≤ _; exact Nat.le_of_eq rfl) (hb hby at_289) (by decide) (by decide) ?_
      intro T166 v166 L166 X166 hQ166
      obtain ⟨rfl, N166q, e166⟩ := hQ166
      have N166 := Fr.app N165 N166q
      show own_Go p e s below _ _ _ T166 (mkF m 292 #[.val (.int p0), .val (.int p1), .val (.int p2), .val (.int p3), .val (.int p4), .val (.int (3 : Int32)), .val (.int (2 : Int32)), .val (.ref s0), .val (.ref s1), .val (.ref s2), .val (.ref arr), .val (.ref b), .unset, .unset] [(.int (own_b ((((0 : Int32) + (1 : Int32)) + (1 : Int32)) < (3 : Int32))))])
      refine own_st (fun _ k => XS.istore X166.here hx rfl (hb hby at_292) rfl (l' := #[.val (.int p0), .val (.int p1), .val (.int p2), .val (.int p3), .val (.int p4), .val (.int (3 : Int32)), .val (.int (2 : Int32)), .val (.ref s0), .val (.ref s1), .val (.ref s2), .val (.ref arr), .val (.ref b), .val (.int (own_b ((((0 : Int32) + (1 : Int32)) + (1 : Int32)) < (3 : Int32)))), .unset]) rfl k) ?_
      show own_Go p e s below _ _ _ T166 (mkF m 294 #[.val (.int p0), .val (.int p1), .val (.int p2), .val (.int p3), .val (.int p4), .val (.int (3 : Int32)), .val (.int (2 : Int32)), .val (.ref s0), .val (.ref s1), .val (.ref s2), .val (.ref arr), .val (.ref b), .val (.int (own_b ((((0 : Int32) + (1 : Int32)) + (1 : Int32)) < (3 : Int32)))), .unset] [])
      refine own_st (fun _ k => XS.aload X166.here hx rfl (hb hby at_294) rfl rfl k) ?_
      show own_Go p e s below _ _ _ T166 (mkF m 296 #[.val (.int p0), .val (.int p1), .val (.int p2), .val (.int p3), .val (.int p4), .val (.int (3 : Int32)), .val (.int (2 : Int32)), .val (.ref s0), .val (.ref s1), .val (.ref s2), .val (.ref arr), .val (.ref b), .val (.int (own_b ((((0 : Int32) + (1 : Int32)) + (1 : Int32)) < (3 : Int32)))), .unset] [(.ref b)])
      refine own_callV X166 hx hZ (y := (⟨"com/example/chronotope/chronotope/Arguments", "hasNext", "()Z"⟩ : MethodName)) hown (hw _ (List.mem_of_getElem? (i := 46) rfl)) (hw _ (List.mem_of_getElem? (i := 47) rfl)) (hw _ (List.mem_of_getElem? (i := 49) rfl)) (hw _ (List.mem_of_getElem? (i := 48) rfl)) (hw _ (List.mem_of_getElem? (i := 30) rfl)) (hw _ (List.mem_of_getElem? (i := 50) rfl)) (by decide) e166 (rm7 l Z a0 hw [] b dd (((0 : Int32) + (1 : Int32)) + (1 : Int32)) (3 : Int32) k141 [(.ref s0), (.ref s1), (.ref s2)] T162.heap n0 Z163 F_args_b F_next_b V_dd) 0 (by decide) (by decide) E_b (g := (mkF m 296 #[.val (.int p0), .val (.int p1), .val (.int p2), .val (.int p3), .val (.int p4), .val (.int (3 : Int32)), .val (.int (2 : Int32)), .val (.ref s0), .val (.ref s1), .val (.ref s2), .val (.ref arr), .val (.ref b), .val (.int (own_b ((((0 : Int32) + (1 : Int32)) + (1 : Int32)) < (3 : Int32)))), .unset] [(.ref b)])) rfl (by rw [hml]; rfl) (argsL := []) (rest := []) pd5 rfl rfl rfl (by show 2 * 0 + _ ≤ _; exact Nat.le_of_eq rfl) (hb hby at_296) (by decide) (by decide) ?_
      intro T167 v167 L167 X167 hQ167
      obtain ⟨rfl, N167q, e167⟩ := hQ167
      have N167 := Fr.app N166 N167q
      show own_Go p e s below _ _ _ T167 (mkF m 299 #[.val (.int p0), .val (.int p1), .val (.int p2), .val (.int p3), .val (.int p4), .val (.int (3 : Int32)), .val (.int (2 : Int32)), .val (.ref s0), .val (.ref s1), .val (.ref s2), .val (.ref arr), .val (.ref b), .val (.int (own_b ((((0 : Int32) + (1 : Int32)) + (1 : Int32)) < (3 : Int32)))), .unset] [(.int (own_b ((((0 : Int32) + (1 : Int32)) + (1 : Int32)) < (3 : Int32))))])
      refine own_st (fun _ k => XS.istore X167.here hx rfl (hb hby at_299) rfl (l' := #[.val (.int p0), .val (.int p1), .val (.int p2), .val (.int p3), .val (.int p4), .val (.int (3 : Int32)), .val (.int (2 : Int32)), .val (.ref s0), .val (.ref s1), .val (.ref s2), .val (.ref arr), .val (.ref b), .val (.int (own_b ((((0 : Int32) + (1 : Int32)) + (1 : Int32)) < (3 : Int32)))), .val (.int (own_b ((((0 : Int32) + (1 : Int32)) + (1 : Int32)) < (3 : Int32))))]) rfl k) ?_
      show own_Go p e s below _ _ _ T167 (mkF m 301 #[.val (.int p0), .val (.int p1), .val (.int p2), .val (.int p3), .val (.int p4), .val (.int (3 : Int32)), .val (.int (2 : Int32)), .val (.ref s0), .val (.ref s1), .val (.ref s2), .val (.ref arr), .val (.ref b), .val (.int (own_b ((((0 : Int32) + (1 : Int32)) + (1 : Int32)) < (3 : Int32)))), .val (.int (own_b ((((0 : Int32) + (1 : Int32)) + (1 : Int32)) < (3 : Int32))))] [])
      refine own_st (fun _ k => XS.iload X167.here hx rfl (hb hby at_301) rfl k) ?_
      show own_Go p e s below _ _ _ T167 (mkF m 303 #[.val (.int p0), .val (.int p1), .val (.int p2), .val (.int p3), .val (.int p4), .val (.int (3 : Int32)), .val (.int (2 : Int32)), .val (.ref s0), .val (.ref s1), .val (.ref s2), .val (.ref arr), .val (.ref b), .val (.int (own_b ((((0 : Int32) + (1 : Int32)) + (1 : Int32)) < (3 : Int32)))), .val (.int (own_b ((((0 : Int32) + (1 : Int32)) + (1 : Int32)) < (3 : Int32))))] [(.int (own_b ((((0 : Int32) + (1 : Int32)) + (1 : Int32)) < (3 : Int32))))])
      refine own_st (fun _ k => XS.iload X167.here hx rfl (hb hby at_303) rfl k) ?_
      show own_Go p e s below _ _ _ T167 (mkF m 305 #[.val (.int p0), .val (.int p1), .val (.int p2), .val (.int p3), .val (.int p4), .val (.int (3 : Int32)), .val (.int (2 : Int32)), .val (.ref s0), .val (.ref s1), .val (.ref s2), .val (.ref arr), .val (.ref b), .val (.int (own_b ((((0 : Int32) + (1 : Int32)) + (1 : Int32)) < (3 : Int32)))), .val (.int (own_b ((((0 : Int32) + (1 : Int32)) + (1 : Int32)) < (3 : Int32))))] [(.int (2 : Int32)), (.int (own_b ((((0 : Int32) + (1 : Int32)) + (1 : Int32)) < (3 : Int32))))])
      refine own_st (fun _ k => XS.iload X167.here hx rfl (hb hby at_305) rfl k) ?_
      show own_Go p e s below _ _ _ T167 (mkF m 307 #[.val (.int p0), .val (.int p1), .val (.int p2), .val (.int p3), .val (.int p4), .val (.int (3 : Int32)), .val (.int (2 : Int32)), .val (.ref s0), .val (.ref s1), .val (.ref s2), .val (.ref arr), .val (.ref b), .val (.int (own_b ((((0 : Int32) + (1 : Int32)) + (1 : Int32)) < (3 : Int32)))), .val (.int (own_b ((((0 : Int32) + (1 : Int32)) + (1 : Int32)) < (3 : Int32))))] [(.int (3 : Int32)), (.int (2 : Int32)), (.int (own_b ((((0 : Int32) + (1 : Int32)) + (1 : Int32)) < (3 : Int32))))])
      refine own_st (fun _ k => XS.icmpNo X167.here hx rfl (hb hby at_307) rfl (by decide) k) ?_
      show own_Go p e s below _ _ _ T167 (mkF m 310 #[.val (.int p0), .val (.int p1), .val (.int p2), .val (.int p3), .val (.int p4), .val (.int (3 : Int32)), .val (.int (2 : Int32)), .val (.ref s0), .val (.ref s1), .val (.ref s2), .val (.ref arr), .val (.ref b), .val (.int (own_b ((((0 : Int32) + (1 : Int32)) + (1 : Int32)) < (3 : Int32)))), .val (.int (own_b ((((0 : Int32) + (1 : Int32)) + (1 : Int32)) < (3 : Int32))))] [(.int (own_b ((((0 : Int32) + (1 : Int32)) + (1 : Int32)) < (3 : Int32))))])
      refine own_st (fun _ k => XS.iconst X167.here hx rfl (hb hby at_310) k) ?_
      show own_Go p e s below _ _ _ T167 (mkF m 311 #[.val (.int p0), .val (.int p1), .val (.int p2), .val (.int p3), .val (.int p4), .val (.int (3 : Int32)), .val (.int (2 : Int32)), .val (.ref s0), .val (.ref s1), .val (.ref s2), .val (.ref arr), .val (.ref b), .val (.int (own_b ((((0 : Int32) + (1 : Int32)) + (1 : Int32)) < (3 : Int32)))), .val (.int (own_b ((((0 : Int32) + (1 : Int32)) + (1 : Int32)) < (3 : Int32))))] [(.int (1 : Int32)), (.int (own_b ((((0 : Int32) + (1 : Int32)) + (1 : Int32)) < (3 : Int32))))])
      refine own_st (fun _ k => XS.goto X167.here hx rfl (pc0 := 311) (pc' := 315) rfl (hb hby at_311) (by decide) (by decide) k) ?_
      show own_Go p e s below _ _ _ T167 (mkF m 315 #[.val (.int p0), .val (.int p1), .val (.int p2), .val (.int p3), .val (.int p4), .val (.int (3 : Int32)), .val (.int (2 : Int32)), .val (.ref s0), .val (.ref s1), .val (.ref s2), .val (.ref arr), .val (.ref b), .val (.int (own_b ((((0 : Int32) + (1 : Int32)) + (1 : Int32)) < (3 : Int32)))), .val (.int (own_b ((((0 : Int32) + (1 : Int32)) + (1 : Int32)) < (3 : Int32))))] [(.int (1 : Int32)), (.int (own_b ((((0 : Int32) + (1 : Int32)) + (1 : Int32)) < (3 : Int32))))])
      refine own_st (fun _ k => XS.icmpNo X167.here hx rfl (hb hby at_315) rfl (teq (own_bt (by decide))).2 k) ?_
      show own_Go p e s below _ _ _ T167 (mkF m 318 #[.val (.int p0), .val (.int p1), .val (.int p2), .val (.int p3), .val (.int p4), .val (.int (3 : Int32)), .val (.int (2 : Int32)), .val (.ref s0), .val (.ref s1), .val (.ref s2), .val (.ref arr), .val (.ref b), .val (.int (own_b ((((0 : Int32) + (1 : Int32)) + (1 : Int32)) < (3 : Int32)))), .val (.int (own_b ((((0 : Int32) + (1 : Int32)) + (1 : Int32)) < (3 : Int32))))] [])
      refine own_st (fun _ k => XS.iload X167.here hx rfl (hb hby at_318) rfl k) ?_
      show own_Go p e s below _ _ _ T167 (mkF m 320 #[.val (.int p0), .val (.int p1), .val (.int p2), .val (.int p3), .val (.int p4), .val (.int (3 : Int32)), .val (.int (2 : Int32)), .val (.ref s0), .val (.ref s1), .val (.ref s2), .val (.ref arr), .val (.ref b), .val (.int (own_b ((((0 : Int32) + (1 : Int32)) + (1 : Int32)) < (3 : Int32)))), .val (.int (own_b ((((0 : Int32) + (1 : Int32)) + (1 : Int32)) < (3 : Int32))))] [(.int (own_b ((((0 : Int32) + (1 : Int32)) + (1 : Int32)) < (3 : Int32))))])
      refine own_st (fun _ k => XS.iload X167.here hx rfl (hb hby at_320) rfl k) ?_
      show own_Go p e s below _ _ _ T167 (mkF m 322 #[.val (.int p0), .val (.int p1), .val (.int p2), .val (.int p3), .val (.int p4), .val (.int (3 : Int32)), .val (.int (2 : Int32)), .val (.ref s0), .val (.ref s1), .val (.ref s2), .val (.ref arr), .val (.ref b), .val (.int (own_b ((((0 : Int32) + (1 : Int32)) + (1 : Int32)) < (3 : Int32)))), .val (.int (own_b ((((0 : Int32) + (1 : Int32)) + (1 : Int32)) < (3 : Int32))))] [(.int (own_b ((((0 : Int32) + (1 : Int32)) + (1 : Int32)) < (3 : Int32)))), (.int (own_b ((((0 : Int32) + (1 : Int32)) + (1 : Int32)) < (3 : Int32))))])
      refine own_st (fun _ k => XS.icmpNo X167.here hx rfl (hb hby at_322) rfl (teq rfl).2 k) ?_
      show own_Go p e s below _ _ _ T167 (mkF m 325 #[.val (.int p0), .val (.int p1), .val (.int p2), .val (.int p3), .val (.int p4), .val (.int (3 : Int32)), .val (.int (2 : Int32)), .val (.ref s0), .val (.ref s1), .val (.ref s2), .val (.ref arr), .val (.ref b), .val (.int (own_b ((((0 : Int32) + (1 : Int32)) + (1 : Int32)) < (3 : Int32)))), .val (.int (own_b ((((0 : Int32) + (1 : Int32)) + (1 : Int32)) < (3 : Int32))))] [])
      refine own_st (fun _ k => XS.iconst X167.here hx rfl (hb hby at_325) k) ?_
      show own_Go p e s below _ _ _ T167 (mkF m 326 #[.val (.int p0), .val (.int p1), .val (.int p2), .val (.int p3), .val (.int p4), .val (.int (3 : Int32)), .val (.int (2 : Int32)), .val (.ref s0), .val (.ref s1), .val (.ref s2), .val (.ref arr), .val (.ref b), .val (.int (own_b ((((0 : Int32) + (1 : Int32)) + (1 : Int32)) < (3 : Int32)))), .val (.int (own_b ((((0 : Int32) + (1 : Int32)) + (1 : Int32)) < (3 : Int32))))] [(.int (1 : Int32))])
      refine own_st (fun _ k => XS.goto X167.here hx rfl (pc0 := 326) (pc' := 330) rfl (hb hby at_326) (by decide) (by decide) k) ?_
      show own_Go p e s below _ _ _ T167 (mkF m 330 #[.val (.int p0), .val (.int p1), .val (.int p2), .val (.int p3), .val (.int p4), .val (.int (3 : Int32)), .val (.int (2 : Int32)), .val (.ref s0), .val (.ref s1), .val (.ref s2), .val (.ref arr), .val (.ref b), .val (.int (own_b ((((0 : Int32) + (1 : Int32)) + (1 : Int32)) < (3 : Int32)))), .val (.int (own_b ((((0 : Int32) + (1 : Int32)) + (1 : Int32)) < (3 : Int32))))] [(.int (1 : Int32))])
      exact own_retN X167 hx hlk (t := .boolean) hret (by simp) (hb hby at_330) (z' := (1 : Int32)) rfl (by decide) (by decide) ⟨rfl, N167⟩
    refine own_st (fun _ k => XS.icmpNo X165.here hx rfl (hb hby at_248) rfl (flt (by subst hk; decide)).1 k) ?_
    show own_Go p e s below _ _ _ T165 (mkF m 251 #[.val (.int p0), .val (.int p1), .val (.int p2), .val (.int p3), .val (.int p4), .val (.int (3 : Int32)), .val (.int kk), .val (.ref s0), .val (.ref s1), .val (.ref s2), .val (.ref arr), .val (.ref b), .unset, .unset] [])
    obtain rfl : kk = 3 := hk
    show own_Go p e s below _ _ _ T165 (mkF m 251 #[.val (.int p0), .val (.int p1), .val (.int p2), .val (.int p3), .val (.int p4), .val (.int (3 : Int32)), .val (.int (3 : Int32)), .val (.ref s0), .val (.ref s1), .val (.ref s2), .val (.ref arr), .val (.ref b), .unset, .unset] [])
    refine own_st (fun _ k => XS.aload X165.here hx rfl (hb hby at_251) rfl rfl k) ?_
    show own_Go p e s below _ _ _ T165 (mkF m 253 #[.val (.int p0), .val (.int p1), .val (.int p2), .val (.int p3), .val (.int p4), .val (.int (3 : Int32)), .val (.int (3 : Int32)), .val (.ref s0), .val (.ref s1), .val (.ref s2), .val (.ref arr), .val (.ref b), .unset, .unset] [(.ref s2)])
    refine own_st (fun _ k => XS.aload X165.here hx rfl (hb hby at_253) rfl rfl k) ?_
    show own_Go p e s below _ _ _ T165 (mkF m 255 #[.val (.int p0), .val (.int p1), .val (.int p2), .val (.int p3), .val (.int p4), .val (.int (3 : Int32)), .val (.int (3 : Int32)), .val (.ref s0), .val (.ref s1), .val (.ref s2), .val (.ref arr), .val (.ref b), .unset, .unset] [(.ref b), (.ref s2)])
    refine own_callV X165 hx hZ (y := (⟨"com/example/chronotope/chronotope/Arguments", "next", "()Ljava/lang/String;"⟩ : MethodName)) hown (hw _ (List.mem_of_getElem? (i := 53) rfl)) (hw _ (List.mem_of_getElem? (i := 54) rfl)) (hw _ (List.mem_of_getElem? (i := 56) rfl)) (hw _ (List.mem_of_getElem? (i := 55) rfl)) (hw _ (List.mem_of_getElem? (i := 30) rfl)) (hw _ (List.mem_of_getElem? (i := 57) rfl)) (by decide) e165 (rm8 l Z a0 hw [] b dd (((0 : Int32) + (1 : Int32)) + (1 : Int32)) (3 : Int32) k141 [(.ref s0), (.ref s1), (.ref s2)] s2 T162.heap n0 Z163 F_args_b F_next_b V_dd E_b ne_dd_b g_b ⟨by decide, by decide⟩ rfl) 1 (by decide) (by decide) E_b (g := (mkF m 255 #[.val (.int p0), .val (.int p1), .val (.int p2), .val (.int p3), .val (.int p4), .val (.int (3 : Int32)), .val (.int (3 : Int32)), .val (.ref s0), .val (.ref s1), .val (.ref s2), .val (.ref arr), .val (.ref b), .unset, .unset] [(.ref b), (.ref s2)])) rfl (by rw [hml]; rfl) (argsL := []) (rest := [(.ref s2)]) pd6 rfl rfl rfl (by show 2 * 0 + _ ≤ _; exact Nat.le_of_eq rfl) (hb hby at_255) (by decide) (by decide) ?_
    intro T168 v168 L168 X168 hQ168
    obtain ⟨rfl, N168q, K168q, y168_0, y168_1, y168_2, y168_3⟩ := hQ168
    have N168 := Fr.app N165 N168q
    replace E_s0 := E_s0.keep K168q
    replace E_s1 := E_s1.keep K168q
    replace E_s2 := E_s2.keep K168q
    replace E_b := E_b.keep K168q
    replace V_dd := V_dd.keep K168q (ninS ne_dd_b nin0)
    clear F_args_b
    clear F_next_b
    have Z169 := Nat.le_trans Z163 K168q.1
    have E_b := y168_0
    have F_args_b := y168_1
    have F_next_b := y168_2
    have V_dd := y168_3
    show own_Go p e s below _ _ _ T168 (mkF m 258 #[.val (.int p0), .val (.int p1), .val (.int p2), .val (.int p3), .val (.int p4), .val (.int (3 : Int32)), .val (.int (3 : Int32)), .val (.ref s0), .val (.ref s1), .val (.ref s2), .val (.ref arr), .val (.ref b), .unset, .unset] [(.ref s2), (.ref s2)])
    refine own_callV X168 hx hZ (y := (⟨"java/lang/String", "equals", "(Ljava/lang/Object;)Z"⟩ : MethodName)) hown (hw _ (List.mem_of_getElem? (i := 59) rfl)) (hw _ (List.mem_of_getElem? (i := 60) rfl)) (hw _ (List.mem_of_getElem? (i := 62) rfl)) (hw _ (List.mem_of_getElem? (i := 61) rfl)) (hw _ (List.mem_of_getElem? (i := 2) rfl)) (hw _ (List.mem_of_getElem? (i := 63) rfl)) (by decide) rfl (rm9 l Z a0 hw [] s2 T168.heap n0 Z169) 0 (by decide) (by decide) E_s2 (g := (mkF m 258 #[.val (.int p0), .val (.int p1), .val (.int p2), .val (.int p3), .val (.int p4), .val (.int (3 : Int32)), .val (.int (3 : Int32)), .val (.ref s0), .val (.ref s1), .val (.ref s2), .val (.ref arr), .val (.ref b), .unset, .unset] [(.ref s2), (.ref s2)])) rfl (by rw [hml]; rfl) (argsL := [(.ref s2)]) (rest := []) pd7 rfl rfl rfl (by show 2 * 0 + _ ≤ _; exact Nat.le_of_eq rfl) (hb hby at_258) (by decide) (by decide) ?_
    intro T170 v170 L170 X170 hQ170
    obtain ⟨rfl, N170q, e170⟩ := hQ170
    have N170 := Fr.app N168 N170q
    show own_Go p e s below _ _ _ T170 (mkF m 261 #[.val (.int p0), .val (.int p1), .val (.int p2), .val (.int p3), .val (.int p4), .val (.int (3 : Int32)), .val (.int (3 : Int32)), .val (.ref s0), .val (.ref s1), .val (.ref s2), .val (.ref arr), .val (.ref b), .unset, .unset] [(.int (1 : Int32))])
    refine own_st (fun _ k => XS.ifYes X170.here hx rfl (pc0 := 261) (pc' := 266) rfl (hb hby at_261) rfl (by decide) (by decide) (by decide) k) ?_
    show own_Go p e s below _ _ _ T170 (mkF m 266 #[.val (.int p0), .val (.int p1), .val (.int p2), .val (.int p3), .val (.int p4), .val (.int (3 : Int32)), .val (.int (3 : Int32)), .val (.ref s0), .val (.ref s1), .val (.ref s2), .val (.ref arr), .val (.ref b), .unset, .unset] [])
    refine own_st (fun _ k => XS.aload X170.here hx rfl (hb hby at_266) rfl rfl k) ?_
    show own_Go p e s below _ _ _ T170 (mkF m 268 #[.val (.int p0), .val (.int p1), .val (.int p2), .val (.int p3), .val (.int p4), .val (.int (3 : Int32)), .val (.int (3 : Int32)), .val (.ref s0), .val (.ref s1), .val (.ref s2), .val (.ref arr), .val (.ref b), .unset, .unset] [(.ref b)])
    refine own_callV X170 hx hZ (y := (⟨"com/example/chronotope/chronotope/Arguments", "hasNext", "()Z"⟩ : MethodName)) hown (hw _ (List.mem_of_getElem? (i := 46) rfl)) (hw _ (List.mem_of_getElem? (i := 47) rfl)) (hw _ (List.mem_of_getElem? (i := 49) rfl)) (hw _ (List.mem_of_getElem? (i := 48) rfl)) (hw _ (List.mem_of_getElem? (i := 30) rfl)) (hw _ (List.mem_of_getElem? (i := 50) rfl)) (by decide) e170 (rm7 l Z a0 hw [] b dd ((((0 : Int32) + (1 : Int32)) + (1 : Int32)) + (1 : Int32)) (3 : Int32) k141 [(.ref s0), (.ref s1), (.ref s2)] T168.heap n0 Z169 F_args_b F_next_b V_dd) 0 (by decide) (by decide) E_b (g := (mkF m 268 #[.val (.int p0), .val (.int p1), .val (.int p2), .val (.int p3), .val (.int p4), .val (.int (3 : Int32)), .val (.int (3 : Int32)), .val (.ref s0), .val (.ref s1), .val (.ref s2), .val (.ref arr), .val (.ref b), .unset, .unset] [(.ref b)])) rfl (by rw [hml]; rfl) (argsL := []) (rest := []) pd5 rfl rfl rfl (by show 2 * 0 + _ ≤ _; exact Nat.le_of_eq rfl) (hb hby at_268) (by decide) (by decide) ?_
    intro T171 v171 L171 X171 hQ171
    obtain ⟨rfl, N171q, e171⟩ := hQ171
    have N171 := Fr.app N170 N171q
    show own_Go p e s below _ _ _ T171 (mkF m 271 #[.val (.int p0), .val (.int p1), .val (.int p2), .val (.int p3), .val (.int p4), .val (.int (3 : Int32)), .val (.int (3 : Int32)), .val (.ref s0), .val (.ref s1), .val (.ref s2), .val (.ref arr), .val (.ref b), .unset, .unset] [(.int (own_b (((((0 : Int32) + (1 : Int32)) + (1 : Int32)) + (1 : Int32)) < (3 : Int32))))])
    refine own_st (fun _ k => XS.iconst X171.here hx rfl (hb hby at_271) k) ?_
    show own_Go p e s below _ _ _ T171 (mkF m 272 #[.val (.int p0), .val (.int p1), .val (.int p2), .val (.int p3), .val (.int p4), .val (.int (3 : Int32)), .val (.int (3 : Int32)), .val (.ref s0), .val (.ref s1), .val (.ref s2), .val (.ref arr), .val (.ref b), .unset, .unset] [(.int (3 : Int32)), (.int (own_b (((((0 : Int32) + (1 : Int32)) + (1 : Int32)) + (1 : Int32)) < (3 : Int32))))])
    refine own_st (fun _ k => XS.iload X171.here hx rfl (hb hby at_272) rfl k) ?_
    show own_Go p e s below _ _ _ T171 (mkF m 274 #[.val (.int p0), .val (.int p1), .val (.int p2), .val (.int p3), .val (.int p4), .val (.int (3 : Int32)), .val (.int (3 : Int32)), .val (.ref s0), .val (.ref s1), .val (.ref s2), .val (.ref arr), .val (.ref b), .unset, .unset] [(.int (3 : Int32)), (.int (3 : Int32)), (.int (own_b (((((0 : Int32) + (1 : Int32)) + (1 : Int32)) + (1 : Int32)) < (3 : Int32))))])
    refine own_st (fun _ k => XS.icmpYes X171.here hx rfl (pc0 := 274) (pc' := 281) rfl (hb hby at_274) rfl (by decide) (by decide) (by decide) k) ?_
    show own_Go p e s below _ _ _ T171 (mkF m 281 #[.val (.int p0), .val (.int p1), .val (.int p2), .val (.int p3), .val (.int p4), .val (.int (3 : Int32)), .val (.int (3 : Int32)), .val (.ref s0), .val (.ref s1), .val (.ref s2), .val (.ref arr), .val (.ref b), .unset, .unset] [(.int (own_b (((((0 : Int32) + (1 : Int32)) + (1 : Int32)) + (1 : Int32)) < (3 : Int32))))])
    refine own_st (fun _ k => XS.iconst X171.here hx rfl (hb hby at_281) k) ?_
    show own_Go p e s below _ _ _ T171 (mkF m 282 #[.val (.int p0), .val (.int p1), .val (.int p2), .val (.int p3), .val (.int p4), .val (.int (3 : Int32)), .val (.int (3 : Int32)), .val (.ref s0), .val (.ref s1), .val (.ref s2), .val (.ref arr), .val (.ref b), .unset, .unset] [(.int (0 : Int32)), (.int (own_b (((((0 : Int32) + (1 : Int32)) + (1 : Int32)) + (1 : Int32)) < (3 : Int32))))])
    refine own_st (fun _ k => XS.icmpYes X171.here hx rfl (pc0 := 282) (pc' := 287) rfl (hb hby at_282) rfl (teq (own_bf (by decide))).1 (by decide) (by decide) k) ?_
    show own_Go p e s below _ _ _ T171 (mkF m 287 #[.val (.int p0), .val (.int p1), .val (.int p2), .val (.int p3), .val (.int p4), .val (.int (3 : Int32)), .val (.int (3 : Int32)), .val (.ref s0), .val (.ref s1), .val (.ref s2), .val (.ref arr), .val (.ref b), .unset, .unset] [])
    refine own_st (fun _ k => XS.aload X171.here hx rfl (hb hby at_287) rfl rfl k) ?_
    show own_Go p e s below _ _ _ T171 (mkF m 289 #[.val (.int p0), .val (.int p1), .val (.int p2), .val (.int p3), .val (.int p4), .val (.int (3 : Int32)), .val (.int (3 : Int32)), .val (.ref s0), .val (.ref s1), .val (.ref s2), .val (.ref arr), .val (.ref b), .unset, .unset] [(.ref b)])
    refine own_callV X171 hx hZ (y := (⟨"com/example/chronotope/chronotope/Arguments", "hasNext", "()Z"⟩ : MethodName)) hown (hw _ (List.mem_of_getElem? (i := 46) rfl)) (hw _ (List.mem_of_getElem? (i := 47) rfl)) (hw _ (List.mem_of_getElem? (i := 49) rfl)) (hw _ (List.mem_of_getElem? (i := 48) rfl)) (hw _ (List.mem_of_getElem? (i := 30) rfl)) (hw _ (List.mem_of_getElem? (i := 50) rfl)) (by decide) e171 (rm7 l Z a0 hw [] b dd ((((0 : Int32) + (1 : Int32)) + (1 : Int32)) + (1 : Int32)) (3 : Int32) k141 [(.ref s0), (.ref s1), (.ref s2)] T168.heap n0 Z169 F_args_b F_next_b V_dd) 0 (by decide) (by decide) E_b (g := (mkF m 289 #[.val (.int p0), .val (.int p1), .val (.int p2), .val (.int p3), .val (.int p4), .val (.int (3 : Int32)), .val (.int (3 : Int32)), .val (.ref s0), .val (.ref s1), .val (.ref s2), .val (.ref arr), .val (.ref b), .unset, .unset] [(.ref b)])) rfl (by rw [hml]; rfl) (argsL := []) (rest := []) pd5 rfl rfl rfl (by show 2 * 0 + _ ≤ _; exact Nat.le_of_eq rfl) (hb hby at_289) (by decide) (by decide) ?_
    intro T172 v172 L172 X172 hQ172
    obtain ⟨rfl, N172q, e172⟩ := hQ172
    have N172 := Fr.app N171 N172q
    show own_Go p e s below _ _ _ T172 (mkF m 292 #[.val (.int p0), .val (.int p1), .val (.int p2), .val (.int p3), .val (.int p4), .val (.int (3 : Int32)), .val (.int (3 : Int32)), .val (.ref s0), .val (.ref s1), .val (.ref s2), .val (.ref arr), .val (.ref b), .unset, .unset] [(.int (own_b (((((0 : Int32) + (1 : Int32)) + (1 : Int32)) + (1 : Int32)) < (3 : Int32))))])
    refine own_st (fun _ k => XS.istore X172.here hx rfl (hb hby at_292) rfl (l' := #[.val (.int p0), .val (.int p1), .val (.int p2), .val (.int p3), .val (.int p4), .val (.int (3 : Int32)), .val (.int (3 : Int32)), .val (.ref s0), .val (.ref s1), .val (.ref s2), .val (.ref arr), .val (.ref b), .val (.int (own_b (((((0 : Int32) + (1 : Int32)) + (1 : Int32)) + (1 : Int32)) < (3 : Int32)))), .unset]) rfl k) ?_
    show own_Go p e s below _ _ _ T172 (mkF m 294 #[.val (.int p0), .val (.int p1), .val (.int p2), .val (.int p3), .val (.int p4), .val (.int (3 : Int32)), .val (.int (3 : Int32)), .val (.ref s0), .val (.ref s1), .val (.ref s2), .val (.ref arr), .val (.ref b), .val (.int (own_b (((((0 : Int32) + (1 : Int32)) + (1 : Int32)) + (1 : Int32)) < (3 : Int32)))), .unset] [])
    refine own_st (fun _ k => XS.aload X172.here hx rfl (hb hby at_294) rfl rfl k) ?_
    show own_Go p e s below _ _ _ T172 (mkF m 296 #[.val (.int p0), .val (.int p1), .val (.int p2), .val (.int p3), .val (.int p4), .val (.int (3 : Int32)), .val (.int (3 : Int32)), .val (.ref s0), .val (.ref s1), .val (.ref s2), .val (.ref arr), .val (.ref b), .val (.int (own_b (((((0 : Int32) + (1 : Int32)) + (1 : Int32)) + (1 : Int32)) < (3 : Int32)))), .unset] [(.ref b)])
    refine own_callV X172 hx hZ (y := (⟨"com/example/chronotope/chronotope/Arguments", "hasNext", "()Z"⟩ : MethodName)) hown (hw _ (List.mem_of_getElem? (i := 46) rfl)) (hw _ (List.mem_of_getElem? (i := 47) rfl)) (hw _ (List.mem_of_getElem? (i := 49) rfl)) (hw _ (List.mem_of_getElem? (i := 48) rfl)) (hw _ (List.mem_of_getElem? (i := 30) rfl)) (hw _ (List.mem_of_getElem? (i := 50) rfl)) (by decide) e172 (rm7 l Z a0 hw [] b dd ((((0 : Int32) + (1 : Int32)) + (1 : Int32)) + (1 : Int32)) (3 : Int32) k141 [(.ref s0), (.ref s1), (.ref s2)] T168.heap n0 Z169 F_args_b F_next_b V_dd) 0 (by decide) (by decide) E_b (g := (mkF m 296 #[.val (.int p0), .val (.int p1), .val (.int p2), .val (.int p3), .val (.int p4), .val (.int (3 : Int32)), .val (.int (3 : Int32)), .val (.ref s0), .val (.ref s1), .val (.ref s2), .val (.ref arr), .val (.ref b), .val (.int (own_b (((((0 : Int32) + (1 : Int32)) + (1 : Int32)) + (1 : Int32)) < (3 : Int32)))), .unset] [(.ref b)])) rfl (by rw [hml]; rfl) (argsL := []) (rest := []) pd5 rfl rfl rfl (by show 2 * 0 + _ ≤ _; exact Nat.le_of_eq rfl) (hb hby at_296) (by decide) (by decide) ?_
    intro T173 v173 L173 X173 hQ173
    obtain ⟨rfl, N173q, e173⟩ := hQ173
    have N173 := Fr.app N172 N173q
    show own_Go p e s below _ _ _ T173 (mkF m 299 #[.val (.int p0), .val (.int p1), .val (.int p2), .val (.int p3), .val (.int p4), .val (.int (3 : Int32)), .val (.int (3 : Int32)), .val (.ref s0), .val (.ref s1), .val (.ref s2), .val (.ref arr), .val (.ref b), .val (.int (own_b (((((0 : Int32) + (1 : Int32)) + (1 : Int32)) + (1 : Int32)) < (3 : Int32)))), .unset] [(.int (own_b (((((0 : Int32) + (1 : Int32)) + (1 : Int32)) + (1 : Int32)) < (3 : Int32))))])
    refine own_st (fun _ k => XS.istore X173.here hx rfl (hb hby at_299) rfl (l' := #[.val (.int p0), .val (.int p1), .val (.int p2), .val (.int p3), .val (.int p4), .val (.int (3 : Int32)), .val (.int (3 : Int32)), .val (.ref s0), .val (.ref s1), .val (.ref s2), .val (.ref arr), .val (.ref b), .val (.int (own_b (((((0 : Int32) + (1 : Int32)) + (1 : Int32)) + (1 : Int32)) < (3 : Int32)))), .val (.int (own_b (((((0 : Int32) + (1 : Int32)) + (1 : Int32)) + (1 : Int32)) < (3 : Int32))))]) rfl k) ?_
    show own_Go p e s below _ _ _ T173 (mkF m 301 #[.val (.int p0), .val (.int p1), .val (.int p2), .val (.int p3), .val (.int p4), .val (.int (3 : Int32)), .val (.int (3 : Int32)), .val (.ref s0), .val (.ref s1), .val (.ref s2), .val (.ref arr), .val (.ref b), .val (.int (own_b (((((0 : Int32) + (1 : Int32)) + (1 : Int32)) + (1 : Int32)) < (3 : Int32)))), .val (.int (own_b (((((0 : Int32) + (1 : Int32)) + (1 : Int32)) + (1 : Int32)) < (3 : Int32))))] [])
    refine own_st (fun _ k => XS.iload X173.here hx rfl (hb hby at_301) rfl k) ?_
    show own_Go p e s below _ _ _ T173 (mkF m 303 #[.val (.int p0), .val (.int p1), .val (.int p2), .val (.int p3), .val (.int p4), .val (.int (3 : Int32)), .val (.int (3 : Int32)), .val (.ref s0), .val (.ref s1), .val (.ref s2), .val (.ref arr), .val (.ref b), .val (.int (own_b (((((0 : Int32) + (1 : Int32)) + (1 : Int32)) + (1 : Int32)) < (3 : Int32)))), .val (.int (own_b (((((0 : Int32) + (1 : Int32)) + (1 : Int32)) + (1 : Int32)) < (3 : Int32))))] [(.int (own_b (((((0 : Int32) + (1 : Int32)) + (1 : Int32)) + (1 : Int32)) < (3 : Int32))))])
    refine own_st (fun _ k => XS.iload X173.here hx rfl (hb hby at_303) rfl k) ?_
    show own_Go p e s below _ _ _ T173 (mkF m 305 #[.val (.int p0), .val (.int p1), .val (.int p2), .val (.int p3), .val (.int p4), .val (.int (3 : Int32)), .val (.int (3 : Int32)), .val (.ref s0), .val (.ref s1), .val (.ref s2), .val (.ref arr), .val (.ref b), .val (.int (own_b (((((0 : Int32) + (1 : Int32)) + (1 : Int32)) + (1 : Int32)) < (3 : Int32)))), .val (.int (own_b (((((0 : Int32) + (1 : Int32)) + (1 : Int32)) + (1 : Int32)) < (3 : Int32))))] [(.int (3 : Int32)), (.int (own_b (((((0 : Int32) + (1 : Int32)) + (1 : Int32)) + (1 : Int32)) < (3 : Int32))))])
    refine own_st (fun _ k => XS.iload X173.here hx rfl (hb hby at_305) rfl k) ?_
    show own_Go p e s below _ _ _ T173 (mkF m 307 #[.val (.int p0), .val (.int p1), .val (.int p2), .val (.int p3), .val (.int p4), .val (.int (3 : Int32)), .val (.int (3 : Int32)), .val (.ref s0), .val (.ref s1), .val (.ref s2), .val (.ref arr), .val (.ref b), .val (.int (own_b (((((0 : Int32) + (1 : Int32)) + (1 : Int32)) + (1 : Int32)) < (3 : Int32)))), .val (.int (own_b (((((0 : Int32) + (1 : Int32)) + (1 : Int32)) + (1 : Int32)) < (3 : Int32))))] [(.int (3 : Int32)), (.int (3 : Int32)), (.int (own_b (((((0 : Int32) + (1 : Int32)) + (1 : Int32)) + (1 : Int32)) < (3 : Int32))))])
    refine own_st (fun _ k => XS.icmpYes X173.here hx rfl (pc0 := 307) (pc' := 314) rfl (hb hby at_307) rfl (by decide) (by decide) (by decide) k) ?_
    show own_Go p e s below _ _ _ T173 (mkF m 314 #[.val (.int p0), .val (.int p1), .val (.int p2), .val (.int p3), .val (.int p4), .val (.int (3 : Int32)), .val (.int (3 : Int32)), .val (.ref s0), .val (.ref s1), .val (.ref s2), .val (.ref arr), .val (.ref b), .val (.int (own_b (((((0 : Int32) + (1 : Int32)) + (1 : Int32)) + (1 : Int32)) < (3 : Int32)))), .val (.int (own_b (((((0 : Int32) + (1 : Int32)) + (1 : Int32)) + (1 : Int32)) < (3 : Int32))))] [(.int (own_b (((((0 : Int32) + (1 : Int32)) + (1 : Int32)) + (1 : Int32)) < (3 : Int32))))])
    refine own_st (fun _ k => XS.iconst X173.here hx rfl (hb hby at_314) k) ?_
    show own_Go p e s below _ _ _ T173 (mkF m 315 #[.val (.int p0), .val (.int p1), .val (.int p2), .val (.int p3), .val (.int p4), .val (.int (3 : Int32)), .val (.int (3 : Int32)), .val (.ref s0), .val (.ref s1), .val (.ref s2), .val (.ref arr), .val (.ref b), .val (.int (own_b (((((0 : Int32) + (1 : Int32)) + (1 : Int32)) + (1 : Int32)) < (3 : Int32)))), .val (.int (own_b (((((0 : Int32) + (1 : Int32)) + (1 : Int32)) + (1 : Int32)) < (3 : Int32))))] [(.int (0 : Int32)), (.int (own_b (((((0 : Int32) + (1 : Int32)) + (1 : Int32)) + (1 : Int32)) < (3 : Int32))))])
    refine own_st (fun _ k => XS.icmpNo X173.here hx rfl (hb hby at_315) rfl (teq (own_bf (by decide))).2 k) ?_
    show own_Go p e s below _ _ _ T173 (mkF m 318 #[.val (.int p0), .val (.int p1), .val (.int p2), .val (.int p3), .val (.int p4), .val (.int (3 : Int32)), .val (.int (3 : Int32)), .val (.ref s0), .val (.ref s1), .val (.ref s2), .val (.ref arr), .val (.ref b), .val (.int (own_b (((((0 : Int32) + (1 : Int32)) + (1 : Int32)) + (1 : Int32)) < (3 : Int32)))), .val (.int (own_b (((((0 : Int32) + (1 : Int32)) + (1 : Int32)) + (1 : Int32)) < (3 : Int32))))] [])
    refine own_st (fun _ k => XS.iload X173.here hx rfl (hb hby at_318) rfl k) ?_
    show own_Go p e s below _ _ _ T173 (mkF m 320 #[.val (.int p0), .val (.int p1), .val (.int p2), .val (.int p3), .val (.int p4), .val (.int (3 : Int32)), .val (.int (3 : Int32)), .val (.ref s0), .val (.ref s1), .val (.ref s2), .val (.ref arr), .val (.ref b), .val (.int (own_b (((((0 : Int32) + (1 : Int32)) + (1 : Int32)) + (1 : Int32)) < (3 : Int32)))), .val (.int (own_b (((((0 : Int32) + (1 : Int32)) + (1 : Int32)) + (1 : Int32)) < (3 : Int32))))] [(.int (own_b (((((0 : Int32) + (1 : Int32)) + (1 : Int32)) + (1 : Int32)) < (3 : Int32))))])
    refine own_st (fun _ k => XS.iload X173.here hx rfl (hb hby at_320) rfl k) ?_
    show own_Go p e s below _ _ _ T173 (mkF m 322 #[.val (.int p0), .val (.int p1), .val (.int p2), .val (.int p3), .val (.int p4), .val (.int (3 : Int32)), .val (.int (3 : Int32)), .val (.ref s0), .val (.ref s1), .val (.ref s2), .val (.ref arr), .val (.ref b), .val (.int (own_b (((((0 : Int32) + (1 : Int32)) + (1 : Int32)) + (1 : Int32)) < (3 : Int32)))), .val (.int (own_b (((((0 : Int32) + (1 : Int32)) + (1 : Int32)) + (1 : Int32)) < (3 : Int32))))] [(.int (own_b (((((0 : Int32) + (1 : Int32)) + (1 : Int32)) + (1 : Int32)) < (3 : Int32)))), (.int (own_b (((((0 : Int32) + (1 : Int32)) + (1 : Int32)) + (1 : Int32)) < (3 : Int32))))])
    refine own_st (fun _ k => XS.icmpNo X173.here hx rfl (hb hby at_322) rfl (teq rfl).2 k) ?_
    show own_Go p e s below _ _ _ T173 (mkF m 325 #[.val (.int p0), .val (.int p1), .val (.int p2), .val (.int p3), .val (.int p4), .val (.int (3 : Int32)), .val (.int (3 : Int32)), .val (.ref s0), .val (.ref s1), .val (.ref s2), .val (.ref arr), .val (.ref b), .val (.int (own_b (((((0 : Int32) + (1 : Int32)) + (1 : Int32)) + (1 : Int32)) < (3 : Int32)))), .val (.int (own_b (((((0 : Int32) + (1 : Int32)) + (1 : Int32)) + (1 : Int32)) < (3 : Int32))))] [])
    refine own_st (fun _ k => XS.iconst X173.here hx rfl (hb hby at_325) k) ?_
    show own_Go p e s below _ _ _ T173 (mkF m 326 #[.val (.int p0), .val (.int p1), .val (.int p2), .val (.int p3), .val (.int p4), .val (.int (3 : Int32)), .val (.int (3 : Int32)), .val (.ref s0), .val (.ref s1), .val (.ref s2), .val (.ref arr), .val (.ref b), .val (.int (own_b (((((0 : Int32) + (1 : Int32)) + (1 : Int32)) + (1 : Int32)) < (3 : Int32)))), .val (.int (own_b (((((0 : Int32) + (1 : Int32)) + (1 : Int32)) + (1 : Int32)) < (3 : Int32))))] [(.int (1 : Int32))])
    refine own_st (fun _ k => XS.goto X173.here hx rfl (pc0 := 326) (pc' := 330) rfl (hb hby at_326) (by decide) (by decide) k) ?_
    show own_Go p e s below _ _ _ T173 (mkF m 330 #[.val (.int p0), .val (.int p1), .val (.int p2), .val (.int p3), .val (.int p4), .val (.int (3 : Int32)), .val (.int (3 : Int32)), .val (.ref s0), .val (.ref s1), .val (.ref s2), .val (.ref arr), .val (.ref b), .val (.int (own_b (((((0 : Int32) + (1 : Int32)) + (1 : Int32)) + (1 : Int32)) < (3 : Int32)))), .val (.int (own_b (((((0 : Int32) + (1 : Int32)) + (1 : Int32)) + (1 : Int32)) < (3 : Int32))))] [(.int (1 : Int32))])
    exact own_retN X173 hx hlk (t := .boolean) hret (by simp) (hb hby at_330) (z' := (1 : Int32)) rfl (by decide) (by decide) ⟨rfl, N173⟩
set_option maxRecDepth 65536 in
set_option maxHeartbeats 40000000 in
theorem comes_1 {Post : Tables → Env → Array Value → State → Outcome → State → Prop} (hpost : ∀ tb e args s v u, (limb_1_1.after args s (.returned v) u = true ∧ limb_1_2.after args s (.returned v) u = true ∧ True) → FrameEnd s (.returned v) u (Jvm.fieldLocs frame_1_writes args s ++ Jvm.arrayLocs frame_1_arrays args s ++ Jvm.staticLocs frame_1_statics s) 32 128 → Post tb e args s (.returned v) u) :
    ArmFor flags0 classFile x code maxLocals ret World_1 tables_1 room_1 Calls_1 rest_1 Pre_1 Post := by
  intro l hfl _ _ p e ha hc hk s m args below hf hA hF happ hP
  obtain ⟨hcalls, hrest, hpre⟩ := hP
  obtain ⟨-, -, -, hnamed, -, -, -, hat⟩ := (Spec.applies_iff hf).mp happ
  obtain ⟨hg, hn⟩ := and_e (Cond.before_iff.mp (show (Jvm.Cond.and given_1 narrow_1).before args s = true from hpre))
  obtain ⟨h1, hr0⟩ := and_e hg
  obtain ⟨w0, w1, w2, w3, w4, rfl⟩ : ∃ w0 w1 w2 w3 w4 : Value, args = #[w0, w1, w2, w3, w4] := by
    have hs : args.size = 5 := by simpa [Cond.value, given_1] using h1
    obtain ⟨L⟩ := args
    match L, hs with
    | [w0, w1, w2, w3, w4], _ => exact ⟨w0, w1, w2, w3, w4, rfl⟩
  have hw := fun d (hd : d ∈ tables_1) => atoms_spec (ws := Jvm.Cond.code x code maxLocals ret :: tables_1) hat d (List.mem_cons_of_mem _ hd)
  obtain ⟨ha0, hr1⟩ := and_e hr0
  obtain ⟨i0, e0⟩ := is_v ha0
  obtain rfl : w0 = (.int i0) := Option.some.inj e0
  obtain ⟨ha1, hr2⟩ := and_e hr1
  obtain ⟨i1, e1⟩ := is_v ha1
  obtain rfl : w1 = (.int i1) := Option.some.inj e1
  obtain ⟨ha2, hr3⟩ := and_e hr2
  obtain ⟨i2, e2⟩ := is_v ha2
  obtain rfl : w2 = (.int i2) := Option.some.inj e2
  obtain ⟨ha3, hr4⟩ := and_e hr3
  obtain ⟨i3, e3⟩ := is_v ha3
  obtain rfl : w3 = (.int i3) := Option.some.inj e3
  obtain ⟨i4, e4⟩ := is_v hr4
  obtain rfl : w4 = (.int i4) := Option.some.inj e4
  obtain ⟨hsets, hown0⟩ := atoms_of _ (rest_1_c_eq ▸ (show rest_1_c.before _ s = true from hrest))
  have j0 := hsets _ (List.mem_of_getElem? (i := 0) rfl)
  have j1 := hsets _ (List.mem_of_getElem? (i := 1) rfl)
  have j2 := hsets _ (List.mem_of_getElem? (i := 2) rfl)
  obtain ⟨cs, ecs⟩ := is_v (Cond.before_iff.mp j1)
  have SC := Sta.start ecs (Or.inl j0)
  have hcs : ¬ cs = 0 := gotF (Cond.eq_ints ecs (Term.int_eval (0))) (not_v (Cond.before_iff.mp j2))
  obtain ⟨n, o, h1, h2, h3, _, L, rfl, ⟨rfl, N⟩, hq⟩ := rm0 l s _ hw tables_1 i0 i1 i2 i3 i4 cs s.heap s.heap.size (Nat.le_refl _) SC hcs p e ha hc hk s m _ below hf ((Spec.applies_iff_loose hf).mp happ).1 ⟨rfl, State.Warmed39.refl s, rfl⟩ trivial
  refine ⟨n, _, h1, h2, h3, hpost _ _ _ _ _ _ ⟨Cond.after_iff.mpr rfl, Cond.after_iff.mpr (eq_i res_at (Term.int_eval (1)) rfl), trivial⟩ ⟨hq.1, hq.2.1, (hq.2.2.sift fun y hy => Or.inr (N y hy)).mono (by decide) (by decide)⟩⟩
theorem main_1_1 : Claimed_1_1 := comes_1 fun _ _ _ _ _ _ h hF => ⟨h.1, hF⟩
theorem main_1_2 : Claimed_1_2 := comes_1 fun _ _ _ _ _ _ h hF => ⟨h.2.1, hF⟩
end Jvm.Pilot.@@N@@
namespace Jvm.Pilot.@@N@@
open Jvm Jvm.ClassFile Sem Op Lib Jvm.Free Jvm.Stand Jvm.Pilot.@@N@@.Jvm.D
/-! MADE BY PROGRAM (witnessworld.py) out of the Statement's table words and the real class files: 18 classes; the members and pool entries that the words name. The judged class is class 1, her method 1. -/
namespace start1
open Jvm.ClassFile
def u (s : String) : CpInfo := .utf8 (stringToUtf16 s)
/-- a pool by its gaps: so many unusable entries, then the entry; so many at the end -/
def gap : Nat → List CpInfo → List CpInfo
  | 0, r => r
  | n + 1, r => .unusable :: gap n r
def poolList (es : List (Nat × CpInfo)) (last : Nat) : List CpInfo := es.foldr (fun e r => gap e.1 (e.2 :: r)) (gap last [])
def pool (es : List (Nat × CpInfo)) (last : Nat) : Array CpInfo := ⟨poolList es last⟩
def fileOf (pool : Array CpInfo) (this : Nat) (attrs : Array Attribute := #[]) (ms : Array MethodInfo := #[]) (fl : Nat := 33) (sup : Nat := 0) (ifs : Array Nat := #[]) (fds : Array FieldInfo := #[]) : ClassFile where
  minorVersion := 0
  majorVersion := 65
  constantPool := pool
  accessFlags := fl
  thisClass := this
  superClass := sup
  interfaces := ifs
  fields := fds
  methods := ms
  attributes := attrs
def plain (name : String) (sup : Option ClassId) : Class where
  name := name
  kind := .ordinary
  loader := none
  accessFlags := 33
  super := sup
  interfaces := #[]
  cf := none
  fields := #[]
  methods := #[]
  instanceTypes := #[]
  staticTypes := #[]
  resolved := #[]
  callSites := []
  init := .initialized
  statics := none
  mirror := none

def pool0 : Array CpInfo := pool [(5, u "<init>"), (0, u "()V"), (1, .class_ 10), (1, u "java/lang/Object"), (85, u "clone"), (0, u "()Ljava/lang/Object;")] 26

def k0c0 : Code := { maxStack := 0, maxLocals := 1, code := object_method_1_code, exceptionTable := #[], attributes := #[] }
def k0m0 : Method := { name := "<init>", desc := "()V", sig := { parameters := [], returnType := none }, accessFlags := 1, code := some k0c0 }
def k0m1 : Method := { name := "clone", desc := "()Ljava/lang/Object;", sig := { parameters := [], returnType := some (.object "java/lang/Object") }, accessFlags := 260, code := none }
/-- java/lang/Object -/
def k0 : Class := { plain "java/lang/Object" none with
  accessFlags := 33
  interfaces := #[]
  cf := some (fileOf pool0 8 #[] #[{ accessFlags := 1, nameIndex := 5, descriptorIndex := 6, attributes := #[] }, { accessFlags := 260, nameIndex := 96, descriptorIndex := 97, attributes := #[] }] 33 0 #[] #[])
  fields := #[]
  methods := #[k0m0, k0m1]
  instanceTypes := #[]
  staticTypes := #[]
  resolved := Array.replicate 124 none
  statics := none }

def pool1 : Array CpInfo := pool [(2, .class_ 4), (1, u "java/lang/Object"), (0, u "<init>"), (0, u "()V"), (0, .methodref 8 9), (0, .class_ 10), (0, .nameAndType 11 12), (0, u "java/lang/String"), (0, u "valueOf"), (0, u "(C)Ljava/lang/String;"), (0, .class_ 14), (0, u "com/example/chronotope/chronotope/Arguments"), (0, .methodref 13 16), (0, .nameAndType 5 17), (0, u "([Ljava/lang/String;)V"), (0, .methodref 13 19), (0, .nameAndType 20 21), (0, u "hasNext"), (0, u "()Z"), (0, .methodref 13 23), (0, .nameAndType 24 25), (0, u "next"), (0, u "()Ljava/lang/String;"), (0, .methodref 8 27), (0, .nameAndType 28 29), (0, u "equals"), (0, u "(Ljava/lang/Object;)Z"), (0, .class_ 31), (0, u "com/example/chronotope/chronotope/ArgumentsHasNextPinLaw"), (2, u "law"), (0, u "(IIIII)Z")] 5

def k1m0 : Method := { name := "<init>", desc := "()V", sig := { parameters := [], returnType := none }, accessFlags := 1, code := none }
def k1c1 : Code := { maxStack := 4, maxLocals := 14, code := code, exceptionTable := #[], attributes := #[] }
def k1m1 : Method := { name := "law", desc := "(IIIII)Z", sig := { parameters := [.int, .int, .int, .int, .int], returnType := some .boolean }, accessFlags := 9, code := some k1c1 }
/-- com/example/chronotope/chronotope/ArgumentsHasNextPinLaw -/
def k1 : Class := { plain "com/example/chronotope/chronotope/ArgumentsHasNextPinLaw" (some 0) with
  accessFlags := 49
  interfaces := #[]
  cf := some (fileOf pool1 30 #[] #[{ accessFlags := 1, nameIndex := 5, descriptorIndex := 6, attributes := #[] }, { accessFlags := 9, nameIndex := 34, descriptorIndex := 35, attributes := #[] }] 49 2 #[] #[])
  fields := #[]
  methods := #[k1m0, k1m1]
  instanceTypes := #[]
  staticTypes := #[]
  resolved := Array.replicate 41 none
  statics := none }

def pool2 : Array CpInfo := pool [(1, .class_ 2), (0, u "java/io/Serializable"), (0, .class_ 4), (0, u "java/lang/Object")] 2

/-- java/io/Serializable -/
def k2 : Class := { plain "java/io/Serializable" (some 0) with
  accessFlags := 1537
  interfaces := #[]
  cf := some (fileOf pool2 1 #[] #[] 1537 3 #[] #[])
  fields := #[]
  methods := #[]
  instanceTypes := #[]
  staticTypes := #[]
  resolved := Array.replicate 7 none
  statics := none }

def pool3 : Array CpInfo := pool [(1, .class_ 2), (0, u "java/lang/Comparable"), (0, .class_ 4), (0, u "java/lang/Object")] 7

/-- java/lang/Comparable -/
def k3 : Class := { plain "java/lang/Comparable" (some 0) with
  accessFlags := 1537
  interfaces := #[]
  cf := some (fileOf pool3 1 #[] #[] 1537 3 #[] #[])
  fields := #[]
  methods := #[]
  instanceTypes := #[]
  staticTypes := #[]
  resolved := Array.replicate 12 none
  statics := none }

def pool4 : Array CpInfo := pool [(2, .class_ 4), (1, u "java/lang/CharSequence"), (42, .class_ 48), (0, u "java/lang/CharSequence$1CodePointIterator"), (10, .class_ 60), (0, u "java/lang/CharSequence$1CharIterator"), (5, .class_ 67), (0, u "java/lang/Object")] 63

/-- java/lang/CharSequence -/
def k4 : Class := { plain "java/lang/CharSequence" (some 0) with
  accessFlags := 1537
  interfaces := #[]
  cf := some (fileOf pool4 2 #[.nestMembers #[47, 59]] #[] 1537 66 #[] #[])
  fields := #[]
  methods := #[]
  instanceTypes := #[]
  staticTypes := #[]
  resolved := Array.replicate 131 none
  statics := none }

def pool5 : Array CpInfo := pool [(1, .class_ 2), (0, u "java/lang/constant/Constable"), (0, .class_ 4), (0, u "java/lang/Object")] 6

/-- java/lang/constant/Constable -/
def k5 : Class := { plain "java/lang/constant/Constable" (some 0) with
  accessFlags := 1537
  interfaces := #[]
  cf := some (fileOf pool5 1 #[] #[] 1537 3 #[] #[])
  fields := #[]
  methods := #[]
  instanceTypes := #[]
  staticTypes := #[]
  resolved := Array.replicate 11 none
  statics := none }

def pool6 : Array CpInfo := pool [(1, .class_ 2), (0, u "java/lang/constant/ConstantDesc"), (0, .class_ 4), (0, u "java/lang/Object")] 32

/-- java/lang/constant/ConstantDesc -/
def k6 : Class := { plain "java/lang/constant/ConstantDesc" (some 0) with
  accessFlags := 1537
  interfaces := #[]
  cf := some (fileOf pool6 1 #[] #[] 1537 3 #[] #[])
  fields := #[]
  methods := #[]
  instanceTypes := #[]
  staticTypes := #[]
  resolved := Array.replicate 37 none
  statics := none }

def pool7 : Array CpInfo := pool [(1, .methodref 2 3), (0, .class_ 4), (0, .nameAndType 5 6), (0, u "java/lang/Object"), (0, u "<init>"), (0, u "()V"), (2, .fieldref 10 11), (0, .class_ 12), (0, .nameAndType 13 14), (0, u "java/lang/String"), (0, u "value"), (0, u "[B"), (0, .fieldref 10 16), (0, .nameAndType 17 18), (0, u "coder"), (0, u "B"), (2, u "hash"), (0, u "I"), (2, u "hashIsZero"), (0, u "Z"), (11, .fieldref 10 39), (0, .nameAndType 40 26), (0, u "COMPACT_STRINGS"), (12, u "toBytes"), (53, .class_ 109), (1, u "java/lang/StringLatin1"), (99, .methodref 10 210), (0, .nameAndType 5 211), (0, u "([BB)V"), (157, u "(C)Z"), (173, u "equals"), (29, u "(Ljava/lang/Object;)Z"), (1, .class_ 576), (0, u "java/lang/CharSequence"), (22, u "CASE_INSENSITIVE_ORDER"), (0, u "Ljava/util/Comparator;"), (181, u "valueOf"), (0, u "(C)Ljava/lang/String;"), (231, .methodref 107 1016), (0, .nameAndType 1017 369), (0, u "canEncode"), (0, .methodref 107 1019), (0, .nameAndType 53 1020), (0, u "(C)[B"), (80, u "serialPersistentFields"), (0, u "[Ljava/io/ObjectStreamField;"), (0, .class_ 1104), (0, u "java/lang/String$CaseInsensitiveComparator"), (1, .class_ 1107), (0, u "java/io/Serializable"), (0, .class_ 1109), (0, u "java/lang/Comparable"), (0, .class_ 1111), (0, u "java/lang/constant/Constable"), (0, .class_ 1113), (0, u "java/lang/constant/ConstantDesc"), (2, u "serialVersionUID"), (0, u "J"), (3, u "REPL"), (0, u "C"), (2, u "LATIN1"), (1, u "UTF16")] 323

def k7m0 : Method := { name := "<init>", desc := "()V", sig := { parameters := [], returnType := none }, accessFlags := 1, code := none }
def k7c1 : Code := { maxStack := 2, maxLocals := 3, code := jdk_42_method_66_code, exceptionTable := #[], attributes := #[] }
def k7m1 : Method := { name := "equals", desc := "(Ljava/lang/Object;)Z", sig := { parameters := [(.object "java/lang/Object")], returnType := some .boolean }, accessFlags := 1, code := some k7c1 }
def k7c2 : Code := { maxStack := 4, maxLocals := 1, code := jdk_42_method_139_code, exceptionTable := #[], attributes := #[] }
def k7m2 : Method := { name := "valueOf", desc := "(C)Ljava/lang/String;", sig := { parameters := [.char], returnType := some (.object "java/lang/String") }, accessFlags := 9, code := some k7c2 }
def k7c3 : Code := { maxStack := 2, maxLocals := 3, code := jdk_42_method_151_code, exceptionTable := #[], attributes := #[] }
def k7m3 : Method := { name := "<init>", desc := "([BB)V", sig := { parameters := [(.array .byte), .byte], returnType := none }, accessFlags := 0, code := some k7c3 }
/-- java/lang/String -/
def k7 : Class := { plain "java/lang/String" (some 0) with
  accessFlags := 49
  interfaces := #[2, 3, 4, 5, 6]
  cf := some (fileOf pool7 10 #[.nestMembers #[1103]] #[{ accessFlags := 1, nameIndex := 5, descriptorIndex := 6, attributes := #[] }, { accessFlags := 1, nameIndex := 543, descriptorIndex := 573, attributes := #[] }, { accessFlags := 9, nameIndex := 782, descriptorIndex := 783, attributes := #[] }, { accessFlags := 0, nameIndex := 5, descriptorIndex := 211, attributes := #[] }] 49 2 #[1106, 1108, 575, 1110, 1112] #[{ accessFlags := 18, nameIndex := 13, descriptorIndex := 14, attributes := #[] }, { accessFlags := 18, nameIndex := 17, descriptorIndex := 18, attributes := #[] }, { accessFlags := 2, nameIndex := 21, descriptorIndex := 22, attributes := #[] }, { accessFlags := 2, nameIndex := 25, descriptorIndex := 26, attributes := #[] }, { accessFlags := 26, nameIndex := 1116, descriptorIndex := 1117, attributes := #[] }, { accessFlags := 24, nameIndex := 40, descriptorIndex := 26, attributes := #[] }, { accessFlags := 26, nameIndex := 1101, descriptorIndex := 1102, attributes := #[] }, { accessFlags := 26, nameIndex := 1121, descriptorIndex := 1122, attributes := #[] }, { accessFlags := 25, nameIndex := 599, descriptorIndex := 600, attributes := #[] }, { accessFlags := 24, nameIndex := 1125, descriptorIndex := 18, attributes := #[] }, { accessFlags := 24, nameIndex := 1127, descriptorIndex := 18, attributes := #[] }])
  fields := #[{ name := "value", type := (.array .byte), accessFlags := 18, slot := 0, constantValue := 0 }, { name := "coder", type := .byte, accessFlags := 18, slot := 1, constantValue := 0 }, { name := "hash", type := .int, accessFlags := 2, slot := 2, constantValue := 0 }, { name := "hashIsZero", type := .boolean, accessFlags := 2, slot := 3, constantValue := 0 }, { name := "serialVersionUID", type := .long, accessFlags := 26, slot := 0, constantValue := 0 }, { name := "COMPACT_STRINGS", type := .boolean, accessFlags := 24, slot := 1, constantValue := 0 }, { name := "serialPersistentFields", type := (.array (.object "java/io/ObjectStreamField")), accessFlags := 26, slot := 2, constantValue := 0 }, { name := "REPL", type := .char, accessFlags := 26, slot := 3, constantValue := 0 }, { name := "CASE_INSENSITIVE_ORDER", type := (.object "java/util/Comparator"), accessFlags := 25, slot := 4, constantValue := 0 }, { name := "LATIN1", type := .byte, accessFlags := 24, slot := 5, constantValue := 0 }, { name := "UTF16", type := .byte, accessFlags := 24, slot := 6, constantValue := 0 }]
  methods := #[k7m0, k7m1, k7m2, k7m3]
  instanceTypes := #[(.array .byte), .byte, .int, .boolean]
  staticTypes := #[.long, .boolean, (.array (.object "java/io/ObjectStreamField")), .char, (.object "java/util/Comparator"), .byte, .byte]
  resolved := Array.replicate 1451 none
  statics := some 0 }

def pool8 : Array CpInfo := pool [(4, .class_ 6), (1, u "java/lang/Object"), (0, u "<init>"), (0, u "()V"), (5, .class_ 16), (1, u "java/lang/StringLatin1"), (73, u "canEncode"), (14, u "(C)Z"), (15, u "$assertionsDisabled"), (0, u "Z"), (98, .class_ 223), (1, u "java/lang/StringLatin1$LinesSpliterator"), (156, u "toBytes"), (1, u "(C)[B"), (7, .class_ 391), (0, u "java/lang/StringLatin1$CharsSpliterator")] 3

def k8m0 : Method := { name := "<init>", desc := "()V", sig := { parameters := [], returnType := none }, accessFlags := 0, code := none }
def k8c1 : Code := { maxStack := 2, maxLocals := 1, code := jdk_43_method_3_code, exceptionTable := #[], attributes := #[] }
def k8m1 : Method := { name := "canEncode", desc := "(C)Z", sig := { parameters := [.char], returnType := some .boolean }, accessFlags := 9, code := some k8c1 }
def k8c2 : Code := { maxStack := 4, maxLocals := 1, code := jdk_43_method_46_code, exceptionTable := #[], attributes := #[] }
def k8m2 : Method := { name := "toBytes", desc := "(C)[B", sig := { parameters := [.char], returnType := some (.array .byte) }, accessFlags := 9, code := some k8c2 }
/-- java/lang/StringLatin1 -/
def k8 : Class := { plain "java/lang/StringLatin1" (some 0) with
  accessFlags := 48
  interfaces := #[]
  cf := some (fileOf pool8 14 #[.nestMembers #[390, 221]] #[{ accessFlags := 0, nameIndex := 7, descriptorIndex := 8, attributes := #[] }, { accessFlags := 9, nameIndex := 90, descriptorIndex := 105, attributes := #[] }, { accessFlags := 9, nameIndex := 380, descriptorIndex := 382, attributes := #[] }] 48 4 #[] #[{ accessFlags := 4120, nameIndex := 121, descriptorIndex := 122, attributes := #[] }])
  fields := #[{ name := "$assertionsDisabled", type := .boolean, accessFlags := 4120, slot := 0, constantValue := 0 }]
  methods := #[k8m0, k8m1, k8m2]
  instanceTypes := #[]
  staticTypes := #[.boolean]
  resolved := Array.replicate 395 none
  statics := none }

def pool9 : Array CpInfo := pool [(1, .methodref 2 3), (0, .class_ 4), (0, .nameAndType 5 6), (0, u "java/lang/Object"), (0, u "<init>"), (0, u "()V"), (0, .methodref 8 9), (0, .class_ 10), (0, .nameAndType 11 12), (0, u "[Ljava/lang/String;"), (0, u "clone"), (0, u "()Ljava/lang/Object;"), (0, .fieldref 14 15), (0, .class_ 16), (0, .nameAndType 17 10), (0, u "com/example/chronotope/chronotope/Arguments"), (0, u "args"), (0, .fieldref 14 19), (0, .nameAndType 20 21), (0, u "next"), (0, u "I"), (0, .methodref 14 23), (0, .nameAndType 24 25), (0, u "hasNext"), (0, u "()Z"), (16, u "()Ljava/lang/String;"), (56, u "HELP_HINT"), (0, u "Ljava/lang/String;"), (3, u "([Ljava/lang/String;)V")] 34

def k9c0 : Code := { maxStack := 2, maxLocals := 2, code := prog_1_method_1_code, exceptionTable := #[], attributes := #[] }
def k9m0 : Method := { name := "<init>", desc := "([Ljava/lang/String;)V", sig := { parameters := [(.array (.object "java/lang/String"))], returnType := none }, accessFlags := 0, code := some k9c0 }
def k9c1 : Code := { maxStack := 2, maxLocals := 1, code := prog_1_method_2_code, exceptionTable := #[], attributes := #[] }
def k9m1 : Method := { name := "hasNext", desc := "()Z", sig := { parameters := [], returnType := some .boolean }, accessFlags := 0, code := some k9c1 }
def k9c2 : Code := { maxStack := 5, maxLocals := 1, code := prog_1_method_3_code, exceptionTable := #[], attributes := #[] }
def k9m2 : Method := { name := "next", desc := "()Ljava/lang/String;", sig := { parameters := [], returnType := some (.object "java/lang/String") }, accessFlags := 0, code := some k9c2 }
/-- com/example/chronotope/chronotope/Arguments -/
def k9 : Class := { plain "com/example/chronotope/chronotope/Arguments" (some 0) with
  accessFlags := 48
  interfaces := #[]
  cf := some (fileOf pool9 14 #[] #[{ accessFlags := 0, nameIndex := 5, descriptorIndex := 104, attributes := #[] }, { accessFlags := 0, nameIndex := 24, descriptorIndex := 25, attributes := #[] }, { accessFlags := 0, nameIndex := 20, descriptorIndex := 42, attributes := #[] }] 48 2 #[] #[{ accessFlags := 24, nameIndex := 99, descriptorIndex := 100, attributes := #[] }, { accessFlags := 18, nameIndex := 17, descriptorIndex := 10, attributes := #[] }, { accessFlags := 2, nameIndex := 20, descriptorIndex := 21, attributes := #[] }])
  fields := #[{ name := "HELP_HINT", type := (.object "java/lang/String"), accessFlags := 24, slot := 0, constantValue := 0 }, { name := "args", type := (.array (.object "java/lang/String")), accessFlags := 18, slot := 0, constantValue := 0 }, { name := "next", type := .int, accessFlags := 2, slot := 1, constantValue := 0 }]
  methods := #[k9m0, k9m1, k9m2]
  instanceTypes := #[(.array (.object "java/lang/String")), .int]
  staticTypes := #[(.object "java/lang/String")]
  resolved := Array.replicate 139 none
  statics := none }

def pool10 : Array CpInfo := pool [(1, .class_ 2), (0, u "java/lang/Cloneable"), (0, .class_ 4), (0, u "java/lang/Object")] 2

/-- java/lang/Cloneable -/
def k10 : Class := { plain "java/lang/Cloneable" (some 0) with
  accessFlags := 1537
  interfaces := #[]
  cf := some (fileOf pool10 1 #[] #[] 1537 3 #[] #[])
  fields := #[]
  methods := #[]
  instanceTypes := #[]
  staticTypes := #[]
  resolved := Array.replicate 7 none
  statics := none }

def pool11 : Array CpInfo := pool [(2, .class_ 4), (1, u "java/lang/Object"), (0, u "<init>"), (0, u "()V"), (17, .class_ 26), (1, u "jdk/internal/util/Preconditions"), (28, .class_ 56), (0, u "jdk/internal/util/Preconditions$4"), (57, .class_ 115), (0, u "jdk/internal/util/Preconditions$1"), (7, u "SIOOBE_FORMATTER"), (0, u "Ljava/util/function/BiFunction;"), (0, .class_ 126), (0, u "jdk/internal/util/Preconditions$2"), (3, u "AIOOBE_FORMATTER"), (0, .class_ 132), (0, u "jdk/internal/util/Preconditions$3"), (3, u "IOOBE_FORMATTER")] 57

def k11m0 : Method := { name := "<init>", desc := "()V", sig := { parameters := [], returnType := none }, accessFlags := 1, code := none }
/-- jdk/internal/util/Preconditions -/
def k11 : Class := { plain "jdk/internal/util/Preconditions" (some 0) with
  accessFlags := 33
  interfaces := #[]
  cf := some (fileOf pool11 24 #[.nestMembers #[55, 131, 125, 114]] #[{ accessFlags := 1, nameIndex := 5, descriptorIndex := 6, attributes := #[] }] 33 2 #[] #[{ accessFlags := 25, nameIndex := 123, descriptorIndex := 124, attributes := #[] }, { accessFlags := 25, nameIndex := 130, descriptorIndex := 124, attributes := #[] }, { accessFlags := 25, nameIndex := 136, descriptorIndex := 124, attributes := #[] }])
  fields := #[{ name := "SIOOBE_FORMATTER", type := (.object "java/util/function/BiFunction"), accessFlags := 25, slot := 0, constantValue := 0 }, { name := "AIOOBE_FORMATTER", type := (.object "java/util/function/BiFunction"), accessFlags := 25, slot := 1, constantValue := 0 }, { name := "IOOBE_FORMATTER", type := (.object "java/util/function/BiFunction"), accessFlags := 25, slot := 2, constantValue := 0 }]
  methods := #[k11m0]
  instanceTypes := #[]
  staticTypes := #[(.object "java/util/function/BiFunction"), (.object "java/util/function/BiFunction"), (.object "java/util/function/BiFunction")]
  resolved := Array.replicate 194 none
  statics := some 1 }

def pool12 : Array CpInfo := pool [(9, u "<init>"), (6, .class_ 18), (1, u "java/lang/Object"), (0, u "()V"), (1, .class_ 23), (1, u "jdk/internal/util/ArraysSupport"), (0, u "LOG2_ARRAY_LONG_INDEX_SCALE"), (0, u "I"), (2, u "U"), (0, u "Ljdk/internal/misc/Unsafe;"), (8, u "BIG_ENDIAN"), (0, u "Z"), (8, u "LOG2_BYTE_BIT_SIZE"), (4, u "LOG2_ARRAY_INT_INDEX_SCALE"), (54, u "JLA"), (0, u "Ljdk/internal/access/JavaLangAccess;"), (11, u "LOG2_ARRAY_BOOLEAN_INDEX_SCALE"), (9, u "LOG2_ARRAY_BYTE_INDEX_SCALE"), (5, u "LOG2_ARRAY_CHAR_INDEX_SCALE"), (5, u "LOG2_ARRAY_SHORT_INDEX_SCALE"), (18, u "LOG2_ARRAY_FLOAT_INDEX_SCALE"), (24, u "LOG2_ARRAY_DOUBLE_INDEX_SCALE"), (89, u "T_BOOLEAN"), (2, u "T_CHAR"), (1, u "T_FLOAT"), (1, u "T_DOUBLE"), (1, u "T_BYTE"), (1, u "T_SHORT"), (1, u "T_INT"), (1, u "T_LONG"), (1, u "SOFT_MAX_ARRAY_LENGTH")] 83

def k12m0 : Method := { name := "<init>", desc := "()V", sig := { parameters := [], returnType := none }, accessFlags := 2, code := none }
/-- jdk/internal/util/ArraysSupport -/
def k12 : Class := { plain "jdk/internal/util/ArraysSupport" (some 0) with
  accessFlags := 33
  interfaces := #[]
  cf := some (fileOf pool12 21 #[] #[{ accessFlags := 2, nameIndex := 9, descriptorIndex := 19, attributes := #[] }] 33 16 #[] #[{ accessFlags := 24, nameIndex := 28, descriptorIndex := 29, attributes := #[] }, { accessFlags := 26, nameIndex := 38, descriptorIndex := 39, attributes := #[] }, { accessFlags := 25, nameIndex := 121, descriptorIndex := 25, attributes := #[] }, { accessFlags := 25, nameIndex := 131, descriptorIndex := 25, attributes := #[] }, { accessFlags := 25, nameIndex := 137, descriptorIndex := 25, attributes := #[] }, { accessFlags := 25, nameIndex := 143, descriptorIndex := 25, attributes := #[] }, { accessFlags := 25, nameIndex := 53, descriptorIndex := 25, attributes := #[] }, { accessFlags := 25, nameIndex := 24, descriptorIndex := 25, attributes := #[] }, { accessFlags := 25, nameIndex := 162, descriptorIndex := 25, attributes := #[] }, { accessFlags := 25, nameIndex := 187, descriptorIndex := 25, attributes := #[] }, { accessFlags := 26, nameIndex := 48, descriptorIndex := 25, attributes := #[] }, { accessFlags := 25, nameIndex := 277, descriptorIndex := 25, attributes := #[] }, { accessFlags := 25, nameIndex := 280, descriptorIndex := 25, attributes := #[] }, { accessFlags := 25, nameIndex := 282, descriptorIndex := 25, attributes := #[] }, { accessFlags := 25, nameIndex := 284, descriptorIndex := 25, attributes := #[] }, { accessFlags := 25, nameIndex := 286, descriptorIndex := 25, attributes := #[] }, { accessFlags := 25, nameIndex := 288, descriptorIndex := 25, attributes := #[] }, { accessFlags := 25, nameIndex := 290, descriptorIndex := 25, attributes := #[] }, { accessFlags := 25, nameIndex := 292, descriptorIndex := 25, attributes := #[] }, { accessFlags := 26, nameIndex := 108, descriptorIndex := 109, attributes := #[] }, { accessFlags := 25, nameIndex := 294, descriptorIndex := 25, attributes := #[] }])
  fields := #[{ name := "U", type := (.object "jdk/internal/misc/Unsafe"), accessFlags := 24, slot := 0, constantValue := 0 }, { name := "BIG_ENDIAN", type := .boolean, accessFlags := 26, slot := 1, constantValue := 0 }, { name := "LOG2_ARRAY_BOOLEAN_INDEX_SCALE", type := .int, accessFlags := 25, slot := 2, constantValue := 0 }, { name := "LOG2_ARRAY_BYTE_INDEX_SCALE", type := .int, accessFlags := 25, slot := 3, constantValue := 0 }, { name := "LOG2_ARRAY_CHAR_INDEX_SCALE", type := .int, accessFlags := 25, slot := 4, constantValue := 0 }, { name := "LOG2_ARRAY_SHORT_INDEX_SCALE", type := .int, accessFlags := 25, slot := 5, constantValue := 0 }, { name := "LOG2_ARRAY_INT_INDEX_SCALE", type := .int, accessFlags := 25, slot := 6, constantValue := 0 }, { name := "LOG2_ARRAY_LONG_INDEX_SCALE", type := .int, accessFlags := 25, slot := 7, constantValue := 0 }, { name := "LOG2_ARRAY_FLOAT_INDEX_SCALE", type := .int, accessFlags := 25, slot := 8, constantValue := 0 }, { name := "LOG2_ARRAY_DOUBLE_INDEX_SCALE", type := .int, accessFlags := 25, slot := 9, constantValue := 0 }, { name := "LOG2_BYTE_BIT_SIZE", type := .int, accessFlags := 26, slot := 10, constantValue := 0 }, { name := "T_BOOLEAN", type := .int, accessFlags := 25, slot := 11, constantValue := 0 }, { name := "T_CHAR", type := .int, accessFlags := 25, slot := 12, constantValue := 0 }, { name := "T_FLOAT", type := .int, accessFlags := 25, slot := 13, constantValue := 0 }, { name := "T_DOUBLE", type := .int, accessFlags := 25, slot := 14, constantValue := 0 }, { name := "T_BYTE", type := .int, accessFlags := 25, slot := 15, constantValue := 0 }, { name := "T_SHORT", type := .int, accessFlags := 25, slot := 16, constantValue := 0 }, { name := "T_INT", type := .int, accessFlags := 25, slot := 17, constantValue := 0 }, { name := "T_LONG", type := .int, accessFlags := 25, slot := 18, constantValue := 0 }, { name := "JLA", type := (.object "jdk/internal/access/JavaLangAccess"), accessFlags := 26, slot := 19, constantValue := 0 }, { name := "SOFT_MAX_ARRAY_LENGTH", type := .int, accessFlags := 25, slot := 20, constantValue := 0 }]
  methods := #[k12m0]
  instanceTypes := #[]
  staticTypes := #[(.object "jdk/internal/misc/Unsafe"), .boolean, .int, .int, .int, .int, .int, .int, .int, .int, .int, .int, .int, .int, .int, .int, .int, .int, .int, (.object "jdk/internal/access/JavaLangAccess"), .int]
  resolved := Array.replicate 378 none
  statics := none }

/-- the primitive byte -/
def k13 : Class := { plain "byte" none with kind := .primitive 'B', accessFlags := 0x411 }
/-- [B -/
def k14 : Class := { plain "[B" (some 0) with kind := .array 13 .byte, interfaces := #[10, 2], accessFlags := 1041 }

/-- the primitive int -/
def k15 : Class := { plain "int" none with kind := .primitive 'I', accessFlags := 0x411 }
/-- [I -/
def k16 : Class := { plain "[I" (some 0) with kind := .array 15 .int, interfaces := #[10, 2], accessFlags := 1041 }

/-- [Ljava/lang/String; -/
def k17 : Class := { plain "[Ljava/lang/String;" (some 0) with kind := .array 7 (.object "java/lang/String"), interfaces := #[10, 2], accessFlags := 1041 }

def heap : Heap := #[{ cls := 7, slots := #[.long 0, .int 1, .null, .int 0, .null, .int 0, .int 0], vm := .statics 7 },
  { cls := 11, slots := #[.null, .null, .null], vm := .statics 11 }]
def classes : Array Class := #[k0, k1, k2, k3, k4, k5, k6, k7, k8, k9, k10, k11, k12, k13, k14, k15, k16, k17]
def interned : List (Array UInt16 × Addr) := []
def slotsUsed : Nat := 10
def theMethod : MethodId := ⟨1, 1⟩
def args0 : Array Value := #[.int 5, .int 5, .int 5, .int 5, .int 5]
def aboutOver (below : List Frame) : State where
  vm := { classes := classes, interned := interned.toArray }
  heap := heap
  slotsUsed := slotsUsed
  threads := #[{ frames := .invoking theMethod args0 :: below }]
def below0 : List Frame := [.native { method := ⟨0, 0⟩, args := #[] }]
def about1 : State := aboutOver below0
def p0 : Program := .bare "" "" ""
def e0 : Env := launch0.env 0 0 0
theorem w_frames : about1.frames = Frame.invoking theMethod args0 :: below0 := rfl
set_option maxRecDepth 65536 in
theorem w_args : argsFit about1.vm theMethod args0 = true := by decide +kernel
set_option maxRecDepth 65536 in
theorem w_heap : heapFits about1 = true := by decide +kernel
set_option maxRecDepth 65536 in
theorem w_runnable : about1.curStatus? = some .runnable := by decide +kernel
set_option maxRecDepth 65536 in
theorem w_alone : about1.alone = true := by decide +kernel
set_option maxRecDepth 65536 in
theorem w_named : about1.methodNamed? x = some theMethod := by decide +kernel
set_option maxRecDepth 65536 in
theorem w_hears : about1.hears theMethod below0 = true := by decide +kernel
set_option maxRecDepth 65536 in
theorem w_ripe : about1.ripe theMethod args0 below0 = true := by decide +kernel
theorem w_running : about1.status = .running := rfl
set_option maxRecDepth 65536 in
theorem w_room : about1.hasRoom e0.platform room_1 = true :=
  launch0.hasRoom_least _ room_1 (by decide +kernel) (by decide +kernel) (by decide +kernel) (by decide +kernel) (by decide +kernel) (by decide +kernel)
theorem allAtoms_all (ts : List Jvm.Cond) (a : Array Jvm.Value) (st : Jvm.State) : (allAtoms ts).before a st = ts.all (fun c => c.before a st) := by
  induction ts with
  | nil => rfl
  | cons c t ih =>
    show (Jvm.Cond.and c (allAtoms t)).before a st = _
    rw [Jvm.Cond.before_and, ih, List.all_cons]
def words1 : List Jvm.Cond := Jvm.Cond.code x code maxLocals ret :: tables_1
/-- a 'code' word, met by the world's own term for the bytes: nothing is compared byte by byte -/
theorem code_word {y : MethodName} {bytes : ByteArray} {mx : Nat} {rt : Option FieldType} {a : Array Value} {s : State} {m : MethodId} {meth : Method} {c : Code} (h1 : s.methodNamed? y = some m) (h2 : s.vm.method? m = some meth) (h3 : meth.code = some c) (h4 : c.code = bytes)
    (h5 : (c.maxLocals == mx && c.exceptionTable.isEmpty && decide (c.maxStack ≤ mostOperands) && decide (meth.sig.returnType = rt) && !meth.locks && decide (parseMethodDescriptor y.desc = some meth.sig)) = true) : (Jvm.Cond.code y bytes mx rt).before a s = true := by
  simp only [Bool.and_eq_true, beq_iff_eq, Bool.not_eq_true', decide_eq_true_eq] at h5
  obtain ⟨⟨⟨⟨⟨g1, g2⟩, g3⟩, g4⟩, g5⟩, g6⟩ := h5
  simp [Cond.before, Cond.holds, Cond.value, h1, h2, h3, h4, g1, g2, g3, g4, g5, g6]
def isCode : Jvm.Cond → Bool
  | .code _ _ _ _ => true
  | _ => false
theorem all_split {L : List Jvm.Cond} {P : Jvm.Cond → Bool} (h1 : L.all (fun c => isCode c || P c) = true) (h2 : ∀ c ∈ L.filter isCode, P c = true) : L.all P = true := by
  refine List.all_eq_true.mpr fun c hc => ?_
  have h := List.all_eq_true.mp h1 c hc
  rcases Bool.eq_false_or_eq_true (isCode c) with hi | hi
  · exact h2 c (List.mem_filter.mpr ⟨hc, hi⟩)
  · simpa [hi] using h
set_option maxRecDepth 65536 in
theorem w_c0 : (Jvm.Cond.code x code maxLocals ret).before args0 about1 = true := code_word (m := ⟨1, 1⟩) (meth := k1m1) (c := k1c1) (by decide +kernel) rfl rfl rfl (by decide +kernel)
set_option maxRecDepth 65536 in
theorem w_c1 : (Jvm.Cond.code ({ cls := "java/lang/String", name := "valueOf", desc := "(C)Ljava/lang/String;" } : Jvm.MethodName) jdk_42_method_139_code (1 : Nat) (Option.some (Jvm.ClassFile.FieldType.object "java/lang/String"))).before args0 about1 = true := code_word (m := ⟨7, 2⟩) (meth := k7m2) (c := k7c2) (by decide +kernel) rfl rfl rfl (by decide +kernel)
set_option maxRecDepth 65536 in
theorem w_c2 : (Jvm.Cond.code ({ cls := "java/lang/StringLatin1", name := "canEncode", desc := "(C)Z" } : Jvm.MethodName) jdk_43_method_3_code (1 : Nat) (Option.some Jvm.ClassFile.FieldType.boolean)).before args0 about1 = true := code_word (m := ⟨8, 1⟩) (meth := k8m1) (c := k8c1) (by decide +kernel) rfl rfl rfl (by decide +kernel)
set_option maxRecDepth 65536 in
theorem w_c3 : (Jvm.Cond.code ({ cls := "java/lang/StringLatin1", name := "toBytes", desc := "(C)[B" } : Jvm.MethodName) jdk_43_method_46_code (1 : Nat) (Option.some (Jvm.ClassFile.FieldType.array Jvm.ClassFile.FieldType.byte))).before args0 about1 = true := code_word (m := ⟨8, 2⟩) (meth := k8m2) (c := k8c2) (by decide +kernel) rfl rfl rfl (by decide +kernel)
set_option maxRecDepth 65536 in
theorem w_c4 : (Jvm.Cond.code ({ cls := "java/lang/String", name := "<init>", desc := "([BB)V" } : Jvm.MethodName) jdk_42_method_151_code (3 : Nat) (Option.none : Option Jvm.ClassFile.FieldType)).before args0 about1 = true := code_word (m := ⟨7, 3⟩) (meth := k7m3) (c := k7c3) (by decide +kernel) rfl rfl rfl (by decide +kernel)
set_option maxRecDepth 65536 in
theorem w_c5 : (Jvm.Cond.code ({ cls := "java/lang/Object", name := "<init>", desc := "()V" } : Jvm.MethodName) object_method_1_code (1 : Nat) (Option.none : Option Jvm.ClassFile.FieldType)).before args0 about1 = true := code_word (m := ⟨0, 0⟩) (meth := k0m0) (c := k0c0) (by decide +kernel) rfl rfl rfl (by decide +kernel)
set_option maxRecDepth 65536 in
theorem w_c6 : (Jvm.Cond.code ({ cls := "com/example/chronotope/chronotope/Arguments", name := "<init>", desc := "([Ljava/lang/String;)V" } : Jvm.MethodName) prog_1_method_1_code (2 : Nat) (Option.none : Option Jvm.ClassFile.FieldType)).before args0 about1 = true := code_word (m := ⟨9, 0⟩) (meth := k9m0) (c := k9c0) (by decide +kernel) rfl rfl rfl (by decide +kernel)
set_option maxRecDepth 65536 in
theorem w_c7 : (Jvm.Cond.code ({ cls := "com/example/chronotope/chronotope/Arguments", name := "hasNext", desc := "()Z" } : Jvm.MethodName) prog_1_method_2_code (1 : Nat) (Option.some Jvm.ClassFile.FieldType.boolean)).before args0 about1 = true := code_word (m := ⟨9, 1⟩) (meth := k9m1) (c := k9c1) (by decide +kernel) rfl rfl rfl (by decide +kernel)
set_option maxRecDepth 65536 in
theorem w_c8 : (Jvm.Cond.code ({ cls := "com/example/chronotope/chronotope/Arguments", name := "next", desc := "()Ljava/lang/String;" } : Jvm.MethodName) prog_1_method_3_code (1 : Nat) (Option.some (Jvm.ClassFile.FieldType.object "java/lang/String"))).before args0 about1 = true := code_word (m := ⟨9, 2⟩) (meth := k9m2) (c := k9c2) (by decide +kernel) rfl rfl rfl (by decide +kernel)
set_option maxRecDepth 65536 in
theorem w_c9 : (Jvm.Cond.code ({ cls := "java/lang/String", name := "equals", desc := "(Ljava/lang/Object;)Z" } : Jvm.MethodName) jdk_42_method_66_code (3 : Nat) (Option.some Jvm.ClassFile.FieldType.boolean)).before args0 about1 = true := code_word (m := ⟨7, 1⟩) (meth := k7m1) (c := k7c1) (by decide +kernel) rfl rfl rfl (by decide +kernel)
def codes1 : List Jvm.Cond := [Jvm.Cond.code x code maxLocals ret, Jvm.Cond.code ({ cls := "java/lang/String", name := "valueOf", desc := "(C)Ljava/lang/String;" } : Jvm.MethodName) jdk_42_method_139_code (1 : Nat) (Option.some (Jvm.ClassFile.FieldType.object "java/lang/String")), Jvm.Cond.code ({ cls := "java/lang/StringLatin1", name := "canEncode", desc := "(C)Z" } : Jvm.MethodName) jdk_43_method_3_code (1 : Nat) (Option.some Jvm.ClassFile.FieldType.boolean), Jvm.Cond.code ({ cls := "java/lang/StringLatin1", name := "toBytes", desc := "(C)[B" } : Jvm.MethodName) jdk_43_method_46_code (1 : Nat) (Option.some (Jvm.ClassFile.FieldType.array Jvm.ClassFile.FieldType.byte)), Jvm.Cond.code ({ cls := "java/lang/String", name := "<init>", desc := "([BB)V" } : Jvm.MethodName) jdk_42_method_151_code (3 : Nat) (Option.none : Option Jvm.ClassFile.FieldType), Jvm.Cond.code ({ cls := "java/lang/Object", name := "<init>", desc := "()V" } : Jvm.MethodName) object_method_1_code (1 : Nat) (Option.none : Option Jvm.ClassFile.FieldType), Jvm.Cond.code ({ cls := "com/example/chronotope/chronotope/Arguments", name := "<init>", desc := "([Ljava/lang/String;)V" } : Jvm.MethodName) prog_1_method_1_code (2 : Nat) (Option.none : Option Jvm.ClassFile.FieldType), Jvm.Cond.code ({ cls := "com/example/chronotope/chronotope/Arguments", name := "hasNext", desc := "()Z" } : Jvm.MethodName) prog_1_method_2_code (1 : Nat) (Option.some Jvm.ClassFile.FieldType.boolean), Jvm.Cond.code ({ cls := "com/example/chronotope/chronotope/Arguments", name := "next", desc := "()Ljava/lang/String;" } : Jvm.MethodName) prog_1_method_3_code (1 : Nat) (Option.some (Jvm.ClassFile.FieldType.object "java/lang/String")), Jvm.Cond.code ({ cls := "java/lang/String", name := "equals", desc := "(Ljava/lang/Object;)Z" } : Jvm.MethodName) jdk_42_method_66_code (3 : Nat) (Option.some Jvm.ClassFile.FieldType.boolean)]
set_option maxRecDepth 65536 in
theorem codes_eq : words1.filter isCode = codes1 := rfl
theorem w_codes : ∀ c ∈ words1.filter isCode, c.before args0 about1 = true := by
  rw [codes_eq]
  intro c hc
  simp only [codes1, List.mem_cons, List.not_mem_nil, or_false] at hc
  rcases hc with rfl | rfl | rfl | rfl | rfl | rfl | rfl | rfl | rfl | rfl
  · exact w_c0
  · exact w_c1
  · exact w_c2
  · exact w_c3
  · exact w_c4
  · exact w_c5
  · exact w_c6
  · exact w_c7
  · exact w_c8
  · exact w_c9
set_option maxRecDepth 65536 in
theorem w_t1 : (words1.take 24).all (fun c => isCode c || c.before args0 about1) = true := by decide +kernel
set_option maxRecDepth 65536 in
theorem w_t2 : ((words1.drop 24).take 24).all (fun c => isCode c || c.before args0 about1) = true := by decide +kernel
set_option maxRecDepth 65536 in
theorem w_t3 : ((words1.drop 24).drop 24).all (fun c => isCode c || c.before args0 about1) = true := by decide +kernel
theorem w_tables : (allAtoms (Jvm.Cond.code x code maxLocals ret :: tables_1)).before args0 about1 = true := by
  rw [allAtoms_all]
  show words1.all (fun c => c.before args0 about1) = true
  refine all_split ?_ w_codes
  rw [← List.take_append_drop 24 words1, List.all_append, w_t1, ← List.take_append_drop 24 (words1.drop 24), List.all_append, w_t2, w_t3]
  rfl
set_option maxRecDepth 65536 in
theorem w_rest : rest_1_c.before args0 about1 = true := by decide +kernel
set_option maxRecDepth 65536 in
theorem w_case : (Jvm.Cond.and given_1 narrow_1).before args0 about1 = true := by decide +kernel
theorem w_applies : (headSpec (Jvm.Cond.code x code maxLocals ret :: tables_1) room_1).applies x e0.platform about1 = true :=
  (Spec.applies_iff w_frames).mpr ⟨w_running, w_runnable, w_alone, w_named, w_hears, w_ripe, w_room, w_tables⟩
theorem atStart : AtStart classFile x code maxLocals ret World_1 tables_1 room_1 Calls_1 rest_1 Pre_1 launch0 p0 e0 about1 theMethod args0 below0 :=
  ⟨lists_1, trivial, launch0.admits_env _ _ _, launch0.least_env, fairChoices_fair.cas, fairChoices_fair.clock, w_frames, w_args, w_heap, w_applies, trivial, w_rest, w_case⟩
end start1
theorem witness_1 : WitnessClaimed_1 := ⟨start1.p0, start1.e0, start1.about1, start1.theMethod, start1.args0, start1.below0, start1.atStart⟩
end Jvm.Pilot.@@N@@
