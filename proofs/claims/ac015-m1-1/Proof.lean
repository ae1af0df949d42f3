import JvmDerived
import JvmDerived.Pilot.@@N@@Statement
import JvmDerived.Pilot.@@N@@Code
set_option linter.unusedVariables false
set_option linter.unusedSimpArgs false
namespace Jvm.Pilot.@@N@@
open Jvm Jvm.ClassFile Sem Op Lib Jvm.Free Jvm.Stand Jvm.LawKit Jvm.RoadKit Bundle Jvm.Pilot.@@N@@.Jvm.D
/-! the walk in the form of what is still to be run: own_Go T g says that the run from the frame g on T ends as promised -/
section OwnKit
variable {p : Program} {l : Launch} {e : Env} {R : Room} {s : State} {m : MethodId} {args : Array Value} {below : List Frame} {meth : Method} {c : Code} {T : State} {locs : List Loc} {cells slots : Nat} {Z : State} {h : Heap} {a0 : Array Value} {Q : Option Value → Heap → List Loc → Prop} {cm sm : Nat}
def own_Go (p : Program) (e : Env) (s : State) (below : List Frame) (Q : Option Value → Heap → List Loc → Prop) (cm sm : Nat) (T : State) (g : JFrame) : Prop :=
  ∃ (U : State) (o : Outcome), Steps p.tables e below (T.setTop g) U ∧ U.status = .running ∧ Ended U below o ∧ ∃ v L, o = .returned v ∧ Q v U.heap L ∧ FrameEnd s o U L cm sm
theorem own_st {T' : State} {g g' : JFrame} (h : ∀ t, Steps p.tables e below (T'.setTop g') t → Steps p.tables e below (T.setTop g) t) (k : own_Go p e s below Q cm sm T' g') : own_Go p e s below Q cm sm T g := by
  obtain ⟨U, o, h1, h2⟩ := k
  exact ⟨U, o, h U h1, h2⟩
abbrev own_Met (l : Launch) (Z : State) (y : MethodName) (bytes : ByteArray) (ml : Nat) (ret : Option FieldType) (rm : Room) (ws : List Jvm.Cond) (as : Array Value) (h : Heap) (Q : Option Value → Heap → List Loc → Prop) (cm sm : Nat) : Prop :=
  MetFree l y (head1 (Jvm.Cond.code y bytes ml ret :: ws) rm) (fun a U => a = as ∧ Z.Warmed39 U.vm ∧ U.heap = h) (fun _ _ _ _ _ => True) (fun _ U o U' => ∃ v L, o = .returned v ∧ Q v U'.heap L ∧ FrameEnd U o U' L cm sm)
theorem own_enter {y : MethodName} {bytes : ByteArray} {ml : Nat} {ret : Option FieldType} {rm : Room} {ws : List Jvm.Cond} {as : Array Value} {Ls : Array Slot}
    (hp : plainFor y = true) (hef : ∀ m, entryFrame m as ml = mkF m 0 Ls [])
    (body : ∀ (p : Program) (e : Env) (s : State) (m : MethodId) (below : List Frame) (meth : Method) (c : Code) (T : State), p.tables.exec = Jvm.exec → c.code = bytes → c.maxLocals = ml → s.vm.findClass y.cls = some m.cls → meth.name = y.name → meth.sig.returnType = ret → meth.locks = false → Z.Warmed39 s.vm →
      Stand p l e rm s m as below meth c T [] 0 0 → T.heap = h → own_Go p e s below Q cm sm T (mkF m 0 Ls [])) :
    own_Met l Z y bytes ml ret rm ws as h Q cm sm := by
  refine MetFree.of_bodySF hp hisR ?_
  intro p e s m args below meth c s₁ Bd hml0 hP hK
  obtain ⟨rfl, hZ, hh⟩ := hP
  obtain ⟨U, o, h1, h2⟩ := body p e s m below meth c s₁ Bd.exec Bd.bytes hml0 (findClass_of_methodNamed Bd.named) (name_of_methodNamed Bd.named Bd.method).1 Bd.returns (BodyLoose.notSynchronized Bd) hZ (Stand.of_body Bd) (by rw [← hh, Bd.state]; rfl)
  exact ⟨U, o, castTop (hef m) h1, h2⟩
/-! returns -/
theorem own_retN (X : Stand p l e R s m args below meth c T locs cells slots) (hx : p.tables.exec = Jvm.exec) (hlk : meth.locks = false) {t : FieldType} (hret : meth.sig.returnType = some t) (ht : t = .boolean ∨ t = .byte ∨ t = .char ∨ t = .short) {pc : Nat} {Ls : Array Slot} {z z' : Int32} {rest : List Value}
    (hd : decode c.code pc = .ok (.ireturn, 1)) (hz : nar t z = z') (hc : cells ≤ cm) (hs : slots ≤ sm) (hQ : Q (some (.int z')) T.heap locs) : own_Go p e s below Q cm sm T (mkF m pc Ls (.int z :: rest)) := by
  subst hz
  obtain ⟨fs, hr, hrun, hended, hW, hsame⟩ := X.leave (v := some (.int (nar t z))) (fun h => by rw [hret] at h; cases h) hlk
  exact ⟨_, _, retN X hx hret ht hd hr, hrun, hended, _, _, rfl, hQ, ⟨_, rfl⟩, hW, hsame.mono hc hs⟩
theorem own_retI (X : Stand p l e R s m args below meth c T locs cells slots) (hx : p.tables.exec = Jvm.exec) (hlk : meth.locks = false) (hret : meth.sig.returnType = some .int) {pc : Nat} {Ls : Array Slot} {z : Int32} {rest : List Value}
    (hd : decode c.code pc = .ok (.ireturn, 1)) (hc : cells ≤ cm) (hs : slots ≤ sm) (hQ : Q (some (.int z)) T.heap locs) : own_Go p e s below Q cm sm T (mkF m pc Ls (.int z :: rest)) := by
  obtain ⟨fs, hr, hrun, hended, hW, hsame⟩ := X.leave (v := some (.int z)) (fun h => by rw [hret] at h; cases h) hlk
  exact ⟨_, _, retOut X hx hret rfl (Or.inl ⟨rfl, Or.inl rfl, _, rfl⟩) hd hr, hrun, hended, _, _, rfl, hQ, ⟨_, rfl⟩, hW, hsame.mono hc hs⟩
theorem own_retJ (X : Stand p l e R s m args below meth c T locs cells slots) (hx : p.tables.exec = Jvm.exec) (hlk : meth.locks = false) (hret : meth.sig.returnType = some .long) {pc : Nat} {Ls : Array Slot} {z : Int64} {rest : List Value}
    (hd : decode c.code pc = .ok (.lreturn, 1)) (hc : cells ≤ cm) (hs : slots ≤ sm) (hQ : Q (some (.long z)) T.heap locs) : own_Go p e s below Q cm sm T (mkF m pc Ls (.long z :: rest)) := by
  obtain ⟨fs, hr, hrun, hended, hW, hsame⟩ := X.leave (v := some (.long z)) (fun h => by rw [hret] at h; cases h) hlk
  exact ⟨_, _, retOut X hx hret rfl (Or.inr (Or.inl ⟨rfl, rfl, _, rfl⟩)) hd hr, hrun, hended, _, _, rfl, hQ, ⟨_, rfl⟩, hW, hsame.mono hc hs⟩
theorem own_retR (X : Stand p l e R s m args below meth c T locs cells slots) (hx : p.tables.exec = Jvm.exec) (hlk : meth.locks = false) {t : FieldType} (hret : meth.sig.returnType = some t) (ht : t.isReference = true) {pc : Nat} {Ls : Array Slot} {w : Value} (hw : w.isRef = true) (hn : narrow t w = w) {rest : List Value}
    (hd : decode c.code pc = .ok (.areturn, 1)) (hc : cells ≤ cm) (hs : slots ≤ sm) (hQ : Q (some w) T.heap locs) : own_Go p e s below Q cm sm T (mkF m pc Ls (w :: rest)) := by
  obtain ⟨fs, hr, hrun, hended, hW, hsame⟩ := X.leave (v := some w) (fun h => by rw [hret] at h; cases h) hlk
  exact ⟨_, _, retOut X hx hret hn (Or.inr (Or.inr (Or.inr (Or.inr ⟨rfl, ht, hw⟩)))) hd hr, hrun, hended, _, _, rfl, hQ, ⟨_, rfl⟩, hW, hsame.mono hc hs⟩
theorem own_ret0 (X : Stand p l e R s m args below meth c T locs cells slots) (hx : p.tables.exec = Jvm.exec) (hlk : meth.locks = false) (hret : meth.sig.returnType = none) {pc : Nat} {Ls : Array Slot}
    (hd : decode c.code pc = .ok (.return_, 1)) (hc : cells ≤ cm) (hs : slots ≤ sm) (hQ : Q none T.heap locs) : own_Go p e s below Q cm sm T (mkF m pc Ls []) := by
  obtain ⟨fs, hr, hrun, hended, hW, hsame⟩ := X.leave (v := none) (fun _ => rfl) hlk
  exact ⟨_, _, X.returnOut hx hret hd hr, hrun, hended, _, _, rfl, hQ, ⟨_, rfl⟩, hW, hsame.mono hc hs⟩
/-! calls by the callee's contract -/
theorem own_callS (X : Stand p l e R s m args below meth c T locs cells slots) (hx : p.tables.exec = Jvm.exec) (hZ : Z.Warmed39 s.vm) {own : String} {index : Nat} {y : MethodName} {bytes : ByteArray} {maxL : Nat} {ret : Option FieldType} (hown : s.vm.findClass own = some m.cls)
    (w1 : (Jvm.Cond.methodLink own index y).before a0 Z = true) (w2 : (Jvm.Cond.static y).before a0 Z = true) (w3 : (Jvm.Cond.initialized y.cls).before a0 Z = true) (w4 : (Jvm.Cond.code y bytes maxL ret).before a0 Z = true)
    (hy : y.cls ≠ "java/lang/invoke/MethodHandle" ∧ y.cls ≠ "java/lang/invoke/VarHandle") {rm : Room} {as : Array Value} {Qc : Option Value → Heap → List Loc → Prop} (eT : T.heap = h)
    (hM : own_Met l Z y bytes maxL ret rm [] as h Qc rm.cells rm.slots) (W : Nat) (hf : rm.frames + 1 ≤ R.frames) (hl : W + (maxL + 11) + rm.locals ≤ R.locals)
    {g : JFrame} (hg : g.method = m) (hsize : g.locals.size = c.maxLocals) {argsL rest : List Value} {ps : List FieldType} {r : Option FieldType} (hpd : parseMethodDescriptor y.desc = some ⟨ps, r⟩) (hlen : argsL.length = ps.length) (has : argsL.toArray = as)
    (hstack : g.stack = argsL.reverse ++ rest) (hW : 2 * g.monitorRoom + (rest.map fun v => v.category).sum ≤ W) (hdg : decode c.code g.pc = .ok (.invokestatic index, 3)) (hc : cells + rm.cells ≤ R.cells) (hs : slots + rm.slots ≤ R.slots)
    (k : ∀ (T' : State) (v : Option Value) (Lc : List Loc), Stand p l e R s m args below meth c T' (locs ++ Lc) (cells + rm.cells) (slots + rm.slots) → Qc v T'.heap Lc → own_Go p e s below Q cm sm T' { g with pc := g.pc + 3, stack := v.toList ++ rest }) :
    own_Go p e s below Q cm sm T g := by
  obtain ⟨v, _, ⟨T', L', k', n'⟩, -, X', ⟨Lc, hQ, l1, y1, z1⟩, st⟩ := Jvm.LawKit.callS X hx (y := y) hown (mvT hZ w1) (mvT hZ w2) (mvT hZ w3) (mvT hZ w4) hy (backOf (W := W) hM hZ w4 w3 hf hl) hg hsize (argsL := argsL) (rest := rest) (lenOf hpd hlen) hstack hW hdg (fun _ _ => ⟨has, eT, hc, hs⟩)
  dsimp only [Pt.U, Pt.locs, Pt.cells, Pt.slots] at X' l1 y1 z1 st hQ
  subst l1 y1 z1
  exact own_st st (k T' v Lc X' hQ)
theorem own_callN (X : Stand p l e R s m args below meth c T locs cells slots) (hx : p.tables.exec = Jvm.exec) (hZ : Z.Warmed39 s.vm) {own : String} {index : Nat} {y : MethodName} {bytes : ByteArray} {maxL : Nat} (hy1 : y.name = "<init>") (hown : s.vm.findClass own = some m.cls)
    (w1 : (Jvm.Cond.methodLink own index y).before a0 Z = true) (w2 : (Jvm.Cond.instanceMethod y).before a0 Z = true) (w3 : (Jvm.Cond.initialized y.cls).before a0 Z = true) (w4 : (Jvm.Cond.code y bytes maxL none).before a0 Z = true)
    (hy : y.cls ≠ "java/lang/invoke/MethodHandle" ∧ y.cls ≠ "java/lang/invoke/VarHandle") {rm : Room} {as : Array Value} {Qc : Option Value → Heap → List Loc → Prop} (eT : T.heap = h)
    (hM : own_Met l Z y bytes maxL none rm [] as h Qc rm.cells rm.slots) (W : Nat) (hf : rm.frames + 1 ≤ R.frames) (hl : W + (maxL + 11) + rm.locals ≤ R.locals)
    {g : JFrame} (hg : g.method = m) (hsize : g.locals.size = c.maxLocals) {a : Addr} {argsL rest : List Value} {ps : List FieldType} {r : Option FieldType} (hpd : parseMethodDescriptor y.desc = some ⟨ps, r⟩) (hlen : argsL.length = ps.length) (has : (Value.ref a :: argsL).toArray = as)
    (hstack : g.stack = argsL.reverse ++ .ref a :: rest) (hW : 2 * g.monitorRoom + (rest.map fun v => v.category).sum ≤ W) (hdg : decode c.code g.pc = .ok (.invokespecial index, 3)) (hc : cells + rm.cells ≤ R.cells) (hs : slots + rm.slots ≤ R.slots)
    (k : ∀ (T' : State) (v : Option Value) (Lc : List Loc), Stand p l e R s m args below meth c T' (locs ++ Lc) (cells + rm.cells) (slots + rm.slots) → Qc v T'.heap Lc → own_Go p e s below Q cm sm T' { g with pc := g.pc + 3, stack := v.toList ++ rest }) :
    own_Go p e s below Q cm sm T g := by
  obtain ⟨v, _, ⟨T', L', k', n'⟩, -, X', ⟨Lc, hQ, l1, y1, z1⟩, st⟩ := X.specialBack hx (y := y) hy1 hown (mvT hZ w1) (mvT hZ w2) (mvT hZ w4) hy (backOf (W := W) hM hZ w4 w3 hf hl) hg hsize (Steps.refl _) (a := a) (argsL := argsL) (rest := rest) (lenOf hpd hlen) hstack hW hdg (fun _ _ => ⟨has, eT, hc, hs⟩)
  dsimp only [Pt.U, Pt.locs, Pt.cells, Pt.slots] at X' l1 y1 z1 st hQ
  subst l1 y1 z1
  exact own_st (fun _ q => st.trans q) (k T' v Lc X' hQ)
theorem own_callV (X : Stand p l e R s m args below meth c T locs cells slots) (hx : p.tables.exec = Jvm.exec) (hZ : Z.Warmed39 s.vm) {own C : String} {index : Nat} {y : MethodName} {bytes : ByteArray} {maxL : Nat} {ret : Option FieldType} (hown : s.vm.findClass own = some m.cls)
    (w1 : (Jvm.Cond.methodLink own index y).before a0 Z = true) (w2 : (Jvm.Cond.declares y).before a0 Z = true) (w5 : (Jvm.Cond.selects C y y).before a0 Z = true) (w6 : (Jvm.Cond.instanceMethod y).before a0 Z = true) (w3 : (Jvm.Cond.initialized y.cls).before a0 Z = true) (w4 : (Jvm.Cond.code y bytes maxL ret).before a0 Z = true)
    (hy : y.cls ≠ "java/lang/invoke/MethodHandle" ∧ y.cls ≠ "java/lang/invoke/VarHandle") {rm : Room} {as : Array Value} {Qc : Option Value → Heap → List Loc → Prop} (eT : T.heap = h)
    (hM : own_Met l Z y bytes maxL ret rm [] as h Qc rm.cells rm.slots) (W : Nat) (hf : rm.frames + 1 ≤ R.frames) (hl : W + (maxL + 11) + rm.locals ≤ R.locals) {a : Addr} (E : Exa Z h a C)
    {g : JFrame} (hg : g.method = m) (hsize : g.locals.size = c.maxLocals) {argsL rest : List Value} {ps : List FieldType} {r : Option FieldType} (hpd : parseMethodDescriptor y.desc = some ⟨ps, r⟩) (hlen : argsL.length = ps.length) (has : (Value.ref a :: argsL).toArray = as)
    (hstack : g.stack = argsL.reverse ++ .ref a :: rest) (hW : 2 * g.monitorRoom + (rest.map fun v => v.category).sum ≤ W) (hdg : decode c.code g.pc = .ok (.invokevirtual index, 3)) (hc : cells + rm.cells ≤ R.cells) (hs : slots + rm.slots ≤ R.slots)
    (k : ∀ (T' : State) (v : Option Value) (Lc : List Loc), Stand p l e R s m args below meth c T' (locs ++ Lc) (cells + rm.cells) (slots + rm.slots) → Qc v T'.heap Lc → own_Go p e s below Q cm sm T' { g with pc := g.pc + 3, stack := v.toList ++ rest }) :
    own_Go p e s below Q cm sm T g := by
  obtain ⟨cq, kq, qa, qb, qc⟩ := isOf hZ eT E
  obtain ⟨v, _, ⟨T', L', k', n'⟩, -, X', ⟨Lc, hQ, l1, y1, z1⟩, st⟩ := X.virtualBack hx (y := y) (z := y) hown (mvT hZ w1) (mvT hZ w2) (notFace_of_selects (args := #[]) (mvT hZ w5)) (mvT hZ w5) (mvT hZ w6) hy (backOf (W := W) hM hZ w4 w3 hf hl) qa qc hg hsize (Steps.refl _) (argsL := argsL) (rest := rest) (lenOf hpd hlen) hstack hW hdg (fun _ _ => ⟨has, eT, hc, hs⟩)
  dsimp only [Pt.U, Pt.locs, Pt.cells, Pt.slots] at X' l1 y1 z1 st hQ
  subst l1 y1 z1
  exact own_st (fun _ q => st.trans q) (k T' v Lc X' hQ)
/-! arrays by the list of their values -/
theorem own_ix {n j : Int32} {vs : List Value} {d : Value} {a : Addr} {k : ClassId} {ty : FieldType} (V : Arv Z h a k ty n vs d) (hj : ¬ j < 0 ∧ j < n) : ∃ cl : Cell, Arr Z h a cl ty ∧ ¬ (j < 0 ∨ cl.slots.size ≤ j.toNatClampNeg) ∧ cl.slots[j.toNatClampNeg]? = some (vs.getD j.toNatClampNeg d) := by
  obtain ⟨cl, A, -, S, N, H, -⟩ := V
  have q := inb_of S hj
  exact ⟨cl, A, q, H _ (Nat.lt_of_not_le fun y => q (Or.inr y))⟩
theorem own_len (X : Stand p l e R s m args below meth c T locs cells slots) (hx : p.tables.exec = Jvm.exec) (hZ : Z.Warmed39 s.vm) (eT : T.heap = h) {a : Addr} {k : ClassId} {ty : FieldType} {n : Int32} {vs : List Value} {d : Value} (V : Arv Z h a k ty n vs d)
    {g : JFrame} (hg : g.method = m) {rest : List Value} (hs : g.stack = .ref a :: rest) (hd : decode c.code g.pc = .ok (.arraylength, 1)) :
    ∀ t, Steps p.tables e below (T.setTop { g with pc := g.pc + 1, stack := .int n :: rest }) t → Steps p.tables e below (T.setTop g) t := by
  obtain ⟨cl, A, -, S, N, -, -⟩ := V
  intro t k
  refine X.arraylength hx (by rw [eT]; exact A.1) (State.isArrayOf_alike hZ.alike A.2.1) hg hs hd t ?_
  rw [len_of S N]; exact k
theorem own_ldI (X : Stand p l e R s m args below meth c T locs cells slots) (hx : p.tables.exec = Jvm.exec) (hZ : Z.Warmed39 s.vm) (eT : T.heap = h) {a : Addr} {k : ClassId} {n : Int32} {vs : List Value} {d : Value} (V : Arv Z h a k .int n vs d) {j x : Int32} (hj : ¬ j < 0 ∧ j < n) (hv : vs.getD j.toNatClampNeg d = .int x)
    {g : JFrame} (hg : g.method = m) {rest : List Value} (hs : g.stack = .int j :: .ref a :: rest) (hd : decode c.code g.pc = .ok (.iaload, 1)) :
    ∀ t, Steps p.tables e below (T.setTop { g with pc := g.pc + 1, stack := .int x :: rest }) t → Steps p.tables e below (T.setTop g) t := by
  obtain ⟨cl, A, q, H⟩ := own_ix V hj
  exact X.iaload hx (j := j) (v := .int x) (by rw [eT]; exact A.1) (State.isArrayOf_alike hZ.alike A.2.1) A.2.2 q (hv ▸ H) hg hs hd
theorem own_ldB (X : Stand p l e R s m args below meth c T locs cells slots) (hx : p.tables.exec = Jvm.exec) (hZ : Z.Warmed39 s.vm) (eT : T.heap = h) {a : Addr} {k : ClassId} {n : Int32} {vs : List Value} {d : Value} (V : Arv Z h a k .byte n vs d) {j x : Int32} (hj : ¬ j < 0 ∧ j < n) (hv : vs.getD j.toNatClampNeg d = .int x)
    {g : JFrame} (hg : g.method = m) {rest : List Value} (hs : g.stack = .int j :: .ref a :: rest) (hd : decode c.code g.pc = .ok (.baload, 1)) :
    ∀ t, Steps p.tables e below (T.setTop { g with pc := g.pc + 1, stack := .int x :: rest }) t → Steps p.tables e below (T.setTop g) t := by
  obtain ⟨cl, A, q, H⟩ := own_ix V hj
  exact X.baloadBytes hx (j := j) (v := .int x) (by rw [eT]; exact A.1) (State.isArrayOf_alike hZ.alike A.2.1) A.2.2 q (hv ▸ H) hg hs hd
theorem own_ldJ (X : Stand p l e R s m args below meth c T locs cells slots) (hx : p.tables.exec = Jvm.exec) (hZ : Z.Warmed39 s.vm) (eT : T.heap = h) {a : Addr} {k : ClassId} {n : Int32} {vs : List Value} {d : Value} (V : Arv Z h a k .long n vs d) {j : Int32} {x : Int64} (hj : ¬ j < 0 ∧ j < n) (hv : vs.getD j.toNatClampNeg d = .long x)
    {g : JFrame} (hg : g.method = m) {rest : List Value} (hs : g.stack = .int j :: .ref a :: rest) (hd : decode c.code g.pc = .ok (.laload, 1)) :
    ∀ t, Steps p.tables e below (T.setTop { g with pc := g.pc + 1, stack := .long x :: rest }) t → Steps p.tables e below (T.setTop g) t := by
  obtain ⟨cl, A, q, H⟩ := own_ix V hj
  exact X.laload hx (j := j) (v := .long x) (by rw [eT]; exact A.1) (State.isArrayOf_alike hZ.alike A.2.1) A.2.2 q (hv ▸ H) hg hs hd
theorem own_stI (X : Stand p l e R s m args below meth c T locs cells slots) (hx : p.tables.exec = Jvm.exec) (hZ : Z.Warmed39 s.vm) (eT : T.heap = h) {a : Addr} {k : ClassId} {n : Int32} {vs : List Value} {d : Value} (V : Arv Z h a k .int n vs d) {j x : Int32} (hj : ¬ j < 0 ∧ j < n) (hl : j.toNatClampNeg < vs.length)
    {g : JFrame} (hg : g.method = m) {rest : List Value} (hs : g.stack = .int x :: .int j :: .ref a :: rest) (hd : decode c.code g.pc = .ok (.iastore, 1)) :
    ∃ T' h', Stand p l e R s m args below meth c T' (locs ++ [⟨a, j.toNatClampNeg⟩]) cells slots ∧ T'.heap = h' ∧ Wr h h' a j.toNatClampNeg (.int x) ∧ Arv Z h' a k .int n (vs.set j.toNatClampNeg (.int x)) d ∧ ∀ t, Steps p.tables e below (T'.setTop { g with pc := g.pc + 1, stack := rest }) t → Steps p.tables e below (T.setTop g) t := by
  obtain ⟨cl, A, q1, S, N, H, G⟩ := V
  obtain ⟨T', h', X', e', W, st⟩ := stI X hx hZ eT A (j := j) (inb_of S hj) hg hs hd
  exact ⟨T', h', X', e', W, Arv.set A q1 S N H G rfl W _ rfl hl, st⟩
theorem own_stJ (X : Stand p l e R s m args below meth c T locs cells slots) (hx : p.tables.exec = Jvm.exec) (hZ : Z.Warmed39 s.vm) (eT : T.heap = h) {a : Addr} {k : ClassId} {n : Int32} {vs : List Value} {d : Value} (V : Arv Z h a k .long n vs d) {j : Int32} {x : Int64} (hj : ¬ j < 0 ∧ j < n) (hl : j.toNatClampNeg < vs.length)
    {g : JFrame} (hg : g.method = m) {rest : List Value} (hs : g.stack = .long x :: .int j :: .ref a :: rest) (hd : decode c.code g.pc = .ok (.lastore, 1)) :
    ∃ T' h', Stand p l e R s m args below meth c T' (locs ++ [⟨a, j.toNatClampNeg⟩]) cells slots ∧ T'.heap = h' ∧ Wr h h' a j.toNatClampNeg (.long x) ∧ Arv Z h' a k .long n (vs.set j.toNatClampNeg (.long x)) d ∧ ∀ t, Steps p.tables e below (T'.setTop { g with pc := g.pc + 1, stack := rest }) t → Steps p.tables e below (T.setTop g) t := by
  obtain ⟨cl, A, q1, S, N, H, G⟩ := V
  obtain ⟨T', h', X', e', W, st⟩ := stJ X hx hZ eT A (j := j) (inb_of S hj) hg hs hd
  exact ⟨T', h', X', e', W, Arv.set A q1 S N H G rfl W _ rfl hl, st⟩
theorem own_stB (X : Stand p l e R s m args below meth c T locs cells slots) (hx : p.tables.exec = Jvm.exec) (hZ : Z.Warmed39 s.vm) (eT : T.heap = h) {a : Addr} {k : ClassId} {n : Int32} {vs : List Value} {d : Value} (V : Arv Z h a k .byte n vs d) {j x x' : Int32} (hj : ¬ j < 0 ∧ j < n) (hl : j.toNatClampNeg < vs.length) (hn : x.toInt8.toInt32 = x')
    {g : JFrame} (hg : g.method = m) {rest : List Value} (hs : g.stack = .int x :: .int j :: .ref a :: rest) (hd : decode c.code g.pc = .ok (.bastore, 1)) :
    ∃ T' h', Stand p l e R s m args below meth c T' (locs ++ [⟨a, j.toNatClampNeg⟩]) cells slots ∧ T'.heap = h' ∧ Wr h h' a j.toNatClampNeg (.int x') ∧ Arv Z h' a k .byte n (vs.set j.toNatClampNeg (.int x')) d ∧ ∀ t, Steps p.tables e below (T'.setTop { g with pc := g.pc + 1, stack := rest }) t → Steps p.tables e below (T.setTop g) t := by
  subst hn
  obtain ⟨cl, A, q1, S, N, H, G⟩ := V
  obtain ⟨T', h', X', e', W, st⟩ := stB X hx hZ eT A (j := j) (inb_of S hj) hg hs hd
  exact ⟨T', h', X', e', W, Arv.set A q1 S N H G (fits_nar_byte _) W _ rfl hl, st⟩
theorem own_ldR (X : Stand p l e R s m args below meth c T locs cells slots) (hx : p.tables.exec = Jvm.exec) (hZ : Z.Warmed39 s.vm) (eT : T.heap = h) {a : Addr} {k : ClassId} {ty : FieldType} {n : Int32} {vs : List Value} {d : Value} (V : Arv Z h a k ty n vs d) (hty : ty.isReference = true) {j : Int32} {v : Value} (hj : ¬ j < 0 ∧ j < n) (hv : vs.getD j.toNatClampNeg d = v)
    {g : JFrame} (hg : g.method = m) {rest : List Value} (hs : g.stack = .int j :: .ref a :: rest) (hd : decode c.code g.pc = .ok (.aaload, 1)) :
    ∀ t, Steps p.tables e below (T.setTop { g with pc := g.pc + 1, stack := v :: rest }) t → Steps p.tables e below (T.setTop g) t := by
  obtain ⟨cl, A, q, H⟩ := own_ix V hj
  exact X.aaload hx (j := j) (v := v) (by rw [eT]; exact A.1) (State.isArrayOf_alike hZ.alike A.2.1) hty A.2.2 q (hv ▸ H) hg hs hd
theorem own_stR (X : Stand p l e R s m args below meth c T locs cells slots) (hx : p.tables.exec = Jvm.exec) (hZ : Z.Warmed39 s.vm) (eT : T.heap = h) {a : Addr} {k : ClassId} {ty : FieldType} {n : Int32} {vs : List Value} {d : Value} (V : Arv Z h a k ty n vs d) (hty : ty.isReference = true) {v : Value} (F : ∀ cl : Cell, Arr Z h a cl ty → cl.cls = k → Sto Z h a v) (hf : fits ty v = true) {j : Int32} (hj : ¬ j < 0 ∧ j < n) (hl : j.toNatClampNeg < vs.length)
    {g : JFrame} (hg : g.method = m) {rest : List Value} (hs : g.stack = v :: .int j :: .ref a :: rest) (hd : decode c.code g.pc = .ok (.aastore, 1)) :
    ∃ T' h', Stand p l e R s m args below meth c T' (locs ++ [⟨a, j.toNatClampNeg⟩]) cells slots ∧ T'.heap = h' ∧ Wr h h' a j.toNatClampNeg v ∧ Arv Z h' a k ty n (vs.set j.toNatClampNeg v) d ∧ ∀ t, Steps p.tables e below (T'.setTop { g with pc := g.pc + 1, stack := rest }) t → Steps p.tables e below (T.setTop g) t := by
  obtain ⟨cl, A, q1, S, N, H, G⟩ := V
  obtain ⟨T', h', X', e', W, st⟩ := stR X hx hZ eT A (j := j) (inb_of S hj) hty (F cl A q1) hg hs hd
  exact ⟨T', h', X', e', W, Arv.set A q1 S N H G hf W _ rfl hl, st⟩
/-! booleans -/
def own_b (P : Prop) [Decidable P] : Int32 := if P then 1 else 0
theorem own_bt {P : Prop} [Decidable P] (q : P) : own_b P = 1 := if_pos q
theorem own_bf {P : Prop} [Decidable P] (q : ¬ P) : own_b P = 0 := if_neg q
theorem own_bnar {P : Prop} [Decidable P] : nar .boolean (own_b P) = own_b P := by
  by_cases q : P
  · rw [own_bt q]; decide
  · rw [own_bf q]; decide
theorem own_bnw {P : Prop} [Decidable P] : narrow .boolean (.int (own_b P)) = .int (own_b P) := congrArg Value.int (own_bnar (P := P))
theorem own_by {P : Prop} [Decidable P] (q : P) : ifCond.holds .ne (own_b P) = true ∧ ifCond.holds .eq (own_b P) = false := by rw [own_bt q]; decide
theorem own_bn {P : Prop} [Decidable P] (q : ¬ P) : ifCond.holds .eq (own_b P) = true ∧ ifCond.holds .ne (own_b P) = false := by rw [own_bf q]; decide
theorem own_beq {P P' : Prop} [Decidable P] [Decidable P'] (q : P ↔ P') : own_b P = own_b P' := by
  by_cases r : P
  · rw [own_bt r, own_bt (q.mp r)]
  · rw [own_bf r, own_bf fun x => r (q.mpr x)]
end OwnKit

theorem own_idem (x : Int32) : (x.toInt8.toInt32).toInt8.toInt32 = x.toInt8.toInt32 := by
  rw [← Int32.toInt_inj]
  have h1 := c_i2b x
  have h2 := c_i2b x.toInt8.toInt32
  omega
abbrev own_dg (d : Int32) : Prop := ¬ d < 48 ∧ ¬ 57 < d
abbrev own_in (k f n : Int32) : Prop := ¬ k < f ∧ k < f + n
def own_pow (e : Int32) : Int32 := if e = 0 then 1 else if e = 1 then 10 else if e = 2 then 100 else if e = 3 then 1000 else 10000
def own_part (k f n d : Int32) : Int32 := if own_in k f n ∧ own_dg d then (d - 48) * own_pow (((f + n) - 1) - k) else 0
def own_run (ds : List Int32) : Nat → Nat → Int32 → Int32
  | _, 0, acc => acc
  | i, r + 1, acc => if ds.getD i 0 - 48 < 0 ∨ 9 < ds.getD i 0 - 48 then -1 else own_run ds (i + 1) r (acc * 10 + (ds.getD i 0 - 48))
theorem own_it {n : Nat} (h : n ≤ 5) : n.toInt32.toInt = n := len_toInt (by omega)
theorem own_lt {F C j : Nat} (h : F + C ≤ 5) (hj : j < C) : (F + j).toInt32 < F.toInt32 + C.toInt32 := by
  have a := c_iadd F.toInt32 C.toInt32
  have b := own_it (n := F) (by omega)
  have c := own_it (n := C) (by omega)
  have d := own_it (n := F + j) (by omega)
  have r := rng32 (F.toInt32 + C.toInt32)
  rw [Int32.lt_iff_toInt_lt]
  omega
theorem own_nlt {F C : Nat} (h : F + C ≤ 5) : ¬ (F + C).toInt32 < F.toInt32 + C.toInt32 := by
  have a := c_iadd F.toInt32 C.toInt32
  have b := own_it (n := F) (by omega)
  have c := own_it (n := C) (by omega)
  have d := own_it (n := F + C) (by omega)
  have r := rng32 (F.toInt32 + C.toInt32)
  rw [Int32.lt_iff_toInt_lt]
  omega
theorem own_up (j : Nat) (h : j < 5) : j.toInt32 + 1 = (j + 1).toInt32 := by
  have a := c_iadd j.toInt32 1
  have b := own_it (n := j) (by omega)
  have d := own_it (n := j + 1) (by omega)
  have r := rng32 (j.toInt32 + 1)
  have l : (1 : Int32).toInt = 1 := by decide
  rw [← Int32.toInt_inj]
  omega
theorem own_ix5 {j : Nat} (h : j < 5) : (¬ j.toInt32 < 0 ∧ j.toInt32 < (5 : Int32)) ∧ j.toInt32.toNatClampNeg = j := by
  have b := own_it (n := j) (by omega)
  have l : (5 : Int32).toInt = 5 := by decide
  have z : (0 : Int32).toInt = 0 := by decide
  refine ⟨⟨?_, ?_⟩, ?_⟩
  · rw [Int32.lt_iff_toInt_lt]; omega
  · rw [Int32.lt_iff_toInt_lt]; omega
  · rw [Int32.toNatClampNeg, b]; rfl
theorem own_gd (ds : List Int32) (i : Nat) : (ds.map Value.int).getD i (.int 0) = .int (ds.getD i 0) := by
  induction ds generalizing i with
  | nil => rfl
  | cons d ds ih => cases i with
    | zero => rfl
    | succ i => exact ih i
theorem own_c (y : Int32) : ∃ C : Nat, C ≤ 5 ∧ ((y &&& (2147483647 : Int32)) % (6 : Int32)) = C.toInt32 := by
  have m := c_mask y 2147483647 31 (by decide) (by decide)
  have m1 := (c_irem (y &&& (2147483647 : Int32)) 6 6 (by decide)).1 (by omega)
  refine ⟨((y &&& (2147483647 : Int32)) % (6 : Int32)).toInt.toNat, by omega, ?_⟩
  rw [← Int32.toInt_inj, own_it (by omega)]
  omega
theorem own_f (y : Int32) {C : Nat} (h : C ≤ 5) : ((6 : Int32) - C.toInt32 ≠ 0) ∧ ∃ F : Nat, F + C ≤ 5 ∧ ((y &&& (255 : Int32)) % ((6 : Int32) - C.toInt32)) = F.toInt32 := by
  have m := c_mask y 255 8 (by decide) (by decide)
  have s := c_isub 6 C.toInt32
  have b := own_it h
  have l : (6 : Int32).toInt = 6 := by decide
  have z : (0 : Int32).toInt = 0 := by decide
  have r := rng32 ((6 : Int32) - C.toInt32)
  have e : ((6 : Int32) - C.toInt32).toInt = 6 - C := by omega
  have m1 := (c_iremV (y &&& (255 : Int32)) ((6 : Int32) - C.toInt32)).1 (by omega) (by omega)
  refine ⟨fun q => ?_, ((y &&& (255 : Int32)) % ((6 : Int32) - C.toInt32)).toInt.toNat, by omega, ?_⟩
  · rw [q] at e; omega
  · rw [← Int32.toInt_inj, own_it (by omega)]
    omega
theorem d1_0 : decode method_3_code 0 = .ok (.iload_n 0, 1) := by decide +kernel
theorem d1_1 : decode method_3_code 1 = .ok (.sipush 256, 3) := by decide +kernel
theorem d1_4 : decode method_3_code 4 = .ok (.iand, 1) := by decide +kernel
theorem d1_5 : decode method_3_code 5 = .ok (.ifCond .eq 18, 3) := by decide +kernel
theorem d1_8 : decode method_3_code 8 = .ok (.bipush 48, 2) := by decide +kernel
theorem d1_10 : decode method_3_code 10 = .ok (.iload_n 0, 1) := by decide +kernel
theorem d1_11 : decode method_3_code 11 = .ok (.sipush 255, 3) := by decide +kernel
theorem d1_14 : decode method_3_code 14 = .ok (.iand, 1) := by decide +kernel
theorem d1_15 : decode method_3_code 15 = .ok (.bipush 10, 2) := by decide +kernel
theorem d1_17 : decode method_3_code 17 = .ok (.irem, 1) := by decide +kernel
theorem d1_18 : decode method_3_code 18 = .ok (.iadd, 1) := by decide +kernel
theorem d1_19 : decode method_3_code 19 = .ok (.i2b, 1) := by decide +kernel
theorem d1_20 : decode method_3_code 20 = .ok (.goto 5, 3) := by decide +kernel
theorem d1_23 : decode method_3_code 23 = .ok (.iload_n 0, 1) := by decide +kernel
theorem d1_24 : decode method_3_code 24 = .ok (.i2b, 1) := by decide +kernel
theorem d1_25 : decode method_3_code 25 = .ok (.ireturn, 1) := by decide +kernel
theorem pf1 : plainFor (⟨"com/example/phonomark/phonomark/Iso2709RecordDigitsPinLaw", "draw", "(I)B"⟩ : MethodName) = true := by first | (exact plainFor_of_name (by first | (simp [plainName, overriddenIn]; done) | decide +kernel)) | decide +kernel
theorem d2_0 : decode method_6_code 0 = .ok (.iload_n 1, 1) := by decide +kernel
theorem d2_1 : decode method_6_code 1 = .ok (.iload_n 2, 1) := by decide +kernel
theorem d2_2 : decode method_6_code 2 = .ok (.iload_n 3, 1) := by decide +kernel
theorem d2_3 : decode method_6_code 3 = .ok (.invokestatic 28, 3) := by decide +kernel
theorem d2_6 : decode method_6_code 6 = .ok (.ifCond .eq 16, 3) := by decide +kernel
theorem d2_9 : decode method_6_code 9 = .ok (.aload_n 0, 1) := by decide +kernel
theorem d2_10 : decode method_6_code 10 = .ok (.iload_n 1, 1) := by decide +kernel
theorem d2_11 : decode method_6_code 11 = .ok (.baload, 1) := by decide +kernel
theorem d2_12 : decode method_6_code 12 = .ok (.invokestatic 32, 3) := by decide +kernel
theorem d2_15 : decode method_6_code 15 = .ok (.ifCond .ne 7, 3) := by decide +kernel
theorem d2_18 : decode method_6_code 18 = .ok (.iconst 1, 1) := by decide +kernel
theorem d2_19 : decode method_6_code 19 = .ok (.goto 4, 3) := by decide +kernel
theorem d2_22 : decode method_6_code 22 = .ok (.iconst 0, 1) := by decide +kernel
theorem d2_23 : decode method_6_code 23 = .ok (.ireturn, 1) := by decide +kernel
theorem pf2 : plainFor (⟨"com/example/phonomark/phonomark/Iso2709RecordDigitsPinLaw", "bad", "([BIII)Z"⟩ : MethodName) = true := by first | (exact plainFor_of_name (by first | (simp [plainName, overriddenIn]; done) | decide +kernel)) | decide +kernel
theorem d3_0 : decode method_4_code 0 = .ok (.iload_n 1, 1) := by decide +kernel
theorem d3_1 : decode method_4_code 1 = .ok (.iload_n 0, 1) := by decide +kernel
theorem d3_2 : decode method_4_code 2 = .ok (.if_icmp .gt 14, 3) := by decide +kernel
theorem d3_5 : decode method_4_code 5 = .ok (.iload_n 0, 1) := by decide +kernel
theorem d3_6 : decode method_4_code 6 = .ok (.iload_n 1, 1) := by decide +kernel
theorem d3_7 : decode method_4_code 7 = .ok (.iload_n 2, 1) := by decide +kernel
theorem d3_8 : decode method_4_code 8 = .ok (.iadd, 1) := by decide +kernel
theorem d3_9 : decode method_4_code 9 = .ok (.if_icmp .ge 7, 3) := by decide +kernel
theorem d3_12 : decode method_4_code 12 = .ok (.iconst 1, 1) := by decide +kernel
theorem d3_13 : decode method_4_code 13 = .ok (.goto 4, 3) := by decide +kernel
theorem d3_16 : decode method_4_code 16 = .ok (.iconst 0, 1) := by decide +kernel
theorem d3_17 : decode method_4_code 17 = .ok (.ireturn, 1) := by decide +kernel
theorem pf3 : plainFor (⟨"com/example/phonomark/phonomark/Iso2709RecordDigitsPinLaw", "inRange", "(III)Z"⟩ : MethodName) = true := by first | (exact plainFor_of_name (by first | (simp [plainName, overriddenIn]; done) | decide +kernel)) | decide +kernel
theorem d4_0 : decode method_7_code 0 = .ok (.iload_n 1, 1) := by decide +kernel
theorem d4_1 : decode method_7_code 1 = .ok (.iload_n 2, 1) := by decide +kernel
theorem d4_2 : decode method_7_code 2 = .ok (.iload_n 3, 1) := by decide +kernel
theorem d4_3 : decode method_7_code 3 = .ok (.invokestatic 28, 3) := by decide +kernel
theorem d4_6 : decode method_7_code 6 = .ok (.ifCond .eq 12, 3) := by decide +kernel
theorem d4_9 : decode method_7_code 9 = .ok (.aload_n 0, 1) := by decide +kernel
theorem d4_10 : decode method_7_code 10 = .ok (.iload_n 1, 1) := by decide +kernel
theorem d4_11 : decode method_7_code 11 = .ok (.baload, 1) := by decide +kernel
theorem d4_12 : decode method_7_code 12 = .ok (.invokestatic 32, 3) := by decide +kernel
theorem d4_15 : decode method_7_code 15 = .ok (.ifCond .ne 5, 3) := by decide +kernel
theorem d4_18 : decode method_7_code 18 = .ok (.iconst 0, 1) := by decide +kernel
theorem d4_19 : decode method_7_code 19 = .ok (.ireturn, 1) := by decide +kernel
theorem d4_20 : decode method_7_code 20 = .ok (.aload_n 0, 1) := by decide +kernel
theorem d4_21 : decode method_7_code 21 = .ok (.iload_n 1, 1) := by decide +kernel
theorem d4_22 : decode method_7_code 22 = .ok (.baload, 1) := by decide +kernel
theorem d4_23 : decode method_7_code 23 = .ok (.bipush 48, 2) := by decide +kernel
theorem d4_25 : decode method_7_code 25 = .ok (.isub, 1) := by decide +kernel
theorem d4_26 : decode method_7_code 26 = .ok (.iload_n 2, 1) := by decide +kernel
theorem d4_27 : decode method_7_code 27 = .ok (.iload_n 3, 1) := by decide +kernel
theorem d4_28 : decode method_7_code 28 = .ok (.iadd, 1) := by decide +kernel
theorem d4_29 : decode method_7_code 29 = .ok (.iconst 1, 1) := by decide +kernel
theorem d4_30 : decode method_7_code 30 = .ok (.isub, 1) := by decide +kernel
theorem d4_31 : decode method_7_code 31 = .ok (.iload_n 1, 1) := by decide +kernel
theorem d4_32 : decode method_7_code 32 = .ok (.isub, 1) := by decide +kernel
theorem d4_33 : decode method_7_code 33 = .ok (.invokestatic 36, 3) := by decide +kernel
theorem d4_36 : decode method_7_code 36 = .ok (.imul, 1) := by decide +kernel
theorem d4_37 : decode method_7_code 37 = .ok (.ireturn, 1) := by decide +kernel
theorem pf4 : plainFor (⟨"com/example/phonomark/phonomark/Iso2709RecordDigitsPinLaw", "part", "([BIII)I"⟩ : MethodName) = true := by first | (exact plainFor_of_name (by first | (simp [plainName, overriddenIn]; done) | decide +kernel)) | decide +kernel
theorem d5_0 : decode prog_20_method_20_code 0 = .ok (.iconst 0, 1) := by decide +kernel
theorem d5_1 : decode prog_20_method_20_code 1 = .ok (.istore_n 3, 1) := by decide +kernel
theorem d5_2 : decode prog_20_method_20_code 2 = .ok (.iload_n 1, 1) := by decide +kernel
theorem d5_3 : decode prog_20_method_20_code 3 = .ok (.istore 4, 2) := by decide +kernel
theorem d5_5 : decode prog_20_method_20_code 5 = .ok (.iload 4, 2) := by decide +kernel
theorem d5_7 : decode prog_20_method_20_code 7 = .ok (.iload_n 1, 1) := by decide +kernel
theorem d5_8 : decode prog_20_method_20_code 8 = .ok (.iload_n 2, 1) := by decide +kernel
theorem d5_9 : decode prog_20_method_20_code 9 = .ok (.iadd, 1) := by decide +kernel
theorem d5_10 : decode prog_20_method_20_code 10 = .ok (.if_icmp .ge 40, 3) := by decide +kernel
theorem d5_13 : decode prog_20_method_20_code 13 = .ok (.aload_n 0, 1) := by decide +kernel
theorem d5_14 : decode prog_20_method_20_code 14 = .ok (.iload 4, 2) := by decide +kernel
theorem d5_16 : decode prog_20_method_20_code 16 = .ok (.baload, 1) := by decide +kernel
theorem d5_17 : decode prog_20_method_20_code 17 = .ok (.bipush 48, 2) := by decide +kernel
theorem d5_19 : decode prog_20_method_20_code 19 = .ok (.isub, 1) := by decide +kernel
theorem d5_20 : decode prog_20_method_20_code 20 = .ok (.istore 5, 2) := by decide +kernel
theorem d5_22 : decode prog_20_method_20_code 22 = .ok (.iload 5, 2) := by decide +kernel
theorem d5_24 : decode prog_20_method_20_code 24 = .ok (.ifCond .lt 10, 3) := by decide +kernel
theorem d5_27 : decode prog_20_method_20_code 27 = .ok (.iload 5, 2) := by decide +kernel
theorem d5_29 : decode prog_20_method_20_code 29 = .ok (.bipush 9, 2) := by decide +kernel
theorem d5_31 : decode prog_20_method_20_code 31 = .ok (.if_icmp .le 5, 3) := by decide +kernel
theorem d5_34 : decode prog_20_method_20_code 34 = .ok (.iconst (-1), 1) := by decide +kernel
theorem d5_35 : decode prog_20_method_20_code 35 = .ok (.ireturn, 1) := by decide +kernel
theorem d5_36 : decode prog_20_method_20_code 36 = .ok (.iload_n 3, 1) := by decide +kernel
theorem d5_37 : decode prog_20_method_20_code 37 = .ok (.bipush 10, 2) := by decide +kernel
theorem d5_39 : decode prog_20_method_20_code 39 = .ok (.imul, 1) := by decide +kernel
theorem d5_40 : decode prog_20_method_20_code 40 = .ok (.iload 5, 2) := by decide +kernel
theorem d5_42 : decode prog_20_method_20_code 42 = .ok (.iadd, 1) := by decide +kernel
theorem d5_43 : decode prog_20_method_20_code 43 = .ok (.istore_n 3, 1) := by decide +kernel
theorem d5_44 : decode prog_20_method_20_code 44 = .ok (.iinc 4 1, 3) := by decide +kernel
theorem d5_47 : decode prog_20_method_20_code 47 = .ok (.goto (-42), 3) := by decide +kernel
theorem d5_50 : decode prog_20_method_20_code 50 = .ok (.iload_n 3, 1) := by decide +kernel
theorem d5_51 : decode prog_20_method_20_code 51 = .ok (.ireturn, 1) := by decide +kernel
theorem pf5 : plainFor (⟨"com/example/phonomark/phonomark/Iso2709Record", "digits", "([BII)I"⟩ : MethodName) = true := by first | (exact plainFor_of_name (by first | (simp [plainName, overriddenIn]; done) | decide +kernel)) | decide +kernel
theorem d6_0 : decode method_5_code 0 = .ok (.iload_n 0, 1) := by decide +kernel
theorem d6_1 : decode method_5_code 1 = .ok (.bipush 48, 2) := by decide +kernel
theorem d6_3 : decode method_5_code 3 = .ok (.if_icmp .lt 13, 3) := by decide +kernel
theorem d6_6 : decode method_5_code 6 = .ok (.iload_n 0, 1) := by decide +kernel
theorem d6_7 : decode method_5_code 7 = .ok (.bipush 57, 2) := by decide +kernel
theorem d6_9 : decode method_5_code 9 = .ok (.if_icmp .gt 7, 3) := by decide +kernel
theorem d6_12 : decode method_5_code 12 = .ok (.iconst 1, 1) := by decide +kernel
theorem d6_13 : decode method_5_code 13 = .ok (.goto 4, 3) := by decide +kernel
theorem d6_16 : decode method_5_code 16 = .ok (.iconst 0, 1) := by decide +kernel
theorem d6_17 : decode method_5_code 17 = .ok (.ireturn, 1) := by decide +kernel
theorem pf6 : plainFor (⟨"com/example/phonomark/phonomark/Iso2709RecordDigitsPinLaw", "isDigit", "(B)Z"⟩ : MethodName) = true := by first | (exact plainFor_of_name (by first | (simp [plainName, overriddenIn]; done) | decide +kernel)) | decide +kernel
theorem d7_0 : decode method_8_code 0 = .ok (.iload_n 0, 1) := by decide +kernel
theorem d7_1 : decode method_8_code 1 = .ok (.ifCond .ne 5, 3) := by decide +kernel
theorem d7_4 : decode method_8_code 4 = .ok (.iconst 1, 1) := by decide +kernel
theorem d7_5 : decode method_8_code 5 = .ok (.ireturn, 1) := by decide +kernel
theorem d7_6 : decode method_8_code 6 = .ok (.iload_n 0, 1) := by decide +kernel
theorem d7_7 : decode method_8_code 7 = .ok (.iconst 1, 1) := by decide +kernel
theorem d7_8 : decode method_8_code 8 = .ok (.if_icmp .ne 6, 3) := by decide +kernel
theorem d7_11 : decode method_8_code 11 = .ok (.bipush 10, 2) := by decide +kernel
theorem d7_13 : decode method_8_code 13 = .ok (.ireturn, 1) := by decide +kernel
theorem d7_14 : decode method_8_code 14 = .ok (.iload_n 0, 1) := by decide +kernel
theorem d7_15 : decode method_8_code 15 = .ok (.iconst 2, 1) := by decide +kernel
theorem d7_16 : decode method_8_code 16 = .ok (.if_icmp .ne 6, 3) := by decide +kernel
theorem d7_19 : decode method_8_code 19 = .ok (.bipush 100, 2) := by decide +kernel
theorem d7_21 : decode method_8_code 21 = .ok (.ireturn, 1) := by decide +kernel
theorem d7_22 : decode method_8_code 22 = .ok (.iload_n 0, 1) := by decide +kernel
theorem d7_23 : decode method_8_code 23 = .ok (.iconst 3, 1) := by decide +kernel
theorem d7_24 : decode method_8_code 24 = .ok (.if_icmp .ne 7, 3) := by decide +kernel
theorem d7_27 : decode method_8_code 27 = .ok (.sipush 1000, 3) := by decide +kernel
theorem d7_30 : decode method_8_code 30 = .ok (.ireturn, 1) := by decide +kernel
theorem d7_31 : decode method_8_code 31 = .ok (.sipush 10000, 3) := by decide +kernel
theorem d7_34 : decode method_8_code 34 = .ok (.ireturn, 1) := by decide +kernel
theorem pf7 : plainFor (⟨"com/example/phonomark/phonomark/Iso2709RecordDigitsPinLaw", "pow10", "(I)I"⟩ : MethodName) = true := by first | (exact plainFor_of_name (by first | (simp [plainName, overriddenIn]; done) | decide +kernel)) | decide +kernel
theorem pf0 : plainFor x = true := plainFor_of_name (by first | (simp [x, plainName, overriddenIn]; done) | decide +kernel)
theorem pd0 : parseMethodDescriptor "(I)B" = some ⟨[.int], some .byte⟩ := by decide +kernel
theorem pd1 : parseMethodDescriptor "(III)Z" = some ⟨[.int, .int, .int], some .boolean⟩ := by decide +kernel
theorem pd2 : parseMethodDescriptor "(B)Z" = some ⟨[.byte], some .boolean⟩ := by decide +kernel
theorem pd3 : parseMethodDescriptor "(I)I" = some ⟨[.int], some .int⟩ := by decide +kernel
theorem pd4 : parseMethodDescriptor "([BIII)Z" = some ⟨[(.array .byte), .int, .int, .int], some .boolean⟩ := by decide +kernel
theorem pd5 : parseMethodDescriptor "([BIII)I" = some ⟨[(.array .byte), .int, .int, .int], some .int⟩ := by decide +kernel
theorem pd6 : parseMethodDescriptor "([BII)I" = some ⟨[(.array .byte), .int, .int], some .int⟩ := by decide +kernel
theorem ef_rm1 (m : MethodId) (z0 : Int32) : entryFrame m #[(.int z0)] 1 = mkF m 0 #[.val (.int z0)] [] := by first | (simp [entryFrame, mkF, argsToLocals, Value.category]; done) | rfl
set_option maxRecDepth 65536 in
set_option maxHeartbeats 40000000 in
theorem rm1 (l : Launch) (Z : State) (a0 : Array Value) (hw : ∀ d ∈ tables_1, d.before a0 Z = true) (ws : List Jvm.Cond) (z : Int32) (h0 : Heap) (n0 : Nat) (Z0 : n0 ≤ h0.size)  :
    own_Met l Z (⟨"com/example/phonomark/phonomark/Iso2709RecordDigitsPinLaw", "draw", "(I)B"⟩ : MethodName) method_3_code 1 (some .byte) ({ frames := 0, cells := 0, slots := 0, locals := 0 } : Room) ws #[(.int z)] h0 (fun v h L => ∃ d : Int32, v = some (.int d) ∧ d.toInt8.toInt32 = d ∧ Fr n0 L ∧ h = h0) 0 0 := by
  refine own_enter pf1 (fun m => ef_rm1 m z) ?_
  intro p e s m below meth c T0 hx hby hml hown hnm hret hlk hZ X0 e0
  have N0 := Fr.nil n0
  show own_Go p e s below _ _ _ T0 (mkF m 0 #[.val (.int z)] [])
  refine own_st (fun _ k => XS.iloadN X0.here hx rfl (hb hby d1_0) rfl k) ?_
  show own_Go p e s below _ _ _ T0 (mkF m 1 #[.val (.int z)] [(.int z)])
  refine own_st (fun _ k => XS.sipush X0.here hx rfl (hb hby d1_1) k) ?_
  show own_Go p e s below _ _ _ T0 (mkF m 4 #[.val (.int z)] [(.int (256 : Int32)), (.int z)])
  refine own_st (fun _ k => XS.iand X0.here hx rfl (hb hby d1_4) rfl k) ?_
  show own_Go p e s below _ _ _ T0 (mkF m 5 #[.val (.int z)] [(.int (z &&& (256 : Int32)))])
  by_cases c5_1 : (z &&& (256 : Int32)) = (0 : Int32)
  · refine own_st (fun _ k => XS.ifYes X0.here hx rfl (pc0 := 5) (pc' := 23) rfl (hb hby d1_5) rfl ((if0 _ _).trans (teq c5_1).1) (by decide) (by decide) k) ?_
    show own_Go p e s below _ _ _ T0 (mkF m 23 #[.val (.int z)] [])
    refine own_st (fun _ k => XS.iloadN X0.here hx rfl (hb hby d1_23) rfl k) ?_
    show own_Go p e s below _ _ _ T0 (mkF m 24 #[.val (.int z)] [(.int z)])
    refine own_st (fun _ k => XS.i2b X0.here hx rfl (hb hby d1_24) rfl k) ?_
    show own_Go p e s below _ _ _ T0 (mkF m 25 #[.val (.int z)] [(.int (z.toInt8.toInt32))])
    exact own_retN X0 hx hlk (t := .byte) hret (by simp) (hb hby d1_25) (z' := (z.toInt8.toInt32)) (own_idem _) (by decide) (by decide) ⟨_, rfl, own_idem _, N0, e0⟩
  · refine own_st (fun _ k => XS.ifNo X0.here hx rfl (hb hby d1_5) rfl ((if0 _ _).trans (feq c5_1).1) k) ?_
    show own_Go p e s below _ _ _ T0 (mkF m 8 #[.val (.int z)] [])
    refine own_st (fun _ k => XS.bipush X0.here hx rfl (hb hby d1_8) k) ?_
    show own_Go p e s below _ _ _ T0 (mkF m 10 #[.val (.int z)] [(.int (48 : Int32))])
    refine own_st (fun _ k => XS.iloadN X0.here hx rfl (hb hby d1_10) rfl k) ?_
    show own_Go p e s below _ _ _ T0 (mkF m 11 #[.val (.int z)] [(.int z), (.int (48 : Int32))])
    refine own_st (fun _ k => XS.sipush X0.here hx rfl (hb hby d1_11) k) ?_
    show own_Go p e s below _ _ _ T0 (mkF m 14 #[.val (.int z)] [(.int (255 : Int32)), (.int z), (.int (48 : Int32))])
    refine own_st (fun _ k => XS.iand X0.here hx rfl (hb hby d1_14) rfl k) ?_
    show own_Go p e s below _ _ _ T0 (mkF m 15 #[.val (.int z)] [(.int (z &&& (255 : Int32))), (.int (48 : Int32))])
    refine own_st (fun _ k => XS.bipush X0.here hx rfl (hb hby d1_15) k) ?_
    show own_Go p e s below _ _ _ T0 (mkF m 17 #[.val (.int z)] [(.int (10 : Int32)), (.int (z &&& (255 : Int32))), (.int (48 : Int32))])
    refine own_st (fun _ k => Jvm.RoadKit.iremM X0 hx rfl (hb hby d1_17) rfl (by decide) k) ?_
    show own_Go p e s below _ _ _ T0 (mkF m 18 #[.val (.int z)] [(.int ((z &&& (255 : Int32)) % (10 : Int32))), (.int (48 : Int32))])
    refine own_st (fun _ k => XS.iadd X0.here hx rfl (hb hby d1_18) rfl k) ?_
    show own_Go p e s below _ _ _ T0 (mkF m 19 #[.val (.int z)] [(.int ((48 : Int32) + ((z &&& (255 : Int32)) % (10 : Int32))))])
    refine own_st (fun _ k => XS.i2b X0.here hx rfl (hb hby d1_19) rfl k) ?_
    show own_Go p e s below _ _ _ T0 (mkF m 20 #[.val (.int z)] [(.int (((48 : Int32) + ((z &&& (255 : Int32)) % (10 : Int32))).toInt8.toInt32))])
    refine own_st (fun _ k => XS.goto X0.here hx rfl (pc0 := 20) (pc' := 25) rfl (hb hby d1_20) (by decide) (by decide) k) ?_
    show own_Go p e s below _ _ _ T0 (mkF m 25 #[.val (.int z)] [(.int (((48 : Int32) + ((z &&& (255 : Int32)) % (10 : Int32))).toInt8.toInt32))])
    exact own_retN X0 hx hlk (t := .byte) hret (by simp) (hb hby d1_25) (z' := (((48 : Int32) + ((z &&& (255 : Int32)) % (10 : Int32))).toInt8.toInt32)) (own_idem _) (by decide) (by decide) ⟨_, rfl, own_idem _, N0, e0⟩
theorem ef_rm3 (m : MethodId) (z0 : Int32) (z1 : Int32) (z2 : Int32) : entryFrame m #[(.int z0), (.int z1), (.int z2)] 3 = mkF m 0 #[.val (.int z0), .val (.int z1), .val (.int z2)] [] := by first | (simp [entryFrame, mkF, argsToLocals, Value.category]; done) | rfl
set_option maxRecDepth 65536 in
set_option maxHeartbeats 40000000 in
theorem rm3 (l : Launch) (Z : State) (a0 : Array Value) (hw : ∀ d ∈ tables_1, d.before a0 Z = true) (ws : List Jvm.Cond) (k f n : Int32) (h0 : Heap) (n0 : Nat) (Z0 : n0 ≤ h0.size)  :
    own_Met l Z (⟨"com/example/phonomark/phonomark/Iso2709RecordDigitsPinLaw", "inRange", "(III)Z"⟩ : MethodName) method_4_code 3 (some .boolean) ({ frames := 0, cells := 0, slots := 0, locals := 0 } : Room) ws #[(.int k), (.int f), (.int n)] h0 (fun v h L => v = some (.int (own_b (own_in k f n))) ∧ Fr n0 L ∧ h = h0) 0 0 := by
  refine own_enter pf3 (fun m => ef_rm3 m k f n) ?_
  intro p e s m below meth c T0 hx hby hml hown hnm hret hlk hZ X0 e0
  have N0 := Fr.nil n0
  show own_Go p e s below _ _ _ T0 (mkF m 0 #[.val (.int k), .val (.int f), .val (.int n)] [])
  refine own_st (fun _ k => XS.iloadN X0.here hx rfl (hb hby d3_0) rfl k) ?_
  show own_Go p e s below _ _ _ T0 (mkF m 1 #[.val (.int k), .val (.int f), .val (.int n)] [(.int f)])
  refine own_st (fun _ k => XS.iloadN X0.here hx rfl (hb hby d3_1) rfl k) ?_
  show own_Go p e s below _ _ _ T0 (mkF m 2 #[.val (.int k), .val (.int f), .val (.int n)] [(.int k), (.int f)])
  by_cases c2_2 : k < f
  · refine own_st (fun _ k => XS.icmpYes X0.here hx rfl (pc0 := 2) (pc' := 16) rfl (hb hby d3_2) rfl (tlt c2_2).2.2.1 (by decide) (by decide) k) ?_
    show own_Go p e s below _ _ _ T0 (mkF m 16 #[.val (.int k), .val (.int f), .val (.int n)] [])
    refine own_st (fun _ k => XS.iconst X0.here hx rfl (hb hby d3_16) k) ?_
    show own_Go p e s below _ _ _ T0 (mkF m 17 #[.val (.int k), .val (.int f), .val (.int n)] [(.int (0 : Int32))])
    exact own_retN X0 hx hlk (t := .boolean) hret (by simp) (hb hby d3_17) (z' := (0 : Int32)) rfl (by decide) (by decide) ⟨by rw [own_bf (by simp [own_in, own_dg, c2_2])], N0, e0⟩
  · refine own_st (fun _ k => XS.icmpNo X0.here hx rfl (hb hby d3_2) rfl (flt c2_2).2.2.1 k) ?_
    show own_Go p e s below _ _ _ T0 (mkF m 5 #[.val (.int k), .val (.int f), .val (.int n)] [])
    refine own_st (fun _ k => XS.iloadN X0.here hx rfl (hb hby d3_5) rfl k) ?_
    show own_Go p e s below _ _ _ T0 (mkF m 6 #[.val (.int k), .val (.int f), .val (.int n)] [(.int k)])
    refine own_st (fun _ k => XS.iloadN X0.here hx rfl (hb hby d3_6) rfl k) ?_
    show own_Go p e s below _ _ _ T0 (mkF m 7 #[.val (.int k), .val (.int f), .val (.int n)] [(.int f), (.int k)])
    refine own_st (fun _ k => XS.iloadN X0.here hx rfl (hb hby d3_7) rfl k) ?_
    show own_Go p e s below _ _ _ T0 (mkF m 8 #[.val (.int k), .val (.int f), .val (.int n)] [(.int n), (.int f), (.int k)])
    refine own_st (fun _ k => XS.iadd X0.here hx rfl (hb hby d3_8) rfl k) ?_
    show own_Go p e s below _ _ _ T0 (mkF m 9 #[.val (.int k), .val (.int f), .val (.int n)] [(.int (f + n)), (.int k)])
    by_cases c9_3 : k < (f + n)
    · refine own_st (fun _ k => XS.icmpNo X0.here hx rfl (hb hby d3_9) rfl (tlt c9_3).2.1 k) ?_
      show own_Go p e s below _ _ _ T0 (mkF m 12 #[.val (.int k), .val (.int f), .val (.int n)] [])
      refine own_st (fun _ k => XS.iconst X0.here hx rfl (hb hby d3_12) k) ?_
      show own_Go p e s below _ _ _ T0 (mkF m 13 #[.val (.int k), .val (.int f), .val (.int n)] [(.int (1 : Int32))])
      refine own_st (fun _ k => XS.goto X0.here hx rfl (pc0 := 13) (pc' := 17) rfl (hb hby d3_13) (by decide) (by decide) k) ?_
      show own_Go p e s below _ _ _ T0 (mkF m 17 #[.val (.int k), .val (.int f), .val (.int n)] [(.int (1 : Int32))])
      exact own_retN X0 hx hlk (t := .boolean) hret (by simp) (hb hby d3_17) (z' := (1 : Int32)) rfl (by decide) (by decide) ⟨by rw [own_bt (by simp [own_in, own_dg, c2_2, c9_3])], N0, e0⟩
    · refine own_st (fun _ k => XS.icmpYes X0.here hx rfl (pc0 := 9) (pc' := 16) rfl (hb hby d3_9) rfl (flt c9_3).2.1 (by decide) (by decide) k) ?_
      show own_Go p e s below _ _ _ T0 (mkF m 16 #[.val (.int k), .val (.int f), .val (.int n)] [])
      refine own_st (fun _ k => XS.iconst X0.here hx rfl (hb hby d3_16) k) ?_
      show own_Go p e s below _ _ _ T0 (mkF m 17 #[.val (.int k), .val (.int f), .val (.int n)] [(.int (0 : Int32))])
      exact own_retN X0 hx hlk (t := .boolean) hret (by simp) (hb hby d3_17) (z' := (0 : Int32)) rfl (by decide) (by decide) ⟨by rw [own_bf (by simp [own_in, own_dg, c2_2, c9_3])], N0, e0⟩
theorem ef_rm6 (m : MethodId) (z0 : Int32) : entryFrame m #[(.int z0)] 1 = mkF m 0 #[.val (.int z0)] [] := by first | (simp [entryFrame, mkF, argsToLocals, Value.category]; done) | rfl
set_option maxRecDepth 65536 in
set_option maxHeartbeats 40000000 in
theorem rm6 (l : Launch) (Z : State) (a0 : Array Value) (hw : ∀ d ∈ tables_1, d.before a0 Z = true) (ws : List Jvm.Cond) (d : Int32) (h0 : Heap) (n0 : Nat) (Z0 : n0 ≤ h0.size)  :
    own_Met l Z (⟨"com/example/phonomark/phonomark/Iso2709RecordDigitsPinLaw", "isDigit", "(B)Z"⟩ : MethodName) method_5_code 1 (some .boolean) ({ frames := 0, cells := 0, slots := 0, locals := 0 } : Room) ws #[(.int d)] h0 (fun v h L => v = some (.int (own_b (own_dg d))) ∧ Fr n0 L ∧ h = h0) 0 0 := by
  refine own_enter pf6 (fun m => ef_rm6 m d) ?_
  intro p e s m below meth c T0 hx hby hml hown hnm hret hlk hZ X0 e0
  have N0 := Fr.nil n0
  show own_Go p e s below _ _ _ T0 (mkF m 0 #[.val (.int d)] [])
  refine own_st (fun _ k => XS.iloadN X0.here hx rfl (hb hby d6_0) rfl k) ?_
  show own_Go p e s below _ _ _ T0 (mkF m 1 #[.val (.int d)] [(.int d)])
  refine own_st (fun _ k => XS.bipush X0.here hx rfl (hb hby d6_1) k) ?_
  show own_Go p e s below _ _ _ T0 (mkF m 3 #[.val (.int d)] [(.int (48 : Int32)), (.int d)])
  by_cases c3_4 : d < (48 : Int32)
  · refine own_st (fun _ k => XS.icmpYes X0.here hx rfl (pc0 := 3) (pc' := 16) rfl (hb hby d6_3) rfl (tlt c3_4).1 (by decide) (by decide) k) ?_
    show own_Go p e s below _ _ _ T0 (mkF m 16 #[.val (.int d)] [])
    refine own_st (fun _ k => XS.iconst X0.here hx rfl (hb hby d6_16) k) ?_
    show own_Go p e s below _ _ _ T0 (mkF m 17 #[.val (.int d)] [(.int (0 : Int32))])
    exact own_retN X0 hx hlk (t := .boolean) hret (by simp) (hb hby d6_17) (z' := (0 : Int32)) rfl (by decide) (by decide) ⟨by rw [own_bf (by simp [own_in, own_dg, c3_4])], N0, e0⟩
  · refine own_st (fun _ k => XS.icmpNo X0.here hx rfl (hb hby d6_3) rfl (flt c3_4).1 k) ?_
    show own_Go p e s below _ _ _ T0 (mkF m 6 #[.val (.int d)] [])
    refine own_st (fun _ k => XS.iloadN X0.here hx rfl (hb hby d6_6) rfl k) ?_
    show own_Go p e s below _ _ _ T0 (mkF m 7 #[.val (.int d)] [(.int d)])
    refine own_st (fun _ k => XS.bipush X0.here hx rfl (hb hby d6_7) k) ?_
    show own_Go p e s below _ _ _ T0 (mkF m 9 #[.val (.int d)] [(.int (57 : Int32)), (.int d)])
    by_cases c9_5 : (57 : Int32) < d
    · refine own_st (fun _ k => XS.icmpYes X0.here hx rfl (pc0 := 9) (pc' := 16) rfl (hb hby d6_9) rfl (tlt c9_5).2.2.1 (by decide) (by decide) k) ?_
      show own_Go p e s below _ _ _ T0 (mkF m 16 #[.val (.int d)] [])
      refine own_st (fun _ k => XS.iconst X0.here hx rfl (hb hby d6_16) k) ?_
      show own_Go p e s below _ _ _ T0 (mkF m 17 #[.val (.int d)] [(.int (0 : Int32))])
      exact own_retN X0 hx hlk (t := .boolean) hret (by simp) (hb hby d6_17) (z' := (0 : Int32)) rfl (by decide) (by decide) ⟨by rw [own_bf (by simp [own_in, own_dg, c3_4, c9_5])], N0, e0⟩
    · refine own_st (fun _ k => XS.icmpNo X0.here hx rfl (hb hby d6_9) rfl (flt c9_5).2.2.1 k) ?_
      show own_Go p e s below _ _ _ T0 (mkF m 12 #[.val (.int d)] [])
      refine own_st (fun _ k => XS.iconst X0.here hx rfl (hb hby d6_12) k) ?_
      show own_Go p e s below _ _ _ T0 (mkF m 13 #[.val (.int d)] [(.int (1 : Int32))])
      refine own_st (fun _ k => XS.goto X0.here hx rfl (pc0 := 13) (pc' := 17) rfl (hb hby d6_13) (by decide) (by decide) k) ?_
      show own_Go p e s below _ _ _ T0 (mkF m 17 #[.val (.int d)] [(.int (1 : Int32))])
      exact own_retN X0 hx hlk (t := .boolean) hret (by simp) (hb hby d6_17) (z' := (1 : Int32)) rfl (by decide) (by decide) ⟨by rw [own_bt (by simp [own_in, own_dg, c3_4, c9_5])], N0, e0⟩
theorem ef_rm7 (m : MethodId) (z0 : Int32) : entryFrame m #[(.int z0)] 1 = mkF m 0 #[.val (.int z0)] [] := by first | (simp [entryFrame, mkF, argsToLocals, Value.category]; done) | rfl
set_option maxRecDepth 65536 in
set_option maxHeartbeats 40000000 in
theorem rm7 (l : Launch) (Z : State) (a0 : Array Value) (hw : ∀ d ∈ tables_1, d.before a0 Z = true) (ws : List Jvm.Cond) (z : Int32) (h0 : Heap) (n0 : Nat) (Z0 : n0 ≤ h0.size)  :
    own_Met l Z (⟨"com/example/phonomark/phonomark/Iso2709RecordDigitsPinLaw", "pow10", "(I)I"⟩ : MethodName) method_8_code 1 (some .int) ({ frames := 0, cells := 0, slots := 0, locals := 0 } : Room) ws #[(.int z)] h0 (fun v h L => v = some (.int (own_pow z)) ∧ Fr n0 L ∧ h = h0) 0 0 := by
  refine own_enter pf7 (fun m => ef_rm7 m z) ?_
  intro p e s m below meth c T0 hx hby hml hown hnm hret hlk hZ X0 e0
  have N0 := Fr.nil n0
  show own_Go p e s below _ _ _ T0 (mkF m 0 #[.val (.int z)] [])
  refine own_st (fun _ k => XS.iloadN X0.here hx rfl (hb hby d7_0) rfl k) ?_
  show own_Go p e s below _ _ _ T0 (mkF m 1 #[.val (.int z)] [(.int z)])
  by_cases c1_6 : z = (0 : Int32)
  · refine own_st (fun _ k => XS.ifNo X0.here hx rfl (hb hby d7_1) rfl ((if0 _ _).trans (teq c1_6).2) k) ?_
    show own_Go p e s below _ _ _ T0 (mkF m 4 #[.val (.int z)] [])
    refine own_st (fun _ k => XS.iconst X0.here hx rfl (hb hby d7_4) k) ?_
    show own_Go p e s below _ _ _ T0 (mkF m 5 #[.val (.int z)] [(.int (1 : Int32))])
    exact own_retI X0 hx hlk hret (hb hby d7_5) (by decide) (by decide) ⟨by simp [own_pow, c1_6], N0, e0⟩
  · refine own_st (fun _ k => XS.ifYes X0.here hx rfl (pc0 := 1) (pc' := 6) rfl (hb hby d7_1) rfl ((if0 _ _).trans (feq c1_6).2) (by decide) (by decide) k) ?_
    show own_Go p e s below _ _ _ T0 (mkF m 6 #[.val (.int z)] [])
    refine own_st (fun _ k => XS.iloadN X0.here hx rfl (hb hby d7_6) rfl k) ?_
    show own_Go p e s below _ _ _ T0 (mkF m 7 #[.val (.int z)] [(.int z)])
    refine own_st (fun _ k => XS.iconst X0.here hx rfl (hb hby d7_7) k) ?_
    show own_Go p e s below _ _ _ T0 (mkF m 8 #[.val (.int z)] [(.int (1 : Int32)), (.int z)])
    by_cases c8_7 : z = (1 : Int32)
    · refine own_st (fun _ k => XS.icmpNo X0.here hx rfl (hb hby d7_8) rfl (teq c8_7).2 k) ?_
      show own_Go p e s below _ _ _ T0 (mkF m 11 #[.val (.int z)] [])
      refine own_st (fun _ k => XS.bipush X0.here hx rfl (hb hby d7_11) k) ?_
      show own_Go p e s below _ _ _ T0 (mkF m 13 #[.val (.int z)] [(.int (10 : Int32))])
      exact own_retI X0 hx hlk hret (hb hby d7_13) (by decide) (by decide) ⟨by simp [own_pow, c1_6, c8_7], N0, e0⟩
    · refine own_st (fun _ k => XS.icmpYes X0.here hx rfl (pc0 := 8) (pc' := 14) rfl (hb hby d7_8) rfl (feq c8_7).2 (by decide) (by decide) k) ?_
      show own_Go p e s below _ _ _ T0 (mkF m 14 #[.val (.int z)] [])
      refine own_st (fun _ k => XS.iloadN X0.here hx rfl (hb hby d7_14) rfl k) ?_
      show own_Go p e s below _ _ _ T0 (mkF m 15 #[.val (.int z)] [(.int z)])
      refine own_st (fun _ k => XS.iconst X0.here hx rfl (hb hby d7_15) k) ?_
      show own_Go p e s below _ _ _ T0 (mkF m 16 #[.val (.int z)] [(.int (2 : Int32)), (.int z)])
      by_cases c16_8 : z = (2 : Int32)
      · refine own_st (fun _ k => XS.icmpNo X0.here hx rfl (hb hby d7_16) rfl (teq c16_8).2 k) ?_
        show own_Go p e s below _ _ _ T0 (mkF m 19 #[.val (.int z)] [])
        refine own_st (fun _ k => XS.bipush X0.here hx rfl (hb hby d7_19) k) ?_
        show own_Go p e s below _ _ _ T0 (mkF m 21 #[.val (.int z)] [(.int (100 : Int32))])
        exact own_retI X0 hx hlk hret (hb hby d7_21) (by decide) (by decide) ⟨by simp [own_pow, c1_6, c8_7, c16_8], N0, e0⟩
      · refine own_st (fun _ k => XS.icmpYes X0.here hx rfl (pc0 := 16) (pc' := 22) rfl (hb hby d7_16) rfl (feq c16_8).2 (by decide) (by decide) k) ?_
        show own_Go p e s below _ _ _ T0 (mkF m 22 #[.val (.int z)] [])
        refine own_st (fun _ k => XS.iloadN X0.here hx rfl (hb hby d7_22) rfl k) ?_
        show own_Go p e s below _ _ _ T0 (mkF m 23 #[.val (.int z)] [(.int z)])
        refine own_st (fun _ k => XS.iconst X0.here hx rfl (hb hby d7_23) k) ?_
        show own_Go p e s below _ _ _ T0 (mkF m 24 #[.val (.int z)] [(.int (3 : Int32)), (.int z)])
        by_cases c24_9 : z = (3 : Int32)
        · refine own_st (fun _ k => XS.icmpNo X0.here hx rfl (hb hby d7_24) rfl (teq c24_9).2 k) ?_
          show own_Go p e s below _ _ _ T0 (mkF m 27 #[.val (.int z)] [])
          refine own_st (fun _ k => XS.sipush X0.here hx rfl (hb hby d7_27) k) ?_
          show own_Go p e s below _ _ _ T0 (mkF m 30 #[.val (.int z)] [(.int (1000 : Int32))])
          exact own_retI X0 hx hlk hret (hb hby d7_30) (by decide) (by decide) ⟨by simp [own_pow, c1_6, c8_7, c16_8, c24_9], N0, e0⟩
        · refine own_st (fun _ k => XS.icmpYes X0.here hx rfl (pc0 := 24) (pc' := 31) rfl (hb hby d7_24) rfl (feq c24_9).2 (by decide) (by decide) k) ?_
          show own_Go p e s below _ _ _ T0 (mkF m 31 #[.val (.int z)] [])
          refine own_st (fun _ k => XS.sipush X0.here hx rfl (hb hby d7_31) k) ?_
          show own_Go p e s below _ _ _ T0 (mkF m 34 #[.val (.int z)] [(.int (10000 : Int32))])
          exact own_retI X0 hx hlk hret (hb hby d7_34) (by decide) (by decide) ⟨by simp [own_pow, c1_6, c8_7, c16_8, c24_9], N0, e0⟩
theorem ef_rm2 (m : MethodId) (z0 : Addr) (z1 : Int32) (z2 : Int32) (z3 : Int32) : entryFrame m #[(.ref z0), (.int z1), (.int z2), (.int z3)] 4 = mkF m 0 #[.val (.ref z0), .val (.int z1), .val (.int z2), .val (.int z3)] [] := by first | (simp [entryFrame, mkF, argsToLocals, Value.category]; done) | rfl
set_option maxRecDepth 65536 in
set_option maxHeartbeats 40000000 in
theorem rm2 (l : Launch) (Z : State) (a0 : Array Value) (hw : ∀ d ∈ tables_1, d.before a0 Z = true) (ws : List Jvm.Cond) (a : Addr) (k f n d : Int32) (k' : ClassId) (vs : List Value) (h0 : Heap) (n0 : Nat) (Z0 : n0 ≤ h0.size) (V_a : Arv Z h0 a k' .byte (5 : Int32) vs (.int (0 : Int32))) (hk : ¬ k < 0 ∧ k < (5 : Int32)) (hv : vs.getD k.toNatClampNeg (.int 0) = .int d) :
    own_Met l Z (⟨"com/example/phonomark/phonomark/Iso2709RecordDigitsPinLaw", "bad", "([BIII)Z"⟩ : MethodName) method_6_code 4 (some .boolean) ({ frames := 1, cells := 0, slots := 0, locals := 32 } : Room) ws #[(.ref a), (.int k), (.int f), (.int n)] h0 (fun v h L => v = some (.int (own_b (own_in k f n ∧ ¬ own_dg d))) ∧ Fr n0 L ∧ h = h0) 0 0 := by
  refine own_enter pf2 (fun m => ef_rm2 m a k f n) ?_
  intro p e s m below meth c T0 hx hby hml hown hnm hret hlk hZ X0 e0
  have N0 := Fr.nil n0
  show own_Go p e s below _ _ _ T0 (mkF m 0 #[.val (.ref a), .val (.int k), .val (.int f), .val (.int n)] [])
  refine own_st (fun _ k => XS.iloadN X0.here hx rfl (hb hby d2_0) rfl k) ?_
  show own_Go p e s below _ _ _ T0 (mkF m 1 #[.val (.ref a), .val (.int k), .val (.int f), .val (.int n)] [(.int k)])
  refine own_st (fun _ k => XS.iloadN X0.here hx rfl (hb hby d2_1) rfl k) ?_
  show own_Go p e s below _ _ _ T0 (mkF m 2 #[.val (.ref a), .val (.int k), .val (.int f), .val (.int n)] [(.int f), (.int k)])
  refine own_st (fun _ k => XS.iloadN X0.here hx rfl (hb hby d2_2) rfl k) ?_
  show own_Go p e s below _ _ _ T0 (mkF m 3 #[.val (.ref a), .val (.int k), .val (.int f), .val (.int n)] [(.int n), (.int f), (.int k)])
  refine own_callS X0 hx hZ (y := (⟨"com/example/phonomark/phonomark/Iso2709RecordDigitsPinLaw", "inRange", "(III)Z"⟩ : MethodName)) hown (hw _ (List.mem_of_getElem? (i := 9) rfl)) (hw _ (List.mem_of_getElem? (i := 10) rfl)) (hw _ (List.mem_of_getElem? (i := 3) rfl)) (hw _ (List.mem_of_getElem? (i := 11) rfl)) (by decide) e0 (rm3 l Z a0 hw [] k f n h0 n0 Z0) 0 (by decide) (by decide) (g := (mkF m 3 #[.val (.ref a), .val (.int k), .val (.int f), .val (.int n)] [(.int n), (.int f), (.int k)])) rfl (by rw [hml]; rfl) (argsL := [(.int k), (.int f), (.int n)]) (rest := []) pd1 rfl rfl rfl (by show 2 * 0 + _ ≤ _; exact Nat.le_of_eq rfl) (hb hby d2_3) (by decide) (by decide) ?_
  intro T10 v10 L10 X10 hQ10
  obtain ⟨rfl, N10q, e10⟩ := hQ10
  have N10 := Fr.app N0 N10q
  show own_Go p e s below _ _ _ T10 (mkF m 6 #[.val (.ref a), .val (.int k), .val (.int f), .val (.int n)] [(.int (own_b (own_in k f n)))])
  by_cases c6_11 : (own_in k f n)
  · refine own_st (fun _ k => XS.ifNo X10.here hx rfl (hb hby d2_6) rfl (own_by c6_11).2 k) ?_
    show own_Go p e s below _ _ _ T10 (mkF m 9 #[.val (.ref a), .val (.int k), .val (.int f), .val (.int n)] [])
    refine own_st (fun _ k => XS.aloadN X10.here hx rfl (hb hby d2_9) rfl rfl k) ?_
    show own_Go p e s below _ _ _ T10 (mkF m 10 #[.val (.ref a), .val (.int k), .val (.int f), .val (.int n)] [(.ref a)])
    refine own_st (fun _ k => XS.iloadN X10.here hx rfl (hb hby d2_10) rfl k) ?_
    show own_Go p e s below _ _ _ T10 (mkF m 11 #[.val (.ref a), .val (.int k), .val (.int f), .val (.int n)] [(.int k), (.ref a)])
    refine own_st (own_ldB X10 hx hZ e10 V_a (j := k) (x := d) hk hv (g := (mkF m 11 #[.val (.ref a), .val (.int k), .val (.int f), .val (.int n)] [(.int k), (.ref a)])) rfl rfl (hb hby d2_11)) ?_
    show own_Go p e s below _ _ _ T10 (mkF m 12 #[.val (.ref a), .val (.int k), .val (.int f), .val (.int n)] [(.int d)])
    refine own_callS X10 hx hZ (y := (⟨"com/example/phonomark/phonomark/Iso2709RecordDigitsPinLaw", "isDigit", "(B)Z"⟩ : MethodName)) hown (hw _ (List.mem_of_getElem? (i := 19) rfl)) (hw _ (List.mem_of_getElem? (i := 20) rfl)) (hw _ (List.mem_of_getElem? (i := 3) rfl)) (hw _ (List.mem_of_getElem? (i := 21) rfl)) (by decide) e10 (rm6 l Z a0 hw [] d h0 n0 Z0) 0 (by decide) (by decide) (g := (mkF m 12 #[.val (.ref a), .val (.int k), .val (.int f), .val (.int n)] [(.int d)])) rfl (by rw [hml]; rfl) (argsL := [(.int d)]) (rest := []) pd2 rfl rfl rfl (by show 2 * 0 + _ ≤ _; exact Nat.le_of_eq rfl) (hb hby d2_12) (by decide) (by decide) ?_
    intro T12 v12 L12 X12 hQ12
    obtain ⟨rfl, N12q, e12⟩ := hQ12
    have N12 := Fr.app N10 N12q
    show own_Go p e s below _ _ _ T12 (mkF m 15 #[.val (.ref a), .val (.int k), .val (.int f), .val (.int n)] [(.int (own_b (own_dg d)))])
    by_cases c15_13 : (own_dg d)
    · refine own_st (fun _ k => XS.ifYes X12.here hx rfl (pc0 := 15) (pc' := 22) rfl (hb hby d2_15) rfl (own_by c15_13).1 (by decide) (by decide) k) ?_
      show own_Go p e s below _ _ _ T12 (mkF m 22 #[.val (.ref a), .val (.int k), .val (.int f), .val (.int n)] [])
      refine own_st (fun _ k => XS.iconst X12.here hx rfl (hb hby d2_22) k) ?_
      show own_Go p e s below _ _ _ T12 (mkF m 23 #[.val (.ref a), .val (.int k), .val (.int f), .val (.int n)] [(.int (0 : Int32))])
      exact own_retN X12 hx hlk (t := .boolean) hret (by simp) (hb hby d2_23) (z' := (0 : Int32)) rfl (by decide) (by decide) ⟨by rw [own_bf (fun q => q.2 c15_13)], N12, e12⟩
    · refine own_st (fun _ k => XS.ifNo X12.here hx rfl (hb hby d2_15) rfl (own_bn c15_13).2 k) ?_
      show own_Go p e s below _ _ _ T12 (mkF m 18 #[.val (.ref a), .val (.int k), .val (.int f), .val (.int n)] [])
      refine own_st (fun _ k => XS.iconst X12.here hx rfl (hb hby d2_18) k) ?_
      show own_Go p e s below _ _ _ T12 (mkF m 19 #[.val (.ref a), .val (.int k), .val (.int f), .val (.int n)] [(.int (1 : Int32))])
      refine own_st (fun _ k => XS.goto X12.here hx rfl (pc0 := 19) (pc' := 23) rfl (hb hby d2_19) (by decide) (by decide) k) ?_
      show own_Go p e s below _ _ _ T12 (mkF m 23 #[.val (.ref a), .val (.int k), .val (.int f), .val (.int n)] [(.int (1 : Int32))])
      exact own_retN X12 hx hlk (t := .boolean) hret (by simp) (hb hby d2_23) (z' := (1 : Int32)) rfl (by decide) (by decide) ⟨by rw [own_bt ⟨c6_11, c15_13⟩], N12, e12⟩
  · refine own_st (fun _ k => XS.ifYes X10.here hx rfl (pc0 := 6) (pc' := 22) rfl (hb hby d2_6) rfl (own_bn c6_11).1 (by decide) (by decide) k) ?_
    show own_Go p e s below _ _ _ T10 (mkF m 22 #[.val (.ref a), .val (.int k), .val (.int f), .val (.int n)] [])
    refine own_st (fun _ k => XS.iconst X10.here hx rfl (hb hby d2_22) k) ?_
    show own_Go p e s below _ _ _ T10 (mkF m 23 #[.val (.ref a), .val (.int k), .val (.int f), .val (.int n)] [(.int (0 : Int32))])
    exact own_retN X10 hx hlk (t := .boolean) hret (by simp) (hb hby d2_23) (z' := (0 : Int32)) rfl (by decide) (by decide) ⟨by rw [own_bf (fun q => c6_11 q.1)], N10, e10⟩
theorem ef_rm4 (m : MethodId) (z0 : Addr) (z1 : Int32) (z2 : Int32) (z3 : Int32) : entryFrame m #[(.ref z0), (.int z1), (.int z2), (.int z3)] 4 = mkF m 0 #[.val (.ref z0), .val (.int z1), .val (.int z2), .val (.int z3)] [] := by first | (simp [entryFrame, mkF, argsToLocals, Value.category]; done) | rfl
set_option maxRecDepth 65536 in
set_option maxHeartbeats 40000000 in
theorem rm4 (l : Launch) (Z : State) (a0 : Array Value) (hw : ∀ d ∈ tables_1, d.before a0 Z = true) (ws : List Jvm.Cond) (a : Addr) (k f n d : Int32) (k' : ClassId) (vs : List Value) (h0 : Heap) (n0 : Nat) (Z0 : n0 ≤ h0.size) (V_a : Arv Z h0 a k' .byte (5 : Int32) vs (.int (0 : Int32))) (hk : ¬ k < 0 ∧ k < (5 : Int32)) (hv : vs.getD k.toNatClampNeg (.int 0) = .int d) :
    own_Met l Z (⟨"com/example/phonomark/phonomark/Iso2709RecordDigitsPinLaw", "part", "([BIII)I"⟩ : MethodName) method_7_code 4 (some .int) ({ frames := 1, cells := 0, slots := 0, locals := 32 } : Room) ws #[(.ref a), (.int k), (.int f), (.int n)] h0 (fun v h L => v = some (.int (own_part k f n d)) ∧ Fr n0 L ∧ h = h0) 0 0 := by
  refine own_enter pf4 (fun m => ef_rm4 m a k f n) ?_
  intro p e s m below meth c T0 hx hby hml hown hnm hret hlk hZ X0 e0
  have N0 := Fr.nil n0
  show own_Go p e s below _ _ _ T0 (mkF m 0 #[.val (.ref a), .val (.int k), .val (.int f), .val (.int n)] [])
  refine own_st (fun _ k => XS.iloadN X0.here hx rfl (hb hby d4_0) rfl k) ?_
  show own_Go p e s below _ _ _ T0 (mkF m 1 #[.val (.ref a), .val (.int k), .val (.int f), .val (.int n)] [(.int k)])
  refine own_st (fun _ k => XS.iloadN X0.here hx rfl (hb hby d4_1) rfl k) ?_
  show own_Go p e s below _ _ _ T0 (mkF m 2 #[.val (.ref a), .val (.int k), .val (.int f), .val (.int n)] [(.int f), (.int k)])
  refine own_st (fun _ k => XS.iloadN X0.here hx rfl (hb hby d4_2) rfl k) ?_
  show own_Go p e s below _ _ _ T0 (mkF m 3 #[.val (.ref a), .val (.int k), .val (.int f), .val (.int n)] [(.int n), (.int f), (.int k)])
  refine own_callS X0 hx hZ (y := (⟨"com/example/phonomark/phonomark/Iso2709RecordDigitsPinLaw", "inRange", "(III)Z"⟩ : MethodName)) hown (hw _ (List.mem_of_getElem? (i := 9) rfl)) (hw _ (List.mem_of_getElem? (i := 10) rfl)) (hw _ (List.mem_of_getElem? (i := 3) rfl)) (hw _ (List.mem_of_getElem? (i := 11) rfl)) (by decide) e0 (rm3 l Z a0 hw [] k f n h0 n0 Z0) 0 (by decide) (by decide) (g := (mkF m 3 #[.val (.ref a), .val (.int k), .val (.int f), .val (.int n)] [(.int n), (.int f), (.int k)])) rfl (by rw [hml]; rfl) (argsL := [(.int k), (.int f), (.int n)]) (rest := []) pd1 rfl rfl rfl (by show 2 * 0 + _ ≤ _; exact Nat.le_of_eq rfl) (hb hby d4_3) (by decide) (by decide) ?_
  intro T14 v14 L14 X14 hQ14
  obtain ⟨rfl, N14q, e14⟩ := hQ14
  have N14 := Fr.app N0 N14q
  show own_Go p e s below _ _ _ T14 (mkF m 6 #[.val (.ref a), .val (.int k), .val (.int f), .val (.int n)] [(.int (own_b (own_in k f n)))])
  by_cases c6_15 : (own_in k f n)
  · refine own_st (fun _ k => XS.ifNo X14.here hx rfl (hb hby d4_6) rfl (own_by c6_15).2 k) ?_
    show own_Go p e s below _ _ _ T14 (mkF m 9 #[.val (.ref a), .val (.int k), .val (.int f), .val (.int n)] [])
    refine own_st (fun _ k => XS.aloadN X14.here hx rfl (hb hby d4_9) rfl rfl k) ?_
    show own_Go p e s below _ _ _ T14 (mkF m 10 #[.val (.ref a), .val (.int k), .val (.int f), .val (.int n)] [(.ref a)])
    refine own_st (fun _ k => XS.iloadN X14.here hx rfl (hb hby d4_10) rfl k) ?_
    show own_Go p e s below _ _ _ T14 (mkF m 11 #[.val (.ref a), .val (.int k), .val (.int f), .val (.int n)] [(.int k), (.ref a)])
    refine own_st (own_ldB X14 hx hZ e14 V_a (j := k) (x := d) hk hv (g := (mkF m 11 #[.val (.ref a), .val (.int k), .val (.int f), .val (.int n)] [(.int k), (.ref a)])) rfl rfl (hb hby d4_11)) ?_
    show own_Go p e s below _ _ _ T14 (mkF m 12 #[.val (.ref a), .val (.int k), .val (.int f), .val (.int n)] [(.int d)])
    refine own_callS X14 hx hZ (y := (⟨"com/example/phonomark/phonomark/Iso2709RecordDigitsPinLaw", "isDigit", "(B)Z"⟩ : MethodName)) hown (hw _ (List.mem_of_getElem? (i := 19) rfl)) (hw _ (List.mem_of_getElem? (i := 20) rfl)) (hw _ (List.mem_of_getElem? (i := 3) rfl)) (hw _ (List.mem_of_getElem? (i := 21) rfl)) (by decide) e14 (rm6 l Z a0 hw [] d h0 n0 Z0) 0 (by decide) (by decide) (g := (mkF m 12 #[.val (.ref a), .val (.int k), .val (.int f), .val (.int n)] [(.int d)])) rfl (by rw [hml]; rfl) (argsL := [(.int d)]) (rest := []) pd2 rfl rfl rfl (by show 2 * 0 + _ ≤ _; exact Nat.le_of_eq rfl) (hb hby d4_12) (by decide) (by decide) ?_
    intro T16 v16 L16 X16 hQ16
    obtain ⟨rfl, N16q, e16⟩ := hQ16
    have N16 := Fr.app N14 N16q
    show own_Go p e s below _ _ _ T16 (mkF m 15 #[.val (.ref a), .val (.int k), .val (.int f), .val (.int n)] [(.int (own_b (own_dg d)))])
    by_cases c15_17 : (own_dg d)
    · refine own_st (fun _ k => XS.ifYes X16.here hx rfl (pc0 := 15) (pc' := 20) rfl (hb hby d4_15) rfl (own_by c15_17).1 (by decide) (by decide) k) ?_
      show own_Go p e s below _ _ _ T16 (mkF m 20 #[.val (.ref a), .val (.int k), .val (.int f), .val (.int n)] [])
      refine own_st (fun _ k => XS.aloadN X16.here hx rfl (hb hby d4_20) rfl rfl k) ?_
      show own_Go p e s below _ _ _ T16 (mkF m 21 #[.val (.ref a), .val (.int k), .val (.int f), .val (.int n)] [(.ref a)])
      refine own_st (fun _ k => XS.iloadN X16.here hx rfl (hb hby d4_21) rfl k) ?_
      show own_Go p e s below _ _ _ T16 (mkF m 22 #[.val (.ref a), .val (.int k), .val (.int f), .val (.int n)] [(.int k), (.ref a)])
      refine own_st (own_ldB X16 hx hZ e16 V_a (j := k) (x := d) hk hv (g := (mkF m 22 #[.val (.ref a), .val (.int k), .val (.int f), .val (.int n)] [(.int k), (.ref a)])) rfl rfl (hb hby d4_22)) ?_
      show own_Go p e s below _ _ _ T16 (mkF m 23 #[.val (.ref a), .val (.int k), .val (.int f), .val (.int n)] [(.int d)])
      refine own_st (fun _ k => XS.bipush X16.here hx rfl (hb hby d4_23) k) ?_
      show own_Go p e s below _ _ _ T16 (mkF m 25 #[.val (.ref a), .val (.int k), .val (.int f), .val (.int n)] [(.int (48 : Int32)), (.int d)])
      refine own_st (fun _ k => XS.isub X16.here hx rfl (hb hby d4_25) rfl k) ?_
      show own_Go p e s below _ _ _ T16 (mkF m 26 #[.val (.ref a), .val (.int k), .val (.int f), .val (.int n)] [(.int (d - (48 : Int32)))])
      refine own_st (fun _ k => XS.iloadN X16.here hx rfl (hb hby d4_26) rfl k) ?_
      show own_Go p e s below _ _ _ T16 (mkF m 27 #[.val (.ref a), .val (.int k), .val (.int f), .val (.int n)] [(.int f), (.int (d - (48 : Int32)))])
      refine own_st (fun _ k => XS.iloadN X16.here hx rfl (hb hby d4_27) rfl k) ?_
      show own_Go p e s below _ _ _ T16 (mkF m 28 #[.val (.ref a), .val (.int k), .val (.int f), .val (.int n)] [(.int n), (.int f), (.int (d - (48 : Int32)))])
      refine own_st (fun _ k => XS.iadd X16.here hx rfl (hb hby d4_28) rfl k) ?_
      show own_Go p e s below _ _ _ T16 (mkF m 29 #[.val (.ref a), .val (.int k), .val (.int f), .val (.int n)] [(.int (f + n)), (.int (d - (48 : Int32)))])
      refine own_st (fun _ k => XS.iconst X16.here hx rfl (hb hby d4_29) k) ?_
      show own_Go p e s below _ _ _ T16 (mkF m 30 #[.val (.ref a), .val (.int k), .val (.int f), .val (.int n)] [(.int (1 : Int32)), (.int (f + n)), (.int (d - (48 : Int32)))])
      refine own_st (fun _ k => XS.isub X16.here hx rfl (hb hby d4_30) rfl k) ?_
      show own_Go p e s below _ _ _ T16 (mkF m 31 #[.val (.ref a), .val (.int k), .val (.int f), .val (.int n)] [(.int ((f + n) - (1 : Int32))), (.int (d - (48 : Int32)))])
      refine own_st (fun _ k => XS.iloadN X16.here hx rfl (hb hby d4_31) rfl k) ?_
      show own_Go p e s below _ _ _ T16 (mkF m 32 #[.val (.ref a), .val (.int k), .val (.int f), .val (.int n)] [(.int k), (.int ((f + n) - (1 : Int32))), (.int (d - (48 : Int32)))])
      refine own_st (fun _ k => XS.isub X16.here hx rfl (hb hby d4_32) rfl k) ?_
      show own_Go p e s below _ _ _ T16 (mkF m 33 #[.val (.ref a), .val (.int k), .val (.int f), .val (.int n)] [(.int (((f + n) - (1 : Int32)) - k)), (.int (d - (48 : Int32)))])
      refine own_callS X16 hx hZ (y := (⟨"com/example/phonomark/phonomark/Iso2709RecordDigitsPinLaw", "pow10", "(I)I"⟩ : MethodName)) hown (hw _ (List.mem_of_getElem? (i := 22) rfl)) (hw _ (List.mem_of_getElem? (i := 23) rfl)) (hw _ (List.mem_of_getElem? (i := 3) rfl)) (hw _ (List.mem_of_getElem? (i := 24) rfl)) (by decide) e16 (rm7 l Z a0 hw [] (((f + n) - (1 : Int32)) - k) h0 n0 Z0) 1 (by decide) (by decide) (g := (mkF m 33 #[.val (.ref a), .val (.int k), .val (.int f), .val (.int n)] [(.int (((f + n) - (1 : Int32)) - k)), (.int (d - (48 : Int32)))])) rfl (by rw [hml]; rfl) (argsL := [(.int (((f + n) - (1 : Int32)) - k))]) (rest := [(.int (d - (48 : Int32)))]) pd3 rfl rfl rfl (by show 2 * 0 + _ ≤ _; exact Nat.le_of_eq rfl) (hb hby d4_33) (by decide) (by decide) ?_
      intro T18 v18 L18 X18 hQ18
      obtain ⟨rfl, N18q, e18⟩ := hQ18
      have N18 := Fr.app N16 N18q
      show own_Go p e s below _ _ _ T18 (mkF m 36 #[.val (.ref a), .val (.int k), .val (.int f), .val (.int n)] [(.int (own_pow (((f + n) - (1 : Int32)) - k))), (.int (d - (48 : Int32)))])
      refine own_st (fun _ k => XS.imul X18.here hx rfl (hb hby d4_36) rfl k) ?_
      show own_Go p e s below _ _ _ T18 (mkF m 37 #[.val (.ref a), .val (.int k), .val (.int f), .val (.int n)] [(.int ((d - (48 : Int32)) * (own_pow (((f + n) - (1 : Int32)) - k))))])
      exact own_retI X18 hx hlk hret (hb hby d4_37) (by decide) (by decide) ⟨by unfold own_part; rw [if_pos ⟨c6_15, c15_17⟩], N18, e18⟩
    · refine own_st (fun _ k => XS.ifNo X16.here hx rfl (hb hby d4_15) rfl (own_bn c15_17).2 k) ?_
      show own_Go p e s below _ _ _ T16 (mkF m 18 #[.val (.ref a), .val (.int k), .val (.int f), .val (.int n)] [])
      refine own_st (fun _ k => XS.iconst X16.here hx rfl (hb hby d4_18) k) ?_
      show own_Go p e s below _ _ _ T16 (mkF m 19 #[.val (.ref a), .val (.int k), .val (.int f), .val (.int n)] [(.int (0 : Int32))])
      exact own_retI X16 hx hlk hret (hb hby d4_19) (by decide) (by decide) ⟨by unfold own_part; rw [if_neg (fun q => c15_17 q.2)], N16, e16⟩
  · refine own_st (fun _ k => XS.ifYes X14.here hx rfl (pc0 := 6) (pc' := 18) rfl (hb hby d4_6) rfl (own_bn c6_15).1 (by decide) (by decide) k) ?_
    show own_Go p e s below _ _ _ T14 (mkF m 18 #[.val (.ref a), .val (.int k), .val (.int f), .val (.int n)] [])
    refine own_st (fun _ k => XS.iconst X14.here hx rfl (hb hby d4_18) k) ?_
    show own_Go p e s below _ _ _ T14 (mkF m 19 #[.val (.ref a), .val (.int k), .val (.int f), .val (.int n)] [(.int (0 : Int32))])
    exact own_retI X14 hx hlk hret (hb hby d4_19) (by decide) (by decide) ⟨by unfold own_part; rw [if_neg (fun q => c6_15 q.1)], N14, e14⟩
theorem own_s5 {x0 x1 x2 x3 x4 s5 : Slot} {v : Int32} (h : One s5) : storeLocals #[x0, x1, x2, x3, x4, s5] 5 (.int v) = some #[x0, x1, x2, x3, x4, .val (.int v)] := by
  rcases h with rfl | ⟨w, rfl, hw⟩
  · rfl
  · cases w <;> first | rfl | (simp [Value.category] at hw)
theorem ef_rm5 (m : MethodId) (z0 : Addr) (z1 : Int32) (z2 : Int32) : entryFrame m #[(.ref z0), (.int z1), (.int z2)] 6 = mkF m 0 #[.val (.ref z0), .val (.int z1), .val (.int z2), .unset, .unset, .unset] [] := by first | (simp [entryFrame, mkF, argsToLocals, Value.category]; done) | rfl
set_option maxRecDepth 65536 in
set_option maxHeartbeats 40000000 in
theorem rm5 (l : Launch) (Z : State) (a0 : Array Value) (hw : ∀ d ∈ tables_1, d.before a0 Z = true) (ws : List Jvm.Cond) (a : Addr) (F C : Nat) (k' : ClassId) (d0 d1 d2 d3 d4 : Int32) (h0 : Heap) (n0 : Nat) (Z0 : n0 ≤ h0.size) (V_a : Arv Z h0 a k' .byte (5 : Int32) [(.int d0), (.int d1), (.int d2), (.int d3), (.int d4)] (.int (0 : Int32))) (hFC : F + C ≤ 5) :
    own_Met l Z (⟨"com/example/phonomark/phonomark/Iso2709Record", "digits", "([BII)I"⟩ : MethodName) prog_20_method_20_code 6 (some .int) ({ frames := 0, cells := 0, slots := 0, locals := 0 } : Room) ws #[(.ref a), (.int F.toInt32), (.int C.toInt32)] h0 (fun v h L => v = some (.int (own_run [d0, d1, d2, d3, d4] F C 0)) ∧ Fr n0 L ∧ h = h0) 0 0 := by
  refine own_enter pf5 (fun m => ef_rm5 m a F.toInt32 C.toInt32) ?_
  intro p e s m below meth c T0 hx hby hml hown hnm hret hlk hZ X0 e0
  have N0 := Fr.nil n0
  show own_Go p e s below _ _ _ T0 (mkF m 0 #[.val (.ref a), .val (.int F.toInt32), .val (.int C.toInt32), .unset, .unset, .unset] [])
  refine own_st (fun _ k => XS.iconst X0.here hx rfl (hb hby d5_0) k) ?_
  show own_Go p e s below _ _ _ T0 (mkF m 1 #[.val (.ref a), .val (.int F.toInt32), .val (.int C.toInt32), .unset, .unset, .unset] [(.int (0 : Int32))])
  refine own_st (fun _ k => XS.istoreN X0.here hx rfl (hb hby d5_1) rfl (l' := #[.val (.ref a), .val (.int F.toInt32), .val (.int C.toInt32), .val (.int (0 : Int32)), .unset, .unset]) rfl k) ?_
  show own_Go p e s below _ _ _ T0 (mkF m 2 #[.val (.ref a), .val (.int F.toInt32), .val (.int C.toInt32), .val (.int (0 : Int32)), .unset, .unset] [])
  refine own_st (fun _ k => XS.iloadN X0.here hx rfl (hb hby d5_2) rfl k) ?_
  show own_Go p e s below _ _ _ T0 (mkF m 3 #[.val (.ref a), .val (.int F.toInt32), .val (.int C.toInt32), .val (.int (0 : Int32)), .unset, .unset] [(.int F.toInt32)])
  refine own_st (fun _ k => XS.istore X0.here hx rfl (hb hby d5_3) rfl (l' := #[.val (.ref a), .val (.int F.toInt32), .val (.int C.toInt32), .val (.int (0 : Int32)), .val (.int F.toInt32), .unset]) rfl k) ?_
  show own_Go p e s below _ _ _ T0 (mkF m 5 #[.val (.ref a), .val (.int F.toInt32), .val (.int C.toInt32), .val (.int (0 : Int32)), .val (.int F.toInt32), .unset] [])
  have loop : ∀ (r j : Nat) (acc : Int32) (s5 : Slot), One s5 → j + r = C → own_run [d0, d1, d2, d3, d4] (F + j) r acc = own_run [d0, d1, d2, d3, d4] F C 0 → own_Go p e s below (fun (v : Option Value) (h : Heap) (L : List Loc) => v = some (.int (own_run [d0, d1, d2, d3, d4] F C 0)) ∧ Fr n0 L ∧ h = h0) 0 0 T0 (mkF m 5 #[.val (.ref a), .val (.int F.toInt32), .val (.int C.toInt32), .val (.int acc), .val (.int ((F + j).toInt32)), s5] []) := by
    intro r
    induction r with
    | zero =>
      intro j acc s5 hs hj hrun
      have hjC : j = C := hj
      show own_Go p e s below _ _ _ T0 (mkF m 5 #[.val (.ref a), .val (.int F.toInt32), .val (.int C.toInt32), .val (.int acc), .val (.int ((F + j).toInt32)), s5] [])
      refine own_st (fun _ k => XS.iload X0.here hx rfl (hb hby d5_5) rfl k) ?_
      show own_Go p e s below _ _ _ T0 (mkF m 7 #[.val (.ref a), .val (.int F.toInt32), .val (.int C.toInt32), .val (.int acc), .val (.int ((F + j).toInt32)), s5] [(.int ((F + j).toInt32))])
      refine own_st (fun _ k => XS.iloadN X0.here hx rfl (hb hby d5_7) rfl k) ?_
      show own_Go p e s below _ _ _ T0 (mkF m 8 #[.val (.ref a), .val (.int F.toInt32), .val (.int C.toInt32), .val (.int acc), .val (.int ((F + j).toInt32)), s5] [(.int F.toInt32), (.int ((F + j).toInt32))])
      refine own_st (fun _ k => XS.iloadN X0.here hx rfl (hb hby d5_8) rfl k) ?_
      show own_Go p e s below _ _ _ T0 (mkF m 9 #[.val (.ref a), .val (.int F.toInt32), .val (.int C.toInt32), .val (.int acc), .val (.int ((F + j).toInt32)), s5] [(.int C.toInt32), (.int F.toInt32), (.int ((F + j).toInt32))])
      refine own_st (fun _ k => XS.iadd X0.here hx rfl (hb hby d5_9) rfl k) ?_
      show own_Go p e s below _ _ _ T0 (mkF m 10 #[.val (.ref a), .val (.int F.toInt32), .val (.int C.toInt32), .val (.int acc), .val (.int ((F + j).toInt32)), s5] [(.int (F.toInt32 + C.toInt32)), (.int ((F + j).toInt32))])
      have cc : ¬ (F + j).toInt32 < F.toInt32 + C.toInt32 := by rw [hjC]; exact own_nlt hFC
      refine own_st (fun _ k => XS.icmpYes X0.here hx rfl (pc0 := 10) (pc' := 50) rfl (hb hby d5_10) rfl (flt cc).2.1 (by decide) (by decide) k) ?_
      show own_Go p e s below _ _ _ T0 (mkF m 50 #[.val (.ref a), .val (.int F.toInt32), .val (.int C.toInt32), .val (.int acc), .val (.int ((F + j).toInt32)), s5] [])
      refine own_st (fun _ k => XS.iloadN X0.here hx rfl (hb hby d5_50) rfl k) ?_
      show own_Go p e s below _ _ _ T0 (mkF m 51 #[.val (.ref a), .val (.int F.toInt32), .val (.int C.toInt32), .val (.int acc), .val (.int ((F + j).toInt32)), s5] [(.int acc)])
      exact own_retI X0 hx hlk hret (hb hby d5_51) (by decide) (by decide) ⟨by rw [← hrun]; rfl, N0, e0⟩
    | succ r ih =>
      intro j acc s5 hs hj hrun
      show own_Go p e s below _ _ _ T0 (mkF m 5 #[.val (.ref a), .val (.int F.toInt32), .val (.int C.toInt32), .val (.int acc), .val (.int ((F + j).toInt32)), s5] [])
      refine own_st (fun _ k => XS.iload X0.here hx rfl (hb hby d5_5) rfl k) ?_
      show own_Go p e s below _ _ _ T0 (mkF m 7 #[.val (.ref a), .val (.int F.toInt32), .val (.int C.toInt32), .val (.int acc), .val (.int ((F + j).toInt32)), s5] [(.int ((F + j).toInt32))])
      refine own_st (fun _ k => XS.iloadN X0.here hx rfl (hb hby d5_7) rfl k) ?_
      show own_Go p e s below _ _ _ T0 (mkF m 8 #[.val (.ref a), .val (.int F.toInt32), .val (.int C.toInt32), .val (.int acc), .val (.int ((F + j).toInt32)), s5] [(.int F.toInt32), (.int ((F + j).toInt32))])
      refine own_st (fun _ k => XS.iloadN X0.here hx rfl (hb hby d5_8) rfl k) ?_
      show own_Go p e s below _ _ _ T0 (mkF m 9 #[.val (.ref a), .val (.int F.toInt32), .val (.int C.toInt32), .val (.int acc), .val (.int ((F + j).toInt32)), s5] [(.int C.toInt32), (.int F.toInt32), (.int ((F + j).toInt32))])
      refine own_st (fun _ k => XS.iadd X0.here hx rfl (hb hby d5_9) rfl k) ?_
      show own_Go p e s below _ _ _ T0 (mkF m 10 #[.val (.ref a), .val (.int F.toInt32), .val (.int C.toInt32), .val (.int acc), .val (.int ((F + j).toInt32)), s5] [(.int (F.toInt32 + C.toInt32)), (.int ((F + j).toInt32))])
      have cc := own_lt (F := F) (C := C) (j := j) hFC (by omega)
      refine own_st (fun _ k => XS.icmpNo X0.here hx rfl (hb hby d5_10) rfl (tlt cc).2.1 k) ?_
      show own_Go p e s below _ _ _ T0 (mkF m 13 #[.val (.ref a), .val (.int F.toInt32), .val (.int C.toInt32), .val (.int acc), .val (.int ((F + j).toInt32)), s5] [])
      refine own_st (fun _ k => XS.aloadN X0.here hx rfl (hb hby d5_13) rfl rfl k) ?_
      show own_Go p e s below _ _ _ T0 (mkF m 14 #[.val (.ref a), .val (.int F.toInt32), .val (.int C.toInt32), .val (.int acc), .val (.int ((F + j).toInt32)), s5] [(.ref a)])
      refine own_st (fun _ k => XS.iload X0.here hx rfl (hb hby d5_14) rfl k) ?_
      show own_Go p e s below _ _ _ T0 (mkF m 16 #[.val (.ref a), .val (.int F.toInt32), .val (.int C.toInt32), .val (.int acc), .val (.int ((F + j).toInt32)), s5] [(.int ((F + j).toInt32)), (.ref a)])
      refine own_st (own_ldB X0 hx hZ e0 V_a (j := ((F + j).toInt32)) (x := ([d0, d1, d2, d3, d4].getD (F + j) 0)) (own_ix5 (by omega)).1 (by rw [(own_ix5 (by omega)).2]; exact own_gd [d0, d1, d2, d3, d4] (F + j)) (g := (mkF m 16 #[.val (.ref a), .val (.int F.toInt32), .val (.int C.toInt32), .val (.int acc), .val (.int ((F + j).toInt32)), s5] [(.int ((F + j).toInt32)), (.ref a)])) rfl rfl (hb hby d5_16)) ?_
      show own_Go p e s below _ _ _ T0 (mkF m 17 #[.val (.ref a), .val (.int F.toInt32), .val (.int C.toInt32), .val (.int acc), .val (.int ((F + j).toInt32)), s5] [(.int ([d0, d1, d2, d3, d4].getD (F + j) 0))])
      refine own_st (fun _ k => XS.bipush X0.here hx rfl (hb hby d5_17) k) ?_
      show own_Go p e s below _ _ _ T0 (mkF m 19 #[.val (.ref a), .val (.int F.toInt32), .val (.int C.toInt32), .val (.int acc), .val (.int ((F + j).toInt32)), s5] [(.int (48 : Int32)), (.int ([d0, d1, d2, d3, d4].getD (F + j) 0))])
      refine own_st (fun _ k => XS.isub X0.here hx rfl (hb hby d5_19) rfl k) ?_
      show own_Go p e s below _ _ _ T0 (mkF m 20 #[.val (.ref a), .val (.int F.toInt32), .val (.int C.toInt32), .val (.int acc), .val (.int ((F + j).toInt32)), s5] [(.int (([d0, d1, d2, d3, d4].getD (F + j) 0) - (48 : Int32)))])
      refine own_st (fun _ k => XS.istore X0.here hx rfl (hb hby d5_20) rfl (l' := #[.val (.ref a), .val (.int F.toInt32), .val (.int C.toInt32), .val (.int acc), .val (.int ((F + j).toInt32)), .val (.int (([d0, d1, d2, d3, d4].getD (F + j) 0) - (48 : Int32)))]) (own_s5 hs) k) ?_
      show own_Go p e s below _ _ _ T0 (mkF m 22 #[.val (.ref a), .val (.int F.toInt32), .val (.int C.toInt32), .val (.int acc), .val (.int ((F + j).toInt32)), .val (.int (([d0, d1, d2, d3, d4].getD (F + j) 0) - (48 : Int32)))] [])
      simp only [own_run] at hrun
      refine own_st (fun _ k => XS.iload X0.here hx rfl (hb hby d5_22) rfl k) ?_
      show own_Go p e s below _ _ _ T0 (mkF m 24 #[.val (.ref a), .val (.int F.toInt32), .val (.int C.toInt32), .val (.int acc), .val (.int ((F + j).toInt32)), .val (.int (([d0, d1, d2, d3, d4].getD (F + j) 0) - (48 : Int32)))] [(.int (([d0, d1, d2, d3, d4].getD (F + j) 0) - (48 : Int32)))])
      by_cases k1 : (([d0, d1, d2, d3, d4].getD (F + j) 0) - (48 : Int32)) < (0 : Int32)
      · refine own_st (fun _ k => XS.ifYes X0.here hx rfl (pc0 := 24) (pc' := 34) rfl (hb hby d5_24) rfl ((if0 _ _).trans (tlt k1).1) (by decide) (by decide) k) ?_
        show own_Go p e s below _ _ _ T0 (mkF m 34 #[.val (.ref a), .val (.int F.toInt32), .val (.int C.toInt32), .val (.int acc), .val (.int ((F + j).toInt32)), .val (.int (([d0, d1, d2, d3, d4].getD (F + j) 0) - (48 : Int32)))] [])
        refine own_st (fun _ k => XS.iconst X0.here hx rfl (hb hby d5_34) k) ?_
        show own_Go p e s below _ _ _ T0 (mkF m 35 #[.val (.ref a), .val (.int F.toInt32), .val (.int C.toInt32), .val (.int acc), .val (.int ((F + j).toInt32)), .val (.int (([d0, d1, d2, d3, d4].getD (F + j) 0) - (48 : Int32)))] [(.int (-1 : Int32))])
        exact own_retI X0 hx hlk hret (hb hby d5_35) (by decide) (by decide) ⟨by rw [← hrun, if_pos (Or.inl k1)], N0, e0⟩
      refine own_st (fun _ k => XS.ifNo X0.here hx rfl (hb hby d5_24) rfl ((if0 _ _).trans (flt k1).1) k) ?_
      show own_Go p e s below _ _ _ T0 (mkF m 27 #[.val (.ref a), .val (.int F.toInt32), .val (.int C.toInt32), .val (.int acc), .val (.int ((F + j).toInt32)), .val (.int (([d0, d1, d2, d3, d4].getD (F + j) 0) - (48 : Int32)))] [])
      refine own_st (fun _ k => XS.iload X0.here hx rfl (hb hby d5_27) rfl k) ?_
      show own_Go p e s below _ _ _ T0 (mkF m 29 #[.val (.ref a), .val (.int F.toInt32), .val (.int C.toInt32), .val (.int acc), .val (.int ((F + j).toInt32)), .val (.int (([d0, d1, d2, d3, d4].getD (F + j) 0) - (48 : Int32)))] [(.int (([d0, d1, d2, d3, d4].getD (F + j) 0) - (48 : Int32)))])
      refine own_st (fun _ k => XS.bipush X0.here hx rfl (hb hby d5_29) k) ?_
      show own_Go p e s below _ _ _ T0 (mkF m 31 #[.val (.ref a), .val (.int F.toInt32), .val (.int C.toInt32), .val (.int acc), .val (.int ((F + j).toInt32)), .val (.int (([d0, d1, d2, d3, d4].getD (F + j) 0) - (48 : Int32)))] [(.int (9 : Int32)), (.int (([d0, d1, d2, d3, d4].getD (F + j) 0) - (48 : Int32)))])
      by_cases k2 : (9 : Int32) < (([d0, d1, d2, d3, d4].getD (F + j) 0) - (48 : Int32))
      · refine own_st (fun _ k => XS.icmpNo X0.here hx rfl (hb hby d5_31) rfl (tlt k2).2.2.2 k) ?_
        show own_Go p e s below _ _ _ T0 (mkF m 34 #[.val (.ref a), .val (.int F.toInt32), .val (.int C.toInt32), .val (.int acc), .val (.int ((F + j).toInt32)), .val (.int (([d0, d1, d2, d3, d4].getD (F + j) 0) - (48 : Int32)))] [])
        refine own_st (fun _ k => XS.iconst X0.here hx rfl (hb hby d5_34) k) ?_
        show own_Go p e s below _ _ _ T0 (mkF m 35 #[.val (.ref a), .val (.int F.toInt32), .val (.int C.toInt32), .val (.int acc), .val (.int ((F + j).toInt32)), .val (.int (([d0, d1, d2, d3, d4].getD (F + j) 0) - (48 : Int32)))] [(.int (-1 : Int32))])
        exact own_retI X0 hx hlk hret (hb hby d5_35) (by decide) (by decide) ⟨by rw [← hrun, if_pos (Or.inr k2)], N0, e0⟩
      refine own_st (fun _ k => XS.icmpYes X0.here hx rfl (pc0 := 31) (pc' := 36) rfl (hb hby d5_31) rfl (flt k2).2.2.2 (by decide) (by decide) k) ?_
      show own_Go p e s below _ _ _ T0 (mkF m 36 #[.val (.ref a), .val (.int F.toInt32), .val (.int C.toInt32), .val (.int acc), .val (.int ((F + j).toInt32)), .val (.int (([d0, d1, d2, d3, d4].getD (F + j) 0) - (48 : Int32)))] [])
      refine own_st (fun _ k => XS.iloadN X0.here hx rfl (hb hby d5_36) rfl k) ?_
      show own_Go p e s below _ _ _ T0 (mkF m 37 #[.val (.ref a), .val (.int F.toInt32), .val (.int C.toInt32), .val (.int acc), .val (.int ((F + j).toInt32)), .val (.int (([d0, d1, d2, d3, d4].getD (F + j) 0) - (48 : Int32)))] [(.int acc)])
      refine own_st (fun _ k => XS.bipush X0.here hx rfl (hb hby d5_37) k) ?_
      show own_Go p e s below _ _ _ T0 (mkF m 39 #[.val (.ref a), .val (.int F.toInt32), .val (.int C.toInt32), .val (.int acc), .val (.int ((F + j).toInt32)), .val (.int (([d0, d1, d2, d3, d4].getD (F + j) 0) - (48 : Int32)))] [(.int (10 : Int32)), (.int acc)])
      refine own_st (fun _ k => XS.imul X0.here hx rfl (hb hby d5_39) rfl k) ?_
      show own_Go p e s below _ _ _ T0 (mkF m 40 #[.val (.ref a), .val (.int F.toInt32), .val (.int C.toInt32), .val (.int acc), .val (.int ((F + j).toInt32)), .val (.int (([d0, d1, d2, d3, d4].getD (F + j) 0) - (48 : Int32)))] [(.int (acc * (10 : Int32)))])
      refine own_st (fun _ k => XS.iload X0.here hx rfl (hb hby d5_40) rfl k) ?_
      show own_Go p e s below _ _ _ T0 (mkF m 42 #[.val (.ref a), .val (.int F.toInt32), .val (.int C.toInt32), .val (.int acc), .val (.int ((F + j).toInt32)), .val (.int (([d0, d1, d2, d3, d4].getD (F + j) 0) - (48 : Int32)))] [(.int (([d0, d1, d2, d3, d4].getD (F + j) 0) - (48 : Int32))), (.int (acc * (10 : Int32)))])
      refine own_st (fun _ k => XS.iadd X0.here hx rfl (hb hby d5_42) rfl k) ?_
      show own_Go p e s below _ _ _ T0 (mkF m 43 #[.val (.ref a), .val (.int F.toInt32), .val (.int C.toInt32), .val (.int acc), .val (.int ((F + j).toInt32)), .val (.int (([d0, d1, d2, d3, d4].getD (F + j) 0) - (48 : Int32)))] [(.int ((acc * (10 : Int32)) + (([d0, d1, d2, d3, d4].getD (F + j) 0) - (48 : Int32))))])
      refine own_st (fun _ k => XS.istoreN X0.here hx rfl (hb hby d5_43) rfl (l' := #[.val (.ref a), .val (.int F.toInt32), .val (.int C.toInt32), .val (.int ((acc * (10 : Int32)) + (([d0, d1, d2, d3, d4].getD (F + j) 0) - (48 : Int32)))), .val (.int ((F + j).toInt32)), .val (.int (([d0, d1, d2, d3, d4].getD (F + j) 0) - (48 : Int32)))]) rfl k) ?_
      show own_Go p e s below _ _ _ T0 (mkF m 44 #[.val (.ref a), .val (.int F.toInt32), .val (.int C.toInt32), .val (.int ((acc * (10 : Int32)) + (([d0, d1, d2, d3, d4].getD (F + j) 0) - (48 : Int32)))), .val (.int ((F + j).toInt32)), .val (.int (([d0, d1, d2, d3, d4].getD (F + j) 0) - (48 : Int32)))] [])
      rw [if_neg (fun q => q.elim k1 k2)] at hrun
      have up : ((F + j).toInt32 + Int32.ofInt 1) = (F + (j + 1)).toInt32 := own_up (F + j) (by omega)
      refine own_st (fun _ k => XS.iinc X0.here hx rfl (hb hby d5_44) rfl (l' := #[.val (.ref a), .val (.int F.toInt32), .val (.int C.toInt32), .val (.int ((acc * (10 : Int32)) + (([d0, d1, d2, d3, d4].getD (F + j) 0) - (48 : Int32)))), .val (.int ((F + (j + 1)).toInt32)), .val (.int (([d0, d1, d2, d3, d4].getD (F + j) 0) - (48 : Int32)))]) (congrArg (fun z => some (#[.val (.ref a), .val (.int F.toInt32), .val (.int C.toInt32), .val (.int ((acc * (10 : Int32)) + (([d0, d1, d2, d3, d4].getD (F + j) 0) - (48 : Int32)))), .val (.int z), .val (.int (([d0, d1, d2, d3, d4].getD (F + j) 0) - (48 : Int32)))] : Array Slot)) up) k) ?_
      show own_Go p e s below _ _ _ T0 (mkF m 47 #[.val (.ref a), .val (.int F.toInt32), .val (.int C.toInt32), .val (.int ((acc * (10 : Int32)) + (([d0, d1, d2, d3, d4].getD (F + j) 0) - (48 : Int32)))), .val (.int ((F + (j + 1)).toInt32)), .val (.int (([d0, d1, d2, d3, d4].getD (F + j) 0) - (48 : Int32)))] [])
      refine own_st (fun _ k => XS.goto X0.here hx rfl (pc0 := 47) (pc' := 5) rfl (hb hby d5_47) (by decide) (by decide) k) ?_
      show own_Go p e s below _ _ _ T0 (mkF m 5 #[.val (.ref a), .val (.int F.toInt32), .val (.int C.toInt32), .val (.int ((acc * (10 : Int32)) + (([d0, d1, d2, d3, d4].getD (F + j) 0) - (48 : Int32)))), .val (.int ((F + (j + 1)).toInt32)), .val (.int (([d0, d1, d2, d3, d4].getD (F + j) 0) - (48 : Int32)))] [])
      exact ih (j + 1) _ _ (One.val rfl) (by omega) hrun
  exact loop C 0 0 _ One.u (by omega) rfl
theorem own_dd (d : Int32) (g : own_dg d) : ¬ (d - 48 < 0 ∨ 9 < d - 48) := by
  obtain ⟨g1, g2⟩ := g
  have a := c_isub d 48
  have l : (48 : Int32).toInt = 48 := by decide
  have r := rng32 (d - 48)
  simp only [Int32.lt_iff_toInt_lt, Int32.reduceToInt] at g1 g2 ⊢
  omega
theorem own_dn (d : Int32) (hd : -128 ≤ d.toInt ∧ d.toInt < 128) (g : ¬ own_dg d) : d - 48 < 0 ∨ 9 < d - 48 := by
  have a := c_isub d 48
  have l : (48 : Int32).toInt = 48 := by decide
  have r := rng32 (d - 48)
  have r2 := rng32 d
  have hb : -128 ≤ d.toInt ∧ d.toInt < 128 := hd
  simp only [own_dg, Int32.lt_iff_toInt_lt, Int32.reduceToInt] at g ⊢
  omega
theorem own_law_0_0 (d0 d1 d2 d3 d4 : Int32) (hb0 : -128 ≤ d0.toInt ∧ d0.toInt < 128) (hb1 : -128 ≤ d1.toInt ∧ d1.toInt < 128) (hb2 : -128 ≤ d2.toInt ∧ d2.toInt < 128) (hb3 : -128 ≤ d3.toInt ∧ d3.toInt < 128) (hb4 : -128 ≤ d4.toInt ∧ d4.toInt < 128) : own_run [d0, d1, d2, d3, d4] 0 0 0 = if ((own_in (0 : Int32) (0 : Nat).toInt32 (0 : Nat).toInt32 ∧ ¬ own_dg d0) ∨ (own_in (1 : Int32) (0 : Nat).toInt32 (0 : Nat).toInt32 ∧ ¬ own_dg d1) ∨ (own_in (2 : Int32) (0 : Nat).toInt32 (0 : Nat).toInt32 ∧ ¬ own_dg d2) ∨ (own_in (3 : Int32) (0 : Nat).toInt32 (0 : Nat).toInt32 ∧ ¬ own_dg d3) ∨ (own_in (4 : Int32) (0 : Nat).toInt32 (0 : Nat).toInt32 ∧ ¬ own_dg d4)) then -1 else (((((own_part (0 : Int32) (0 : Nat).toInt32 (0 : Nat).toInt32 d0) + own_part (1 : Int32) (0 : Nat).toInt32 (0 : Nat).toInt32 d1) + own_part (2 : Int32) (0 : Nat).toInt32 (0 : Nat).toInt32 d2) + own_part (3 : Int32) (0 : Nat).toInt32 (0 : Nat).toInt32 d3) + own_part (4 : Int32) (0 : Nat).toInt32 (0 : Nat).toInt32 d4) := by
  have nb : ¬ ((own_in (0 : Int32) (0 : Nat).toInt32 (0 : Nat).toInt32 ∧ ¬ own_dg d0) ∨ (own_in (1 : Int32) (0 : Nat).toInt32 (0 : Nat).toInt32 ∧ ¬ own_dg d1) ∨ (own_in (2 : Int32) (0 : Nat).toInt32 (0 : Nat).toInt32 ∧ ¬ own_dg d2) ∨ (own_in (3 : Int32) (0 : Nat).toInt32 (0 : Nat).toInt32 ∧ ¬ own_dg d3) ∨ (own_in (4 : Int32) (0 : Nat).toInt32 (0 : Nat).toInt32 ∧ ¬ own_dg d4)) := by
    rintro (⟨q, g⟩ | ⟨q, g⟩ | ⟨q, g⟩ | ⟨q, g⟩ | ⟨q, g⟩)
    · exact absurd q (by decide)
    · exact absurd q (by decide)
    · exact absurd q (by decide)
    · exact absurd q (by decide)
    · exact absurd q (by decide)
  rw [if_neg nb]
  have e0 : own_part (0 : Int32) (0 : Nat).toInt32 (0 : Nat).toInt32 d0 = 0 := by unfold own_part; rw [if_neg (fun q => absurd q.1 (by decide))]
  have e1 : own_part (1 : Int32) (0 : Nat).toInt32 (0 : Nat).toInt32 d1 = 0 := by unfold own_part; rw [if_neg (fun q => absurd q.1 (by decide))]
  have e2 : own_part (2 : Int32) (0 : Nat).toInt32 (0 : Nat).toInt32 d2 = 0 := by unfold own_part; rw [if_neg (fun q => absurd q.1 (by decide))]
  have e3 : own_part (3 : Int32) (0 : Nat).toInt32 (0 : Nat).toInt32 d3 = 0 := by unfold own_part; rw [if_neg (fun q => absurd q.1 (by decide))]
  have e4 : own_part (4 : Int32) (0 : Nat).toInt32 (0 : Nat).toInt32 d4 = 0 := by unfold own_part; rw [if_neg (fun q => absurd q.1 (by decide))]
  rw [e0, e1, e2, e3, e4]
  simp only [own_run, List.getD_cons_zero, List.getD_cons_succ]
  grind
theorem own_law_0_1 (d0 d1 d2 d3 d4 : Int32) (hb0 : -128 ≤ d0.toInt ∧ d0.toInt < 128) (hb1 : -128 ≤ d1.toInt ∧ d1.toInt < 128) (hb2 : -128 ≤ d2.toInt ∧ d2.toInt < 128) (hb3 : -128 ≤ d3.toInt ∧ d3.toInt < 128) (hb4 : -128 ≤ d4.toInt ∧ d4.toInt < 128) : own_run [d0, d1, d2, d3, d4] 0 1 0 = if ((own_in (0 : Int32) (0 : Nat).toInt32 (1 : Nat).toInt32 ∧ ¬ own_dg d0) ∨ (own_in (1 : Int32) (0 : Nat).toInt32 (1 : Nat).toInt32 ∧ ¬ own_dg d1) ∨ (own_in (2 : Int32) (0 : Nat).toInt32 (1 : Nat).toInt32 ∧ ¬ own_dg d2) ∨ (own_in (3 : Int32) (0 : Nat).toInt32 (1 : Nat).toInt32 ∧ ¬ own_dg d3) ∨ (own_in (4 : Int32) (0 : Nat).toInt32 (1 : Nat).toInt32 ∧ ¬ own_dg d4)) then -1 else (((((own_part (0 : Int32) (0 : Nat).toInt32 (1 : Nat).toInt32 d0) + own_part (1 : Int32) (0 : Nat).toInt32 (1 : Nat).toInt32 d1) + own_part (2 : Int32) (0 : Nat).toInt32 (1 : Nat).toInt32 d2) + own_part (3 : Int32) (0 : Nat).toInt32 (1 : Nat).toInt32 d3) + own_part (4 : Int32) (0 : Nat).toInt32 (1 : Nat).toInt32 d4) := by
  by_cases g0 : own_dg d0
  · have nb : ¬ ((own_in (0 : Int32) (0 : Nat).toInt32 (1 : Nat).toInt32 ∧ ¬ own_dg d0) ∨ (own_in (1 : Int32) (0 : Nat).toInt32 (1 : Nat).toInt32 ∧ ¬ own_dg d1) ∨ (own_in (2 : Int32) (0 : Nat).toInt32 (1 : Nat).toInt32 ∧ ¬ own_dg d2) ∨ (own_in (3 : Int32) (0 : Nat).toInt32 (1 : Nat).toInt32 ∧ ¬ own_dg d3) ∨ (own_in (4 : Int32) (0 : Nat).toInt32 (1 : Nat).toInt32 ∧ ¬ own_dg d4)) := by
      rintro (⟨q, g⟩ | ⟨q, g⟩ | ⟨q, g⟩ | ⟨q, g⟩ | ⟨q, g⟩)
      · exact g g0
      · exact absurd q (by decide)
      · exact absurd q (by decide)
      · exact absurd q (by decide)
      · exact absurd q (by decide)
    rw [if_neg nb]
    have e0 : own_part (0 : Int32) (0 : Nat).toInt32 (1 : Nat).toInt32 d0 = (d0 - 48) * 1 := by unfold own_part; rw [if_pos ⟨by decide, g0⟩]; rfl
    have e1 : own_part (1 : Int32) (0 : Nat).toInt32 (1 : Nat).toInt32 d1 = 0 := by unfold own_part; rw [if_neg (fun q => absurd q.1 (by decide))]
    have e2 : own_part (2 : Int32) (0 : Nat).toInt32 (1 : Nat).toInt32 d2 = 0 := by unfold own_part; rw [if_neg (fun q => absurd q.1 (by decide))]
    have e3 : own_part (3 : Int32) (0 : Nat).toInt32 (1 : Nat).toInt32 d3 = 0 := by unfold own_part; rw [if_neg (fun q => absurd q.1 (by decide))]
    have e4 : own_part (4 : Int32) (0 : Nat).toInt32 (1 : Nat).toInt32 d4 = 0 := by unfold own_part; rw [if_neg (fun q => absurd q.1 (by decide))]
    rw [e0, e1, e2, e3, e4]
    simp only [own_run, List.getD_cons_zero, List.getD_cons_succ, own_dd d0 g0, if_false]
    grind
  · rw [if_pos (Or.inl ⟨by decide, g0⟩)]
    simp only [own_run, List.getD_cons_zero, List.getD_cons_succ, own_dn d0 hb0 g0, if_true]
theorem own_law_0_2 (d0 d1 d2 d3 d4 : Int32) (hb0 : -128 ≤ d0.toInt ∧ d0.toInt < 128) (hb1 : -128 ≤ d1.toInt ∧ d1.toInt < 128) (hb2 : -128 ≤ d2.toInt ∧ d2.toInt < 128) (hb3 : -128 ≤ d3.toInt ∧ d3.toInt < 128) (hb4 : -128 ≤ d4.toInt ∧ d4.toInt < 128) : own_run [d0, d1, d2, d3, d4] 0 2 0 = if ((own_in (0 : Int32) (0 : Nat).toInt32 (2 : Nat).toInt32 ∧ ¬ own_dg d0) ∨ (own_in (1 : Int32) (0 : Nat).toInt32 (2 : Nat).toInt32 ∧ ¬ own_dg d1) ∨ (own_in (2 : Int32) (0 : Nat).toInt32 (2 : Nat).toInt32 ∧ ¬ own_dg d2) ∨ (own_in (3 : Int32) (0 : Nat).toInt32 (2 : Nat).toInt32 ∧ ¬ own_dg d3) ∨ (own_in (4 : Int32) (0 : Nat).toInt32 (2 : Nat).toInt32 ∧ ¬ own_dg d4)) then -1 else (((((own_part (0 : Int32) (0 : Nat).toInt32 (2 : Nat).toInt32 d0) + own_part (1 : Int32) (0 : Nat).toInt32 (2 : Nat).toInt32 d1) + own_part (2 : Int32) (0 : Nat).toInt32 (2 : Nat).toInt32 d2) + own_part (3 : Int32) (0 : Nat).toInt32 (2 : Nat).toInt32 d3) + own_part (4 : Int32) (0 : Nat).toInt32 (2 : Nat).toInt32 d4) := by
  by_cases g0 : own_dg d0
  · by_cases g1 : own_dg d1
    · have nb : ¬ ((own_in (0 : Int32) (0 : Nat).toInt32 (2 : Nat).toInt32 ∧ ¬ own_dg d0) ∨ (own_in (1 : Int32) (0 : Nat).toInt32 (2 : Nat).toInt32 ∧ ¬ own_dg d1) ∨ (own_in (2 : Int32) (0 : Nat).toInt32 (2 : Nat).toInt32 ∧ ¬ own_dg d2) ∨ (own_in (3 : Int32) (0 : Nat).toInt32 (2 : Nat).toInt32 ∧ ¬ own_dg d3) ∨ (own_in (4 : Int32) (0 : Nat).toInt32 (2 : Nat).toInt32 ∧ ¬ own_dg d4)) := by
        rintro (⟨q, g⟩ | ⟨q, g⟩ | ⟨q, g⟩ | ⟨q, g⟩ | ⟨q, g⟩)
        · exact g g0
        · exact g g1
        · exact absurd q (by decide)
        · exact absurd q (by decide)
        · exact absurd q (by decide)
      rw [if_neg nb]
      have e0 : own_part (0 : Int32) (0 : Nat).toInt32 (2 : Nat).toInt32 d0 = (d0 - 48) * 10 := by unfold own_part; rw [if_pos ⟨by decide, g0⟩]; rfl
      have e1 : own_part (1 : Int32) (0 : Nat).toInt32 (2 : Nat).toInt32 d1 = (d1 - 48) * 1 := by unfold own_part; rw [if_pos ⟨by decide, g1⟩]; rfl
      have e2 : own_part (2 : Int32) (0 : Nat).toInt32 (2 : Nat).toInt32 d2 = 0 := by unfold own_part; rw [if_neg (fun q => absurd q.1 (by decide))]
      have e3 : own_part (3 : Int32) (0 : Nat).toInt32 (2 : Nat).toInt32 d3 = 0 := by unfold own_part; rw [if_neg (fun q => absurd q.1 (by decide))]
      have e4 : own_part (4 : Int32) (0 : Nat).toInt32 (2 : Nat).toInt32 d4 = 0 := by unfold own_part; rw [if_neg (fun q => absurd q.1 (by decide))]
      rw [e0, e1, e2, e3, e4]
      simp only [own_run, List.getD_cons_zero, List.getD_cons_succ, own_dd d0 g0, if_false, own_dd d1 g1, if_false]
      grind
    · rw [if_pos (Or.inr (Or.inl ⟨by decide, g1⟩))]
      simp only [own_run, List.getD_cons_zero, List.getD_cons_succ, own_dd d0 g0, if_false, own_dn d1 hb1 g1, if_true]
  · rw [if_pos (Or.inl ⟨by decide, g0⟩)]
    simp only [own_run, List.getD_cons_zero, List.getD_cons_succ, own_dn d0 hb0 g0, if_true]
theorem own_law_0_3 (d0 d1 d2 d3 d4 : Int32) (hb0 : -128 ≤ d0.toInt ∧ d0.toInt < 128) (hb1 : -128 ≤ d1.toInt ∧ d1.toInt < 128) (hb2 : -128 ≤ d2.toInt ∧ d2.toInt < 128) (hb3 : -128 ≤ d3.toInt ∧ d3.toInt < 128) (hb4 : -128 ≤ d4.toInt ∧ d4.toInt < 128) : own_run [d0, d1, d2, d3, d4] 0 3 0 = if ((own_in (0 : Int32) (0 : Nat).toInt32 (3 : Nat).toInt32 ∧ ¬ own_dg d0) ∨ (own_in (1 : Int32) (0 : Nat).toInt32 (3 : Nat).toInt32 ∧ ¬ own_dg d1) ∨ (own_in (2 : Int32) (0 : Nat).toInt32 (3 : Nat).toInt32 ∧ ¬ own_dg d2) ∨ (own_in (3 : Int32) (0 : Nat).toInt32 (3 : Nat).toInt32 ∧ ¬ own_dg d3) ∨ (own_in (4 : Int32) (0 : Nat).toInt32 (3 : Nat).toInt32 ∧ ¬ own_dg d4)) then -1 else (((((own_part (0 : Int32) (0 : Nat).toInt32 (3 : Nat).toInt32 d0) + own_part (1 : Int32) (0 : Nat).toInt32 (3 : Nat).toInt32 d1) + own_part (2 : Int32) (0 : Nat).toInt32 (3 : Nat).toInt32 d2) + own_part (3 : Int32) (0 : Nat).toInt32 (3 : Nat).toInt32 d3) + own_part (4 : Int32) (0 : Nat).toInt32 (3 : Nat).toInt32 d4) := by
  by_cases g0 : own_dg d0
  · by_cases g1 : own_dg d1
    · by_cases g2 : own_dg d2
      · have nb : ¬ ((own_in (0 : Int32) (0 : Nat).toInt32 (3 : Nat).toInt32 ∧ ¬ own_dg d0) ∨ (own_in (1 : Int32) (0 : Nat).toInt32 (3 : Nat).toInt32 ∧ ¬ own_dg d1) ∨ (own_in (2 : Int32) (0 : Nat).toInt32 (3 : Nat).toInt32 ∧ ¬ own_dg d2) ∨ (own_in (3 : Int32) (0 : Nat).toInt32 (3 : Nat).toInt32 ∧ ¬ own_dg d3) ∨ (own_in (4 : Int32) (0 : Nat).toInt32 (3 : Nat).toInt32 ∧ ¬ own_dg d4)) := by
          rintro (⟨q, g⟩ | ⟨q, g⟩ | ⟨q, g⟩ | ⟨q, g⟩ | ⟨q, g⟩)
          · exact g g0
          · exact g g1
          · exact g g2
          · exact absurd q (by decide)
          · exact absurd q (by decide)
        rw [if_neg nb]
        have e0 : own_part (0 : Int32) (0 : Nat).toInt32 (3 : Nat).toInt32 d0 = (d0 - 48) * 100 := by unfold own_part; rw [if_pos ⟨by decide, g0⟩]; rfl
        have e1 : own_part (1 : Int32) (0 : Nat).toInt32 (3 : Nat).toInt32 d1 = (d1 - 48) * 10 := by unfold own_part; rw [if_pos ⟨by decide, g1⟩]; rfl
        have e2 : own_part (2 : Int32) (0 : Nat).toInt32 (3 : Nat).toInt32 d2 = (d2 - 48) * 1 := by unfold own_part; rw [if_pos ⟨by decide, g2⟩]; rfl
        have e3 : own_part (3 : Int32) (0 : Nat).toInt32 (3 : Nat).toInt32 d3 = 0 := by unfold own_part; rw [if_neg (fun q => absurd q.1 (by decide))]
        have e4 : own_part (4 : Int32) (0 : Nat).toInt32 (3 : Nat).toInt32 d4 = 0 := by unfold own_part; rw [if_neg (fun q => absurd q.1 (by decide))]
        rw [e0, e1, e2, e3, e4]
        simp only [own_run, List.getD_cons_zero, List.getD_cons_succ, own_dd d0 g0, if_false, own_dd d1 g1, if_false, own_dd d2 g2, if_false]
        grind
      · rw [if_pos (Or.inr (Or.inr (Or.inl ⟨by decide, g2⟩)))]
        simp only [own_run, List.getD_cons_zero, List.getD_cons_succ, own_dd d0 g0, if_false, own_dd d1 g1, if_false, own_dn d2 hb2 g2, if_true]
    · rw [if_pos (Or.inr (Or.inl ⟨by decide, g1⟩))]
      simp only [own_run, List.getD_cons_zero, List.getD_cons_succ, own_dd d0 g0, if_false, own_dn d1 hb1 g1, if_true]
  · rw [if_pos (Or.inl ⟨by decide, g0⟩)]
    simp only [own_run, List.getD_cons_zero, List.getD_cons_succ, own_dn d0 hb0 g0, if_true]
theorem own_law_0_4 (d0 d1 d2 d3 d4 : Int32) (hb0 : -128 ≤ d0.toInt ∧ d0.toInt < 128) (hb1 : -128 ≤ d1.toInt ∧ d1.toInt < 128) (hb2 : -128 ≤ d2.toInt ∧ d2.toInt < 128) (hb3 : -128 ≤ d3.toInt ∧ d3.toInt < 128) (hb4 : -128 ≤ d4.toInt ∧ d4.toInt < 128) : own_run [d0, d1, d2, d3, d4] 0 4 0 = if ((own_in (0 : Int32) (0 : Nat).toInt32 (4 : Nat).toInt32 ∧ ¬ own_dg d0) ∨ (own_in (1 : Int32) (0 : Nat).toInt32 (4 : Nat).toInt32 ∧ ¬ own_dg d1) ∨ (own_in (2 : Int32) (0 : Nat).toInt32 (4 : Nat).toInt32 ∧ ¬ own_dg d2) ∨ (own_in (3 : Int32) (0 : Nat).toInt32 (4 : Nat).toInt32 ∧ ¬ own_dg d3) ∨ (own_in (4 : Int32) (0 : Nat).toInt32 (4 : Nat).toInt32 ∧ ¬ own_dg d4)) then -1 else (((((own_part (0 : Int32) (0 : Nat).toInt32 (4 : Nat).toInt32 d0) + own_part (1 : Int32) (0 : Nat).toInt32 (4 : Nat).toInt32 d1) + own_part (2 : Int32) (0 : Nat).toInt32 (4 : Nat).toInt32 d2) + own_part (3 : Int32) (0 : Nat).toInt32 (4 : Nat).toInt32 d3) + own_part (4 : Int32) (0 : Nat).toInt32 (4 : Nat).toInt32 d4) := by
  by_cases g0 : own_dg d0
  · by_cases g1 : own_dg d1
    · by_cases g2 : own_dg d2
      · by_cases g3 : own_dg d3
        · have nb : ¬ ((own_in (0 : Int32) (0 : Nat).toInt32 (4 : Nat).toInt32 ∧ ¬ own_dg d0) ∨ (own_in (1 : Int32) (0 : Nat).toInt32 (4 : Nat).toInt32 ∧ ¬ own_dg d1) ∨ (own_in (2 : Int32) (0 : Nat).toInt32 (4 : Nat).toInt32 ∧ ¬ own_dg d2) ∨ (own_in (3 : Int32) (0 : Nat).toInt32 (4 : Nat).toInt32 ∧ ¬ own_dg d3) ∨ (own_in (4 : Int32) (0 : Nat).toInt32 (4 : Nat).toInt32 ∧ ¬ own_dg d4)) := by
            rintro (⟨q, g⟩ | ⟨q, g⟩ | ⟨q, g⟩ | ⟨q, g⟩ | ⟨q, g⟩)
            · exact g g0
            · exact g g1
            · exact g g2
            · exact g g3
            · exact absurd q (by decide)
          rw [if_neg nb]
          have e0 : own_part (0 : Int32) (0 : Nat).toInt32 (4 : Nat).toInt32 d0 = (d0 - 48) * 1000 := by unfold own_part; rw [if_pos ⟨by decide, g0⟩]; rfl
          have e1 : own_part (1 : Int32) (0 : Nat).toInt32 (4 : Nat).toInt32 d1 = (d1 - 48) * 100 := by unfold own_part; rw [if_pos ⟨by decide, g1⟩]; rfl
          have e2 : own_part (2 : Int32) (0 : Nat).toInt32 (4 : Nat).toInt32 d2 = (d2 - 48) * 10 := by unfold own_part; rw [if_pos ⟨by decide, g2⟩]; rfl
          have e3 : own_part (3 : Int32) (0 : Nat).toInt32 (4 : Nat).toInt32 d3 = (d3 - 48) * 1 := by unfold own_part; rw [if_pos ⟨by decide, g3⟩]; rfl
          have e4 : own_part (4 : Int32) (0 : Nat).toInt32 (4 : Nat).toInt32 d4 = 0 := by unfold own_part; rw [if_neg (fun q => absurd q.1 (by decide))]
          rw [e0, e1, e2, e3, e4]
          simp only [own_run, List.getD_cons_zero, List.getD_cons_succ, own_dd d0 g0, if_false, own_dd d1 g1, if_false, own_dd d2 g2, if_false, own_dd d3 g3, if_false]
          grind
        · rw [if_pos (Or.inr (Or.inr (Or.inr (Or.inl ⟨by decide, g3⟩))))]
          simp only [own_run, List.getD_cons_zero, List.getD_cons_succ, own_dd d0 g0, if_false, own_dd d1 g1, if_false, own_dd d2 g2, if_false, own_dn d3 hb3 g3, if_true]
      · rw [if_pos (Or.inr (Or.inr (Or.inl ⟨by decide, g2⟩)))]
        simp only [own_run, List.getD_cons_zero, List.getD_cons_succ, own_dd d0 g0, if_false, own_dd d1 g1, if_false, own_dn d2 hb2 g2, if_true]
    · rw [if_pos (Or.inr (Or.inl ⟨by decide, g1⟩))]
      simp only [own_run, List.getD_cons_zero, List.getD_cons_succ, own_dd d0 g0, if_false, own_dn d1 hb1 g1, if_true]
  · rw [if_pos (Or.inl ⟨by decide, g0⟩)]
    simp only [own_run, List.getD_cons_zero, List.getD_cons_succ, own_dn d0 hb0 g0, if_true]
theorem own_law_0_5 (d0 d1 d2 d3 d4 : Int32) (hb0 : -128 ≤ d0.toInt ∧ d0.toInt < 128) (hb1 : -128 ≤ d1.toInt ∧ d1.toInt < 128) (hb2 : -128 ≤ d2.toInt ∧ d2.toInt < 128) (hb3 : -128 ≤ d3.toInt ∧ d3.toInt < 128) (hb4 : -128 ≤ d4.toInt ∧ d4.toInt < 128) : own_run [d0, d1, d2, d3, d4] 0 5 0 = if ((own_in (0 : Int32) (0 : Nat).toInt32 (5 : Nat).toInt32 ∧ ¬ own_dg d0) ∨ (own_in (1 : Int32) (0 : Nat).toInt32 (5 : Nat).toInt32 ∧ ¬ own_dg d1) ∨ (own_in (2 : Int32) (0 : Nat).toInt32 (5 : Nat).toInt32 ∧ ¬ own_dg d2) ∨ (own_in (3 : Int32) (0 : Nat).toInt32 (5 : Nat).toInt32 ∧ ¬ own_dg d3) ∨ (own_in (4 : Int32) (0 : Nat).toInt32 (5 : Nat).toInt32 ∧ ¬ own_dg d4)) then -1 else (((((own_part (0 : Int32) (0 : Nat).toInt32 (5 : Nat).toInt32 d0) + own_part (1 : Int32) (0 : Nat).toInt32 (5 : Nat).toInt32 d1) + own_part (2 : Int32) (0 : Nat).toInt32 (5 : Nat).toInt32 d2) + own_part (3 : Int32) (0 : Nat).toInt32 (5 : Nat).toInt32 d3) + own_part (4 : Int32) (0 : Nat).toInt32 (5 : Nat).toInt32 d4) := by
  by_cases g0 : own_dg d0
  · by_cases g1 : own_dg d1
    · by_cases g2 : own_dg d2
      · by_cases g3 : own_dg d3
        · by_cases g4 : own_dg d4
          · have nb : ¬ ((own_in (0 : Int32) (0 : Nat).toInt32 (5 : Nat).toInt32 ∧ ¬ own_dg d0) ∨ (own_in (1 : Int32) (0 : Nat).toInt32 (5 : Nat).toInt32 ∧ ¬ own_dg d1) ∨ (own_in (2 : Int32) (0 : Nat).toInt32 (5 : Nat).toInt32 ∧ ¬ own_dg d2) ∨ (own_in (3 : Int32) (0 : Nat).toInt32 (5 : Nat).toInt32 ∧ ¬ own_dg d3) ∨ (own_in (4 : Int32) (0 : Nat).toInt32 (5 : Nat).toInt32 ∧ ¬ own_dg d4)) := by
              rintro (⟨q, g⟩ | ⟨q, g⟩ | ⟨q, g⟩ | ⟨q, g⟩ | ⟨q, g⟩)
              · exact g g0
              · exact g g1
              · exact g g2
              · exact g g3
              · exact g g4
            rw [if_neg nb]
            have e0 : own_part (0 : Int32) (0 : Nat).toInt32 (5 : Nat).toInt32 d0 = (d0 - 48) * 10000 := by unfold own_part; rw [if_pos ⟨by decide, g0⟩]; rfl
            have e1 : own_part (1 : Int32) (0 : Nat).toInt32 (5 : Nat).toInt32 d1 = (d1 - 48) * 1000 := by unfold own_part; rw [if_pos ⟨by decide, g1⟩]; rfl
            have e2 : own_part (2 : Int32) (0 : Nat).toInt32 (5 : Nat).toInt32 d2 = (d2 - 48) * 100 := by unfold own_part; rw [if_pos ⟨by decide, g2⟩]; rfl
            have e3 : own_part (3 : Int32) (0 : Nat).toInt32 (5 : Nat).toInt32 d3 = (d3 - 48) * 10 := by unfold own_part; rw [if_pos ⟨by decide, g3⟩]; rfl
            have e4 : own_part (4 : Int32) (0 : Nat).toInt32 (5 : Nat).toInt32 d4 = (d4 - 48) * 1 := by unfold own_part; rw [if_pos ⟨by decide, g4⟩]; rfl
            rw [e0, e1, e2, e3, e4]
            simp only [own_run, List.getD_cons_zero, List.getD_cons_succ, own_dd d0 g0, if_false, own_dd d1 g1, if_false, own_dd d2 g2, if_false, own_dd d3 g3, if_false, own_dd d4 g4, if_false]
            grind
          · rw [if_pos (Or.inr (Or.inr (Or.inr (Or.inr ⟨by decide, g4⟩))))]
            simp only [own_run, List.getD_cons_zero, List.getD_cons_succ, own_dd d0 g0, if_false, own_dd d1 g1, if_false, own_dd d2 g2, if_false, own_dd d3 g3, if_false, own_dn d4 hb4 g4, if_true]
        · rw [if_pos (Or.inr (Or.inr (Or.inr (Or.inl ⟨by decide, g3⟩))))]
          simp only [own_run, List.getD_cons_zero, List.getD_cons_succ, own_dd d0 g0, if_false, own_dd d1 g1, if_false, own_dd d2 g2, if_false, own_dn d3 hb3 g3, if_true]
      · rw [if_pos (Or.inr (Or.inr (Or.inl ⟨by decide, g2⟩)))]
        simp only [own_run, List.getD_cons_zero, List.getD_cons_succ, own_dd d0 g0, if_false, own_dd d1 g1, if_false, own_dn d2 hb2 g2, if_true]
    · rw [if_pos (Or.inr (Or.inl ⟨by decide, g1⟩))]
      simp only [own_run, List.getD_cons_zero, List.getD_cons_succ, own_dd d0 g0, if_false, own_dn d1 hb1 g1, if_true]
  · rw [if_pos (Or.inl ⟨by decide, g0⟩)]
    simp only [own_run, List.getD_cons_zero, List.getD_cons_succ, own_dn d0 hb0 g0, if_true]
theorem own_law_1_0 (d0 d1 d2 d3 d4 : Int32) (hb0 : -128 ≤ d0.toInt ∧ d0.toInt < 128) (hb1 : -128 ≤ d1.toInt ∧ d1.toInt < 128) (hb2 : -128 ≤ d2.toInt ∧ d2.toInt < 128) (hb3 : -128 ≤ d3.toInt ∧ d3.toInt < 128) (hb4 : -128 ≤ d4.toInt ∧ d4.toInt < 128) : own_run [d0, d1, d2, d3, d4] 1 0 0 = if ((own_in (0 : Int32) (1 : Nat).toInt32 (0 : Nat).toInt32 ∧ ¬ own_dg d0) ∨ (own_in (1 : Int32) (1 : Nat).toInt32 (0 : Nat).toInt32 ∧ ¬ own_dg d1) ∨ (own_in (2 : Int32) (1 : Nat).toInt32 (0 : Nat).toInt32 ∧ ¬ own_dg d2) ∨ (own_in (3 : Int32) (1 : Nat).toInt32 (0 : Nat).toInt32 ∧ ¬ own_dg d3) ∨ (own_in (4 : Int32) (1 : Nat).toInt32 (0 : Nat).toInt32 ∧ ¬ own_dg d4)) then -1 else (((((own_part (0 : Int32) (1 : Nat).toInt32 (0 : Nat).toInt32 d0) + own_part (1 : Int32) (1 : Nat).toInt32 (0 : Nat).toInt32 d1) + own_part (2 : Int32) (1 : Nat).toInt32 (0 : Nat).toInt32 d2) + own_part (3 : Int32) (1 : Nat).toInt32 (0 : Nat).toInt32 d3) + own_part (4 : Int32) (1 : Nat).toInt32 (0 : Nat).toInt32 d4) := by
  have nb : ¬ ((own_in (0 : Int32) (1 : Nat).toInt32 (0 : Nat).toInt32 ∧ ¬ own_dg d0) ∨ (own_in (1 : Int32) (1 : Nat).toInt32 (0 : Nat).toInt32 ∧ ¬ own_dg d1) ∨ (own_in (2 : Int32) (1 : Nat).toInt32 (0 : Nat).toInt32 ∧ ¬ own_dg d2) ∨ (own_in (3 : Int32) (1 : Nat).toInt32 (0 : Nat).toInt32 ∧ ¬ own_dg d3) ∨ (own_in (4 : Int32) (1 : Nat).toInt32 (0 : Nat).toInt32 ∧ ¬ own_dg d4)) := by
    rintro (⟨q, g⟩ | ⟨q, g⟩ | ⟨q, g⟩ | ⟨q, g⟩ | ⟨q, g⟩)
    · exact absurd q (by decide)
    · exact absurd q (by decide)
    · exact absurd q (by decide)
    · exact absurd q (by decide)
    · exact absurd q (by decide)
  rw [if_neg nb]
  have e0 : own_part (0 : Int32) (1 : Nat).toInt32 (0 : Nat).toInt32 d0 = 0 := by unfold own_part; rw [if_neg (fun q => absurd q.1 (by decide))]
  have e1 : own_part (1 : Int32) (1 : Nat).toInt32 (0 : Nat).toInt32 d1 = 0 := by unfold own_part; rw [if_neg (fun q => absurd q.1 (by decide))]
  have e2 : own_part (2 : Int32) (1 : Nat).toInt32 (0 : Nat).toInt32 d2 = 0 := by unfold own_part; rw [if_neg (fun q => absurd q.1 (by decide))]
  have e3 : own_part (3 : Int32) (1 : Nat).toInt32 (0 : Nat).toInt32 d3 = 0 := by unfold own_part; rw [if_neg (fun q => absurd q.1 (by decide))]
  have e4 : own_part (4 : Int32) (1 : Nat).toInt32 (0 : Nat).toInt32 d4 = 0 := by unfold own_part; rw [if_neg (fun q => absurd q.1 (by decide))]
  rw [e0, e1, e2, e3, e4]
  simp only [own_run, List.getD_cons_zero, List.getD_cons_succ]
  grind
theorem own_law_1_1 (d0 d1 d2 d3 d4 : Int32) (hb0 : -128 ≤ d0.toInt ∧ d0.toInt < 128) (hb1 : -128 ≤ d1.toInt ∧ d1.toInt < 128) (hb2 : -128 ≤ d2.toInt ∧ d2.toInt < 128) (hb3 : -128 ≤ d3.toInt ∧ d3.toInt < 128) (hb4 : -128 ≤ d4.toInt ∧ d4.toInt < 128) : own_run [d0, d1, d2, d3, d4] 1 1 0 = if ((own_in (0 : Int32) (1 : Nat).toInt32 (1 : Nat).toInt32 ∧ ¬ own_dg d0) ∨ (own_in (1 : Int32) (1 : Nat).toInt32 (1 : Nat).toInt32 ∧ ¬ own_dg d1) ∨ (own_in (2 : Int32) (1 : Nat).toInt32 (1 : Nat).toInt32 ∧ ¬ own_dg d2) ∨ (own_in (3 : Int32) (1 : Nat).toInt32 (1 : Nat).toInt32 ∧ ¬ own_dg d3) ∨ (own_in (4 : Int32) (1 : Nat).toInt32 (1 : Nat).toInt32 ∧ ¬ own_dg d4)) then -1 else (((((own_part (0 : Int32) (1 : Nat).toInt32 (1 : Nat).toInt32 d0) + own_part (1 : Int32) (1 : Nat).toInt32 (1 : Nat).toInt32 d1) + own_part (2 : Int32) (1 : Nat).toInt32 (1 : Nat).toInt32 d2) + own_part (3 : Int32) (1 : Nat).toInt32 (1 : Nat).toInt32 d3) + own_part (4 : Int32) (1 : Nat).toInt32 (1 : Nat).toInt32 d4) := by
  by_cases g1 : own_dg d1
  · have nb : ¬ ((own_in (0 : Int32) (1 : Nat).toInt32 (1 : Nat).toInt32 ∧ ¬ own_dg d0) ∨ (own_in (1 : Int32) (1 : Nat).toInt32 (1 : Nat).toInt32 ∧ ¬ own_dg d1) ∨ (own_in (2 : Int32) (1 : Nat).toInt32 (1 : Nat).toInt32 ∧ ¬ own_dg d2) ∨ (own_in (3 : Int32) (1 : Nat).toInt32 (1 : Nat).toInt32 ∧ ¬ own_dg d3) ∨ (own_in (4 : Int32) (1 : Nat).toInt32 (1 : Nat).toInt32 ∧ ¬ own_dg d4)) := by
      rintro (⟨q, g⟩ | ⟨q, g⟩ | ⟨q, g⟩ | ⟨q, g⟩ | ⟨q, g⟩)
      · exact absurd q (by decide)
      · exact g g1
      · exact absurd q (by decide)
      · exact absurd q (by decide)
      · exact absurd q (by decide)
    rw [if_neg nb]
    have e0 : own_part (0 : Int32) (1 : Nat).toInt32 (1 : Nat).toInt32 d0 = 0 := by unfold own_part; rw [if_neg (fun q => absurd q.1 (by decide))]
    have e1 : own_part (1 : Int32) (1 : Nat).toInt32 (1 : Nat).toInt32 d1 = (d1 - 48) * 1 := by unfold own_part; rw [if_pos ⟨by decide, g1⟩]; rfl
    have e2 : own_part (2 : Int32) (1 : Nat).toInt32 (1 : Nat).toInt32 d2 = 0 := by unfold own_part; rw [if_neg (fun q => absurd q.1 (by decide))]
    have e3 : own_part (3 : Int32) (1 : Nat).toInt32 (1 : Nat).toInt32 d3 = 0 := by unfold own_part; rw [if_neg (fun q => absurd q.1 (by decide))]
    have e4 : own_part (4 : Int32) (1 : Nat).toInt32 (1 : Nat).toInt32 d4 = 0 := by unfold own_part; rw [if_neg (fun q => absurd q.1 (by decide))]
    rw [e0, e1, e2, e3, e4]
    simp only [own_run, List.getD_cons_zero, List.getD_cons_succ, own_dd d1 g1, if_false]
    grind
  · rw [if_pos (Or.inr (Or.inl ⟨by decide, g1⟩))]
    simp only [own_run, List.getD_cons_zero, List.getD_cons_succ, own_dn d1 hb1 g1, if_true]
theorem own_law_1_2 (d0 d1 d2 d3 d4 : Int32) (hb0 : -128 ≤ d0.toInt ∧ d0.toInt < 128) (hb1 : -128 ≤ d1.toInt ∧ d1.toInt < 128) (hb2 : -128 ≤ d2.toInt ∧ d2.toInt < 128) (hb3 : -128 ≤ d3.toInt ∧ d3.toInt < 128) (hb4 : -128 ≤ d4.toInt ∧ d4.toInt < 128) : own_run [d0, d1, d2, d3, d4] 1 2 0 = if ((own_in (0 : Int32) (1 : Nat).toInt32 (2 : Nat).toInt32 ∧ ¬ own_dg d0) ∨ (own_in (1 : Int32) (1 : Nat).toInt32 (2 : Nat).toInt32 ∧ ¬ own_dg d1) ∨ (own_in (2 : Int32) (1 : Nat).toInt32 (2 : Nat).toInt32 ∧ ¬ own_dg d2) ∨ (own_in (3 : Int32) (1 : Nat).toInt32 (2 : Nat).toInt32 ∧ ¬ own_dg d3) ∨ (own_in (4 : Int32) (1 : Nat).toInt32 (2 : Nat).toInt32 ∧ ¬ own_dg d4)) then -1 else (((((own_part (0 : Int32) (1 : Nat).toInt32 (2 : Nat).toInt32 d0) + own_part (1 : Int32) (1 : Nat).toInt32 (2 : Nat).toInt32 d1) + own_part (2 : Int32) (1 : Nat).toInt32 (2 : Nat).toInt32 d2) + own_part (3 : Int32) (1 : Nat).toInt32 (2 : Nat).toInt32 d3) + own_part (4 : Int32) (1 : Nat).toInt32 (2 : Nat).toInt32 d4) := by
  by_cases g1 : own_dg d1
  · by_cases g2 : own_dg d2
    · have nb : ¬ ((own_in (0 : Int32) (1 : Nat).toInt32 (2 : Nat).toInt32 ∧ ¬ own_dg d0) ∨ (own_in (1 : Int32) (1 : Nat).toInt32 (2 : Nat).toInt32 ∧ ¬ own_dg d1) ∨ (own_in (2 : Int32) (1 : Nat).toInt32 (2 : Nat).toInt32 ∧ ¬ own_dg d2) ∨ (own_in (3 : Int32) (1 : Nat).toInt32 (2 : Nat).toInt32 ∧ ¬ own_dg d3) ∨ (own_in (4 : Int32) (1 : Nat).toInt32 (2 : Nat).toInt32 ∧ ¬ own_dg d4)) := by
        rintro (⟨q, g⟩ | ⟨q, g⟩ | ⟨q, g⟩ | ⟨q, g⟩ | ⟨q, g⟩)
        · exact absurd q (by decide)
        · exact g g1
        · exact g g2
        · exact absurd q (by decide)
        · exact absurd q (by decide)
      rw [if_neg nb]
      have e0 : own_part (0 : Int32) (1 : Nat).toInt32 (2 : Nat).toInt32 d0 = 0 := by unfold own_part; rw [if_neg (fun q => absurd q.1 (by decide))]
      have e1 : own_part (1 : Int32) (1 : Nat).toInt32 (2 : Nat).toInt32 d1 = (d1 - 48) * 10 := by unfold own_part; rw [if_pos ⟨by decide, g1⟩]; rfl
      have e2 : own_part (2 : Int32) (1 : Nat).toInt32 (2 : Nat).toInt32 d2 = (d2 - 48) * 1 := by unfold own_part; rw [if_pos ⟨by decide, g2⟩]; rfl
      have e3 : own_part (3 : Int32) (1 : Nat).toInt32 (2 : Nat).toInt32 d3 = 0 := by unfold own_part; rw [if_neg (fun q => absurd q.1 (by decide))]
      have e4 : own_part (4 : Int32) (1 : Nat).toInt32 (2 : Nat).toInt32 d4 = 0 := by unfold own_part; rw [if_neg (fun q => absurd q.1 (by decide))]
      rw [e0, e1, e2, e3, e4]
      simp only [own_run, List.getD_cons_zero, List.getD_cons_succ, own_dd d1 g1, if_false, own_dd d2 g2, if_false]
      grind
    · rw [if_pos (Or.inr (Or.inr (Or.inl ⟨by decide, g2⟩)))]
      simp only [own_run, List.getD_cons_zero, List.getD_cons_succ, own_dd d1 g1, if_false, own_dn d2 hb2 g2, if_true]
  · rw [if_pos (Or.inr (Or.inl ⟨by decide, g1⟩))]
    simp only [own_run, List.getD_cons_zero, List.getD_cons_succ, own_dn d1 hb1 g1, if_true]
theorem own_law_1_3 (d0 d1 d2 d3 d4 : Int32) (hb0 : -128 ≤ d0.toInt ∧ d0.toInt < 128) (hb1 : -128 ≤ d1.toInt ∧ d1.toInt < 128) (hb2 : -128 ≤ d2.toInt ∧ d2.toInt < 128) (hb3 : -128 ≤ d3.toInt ∧ d3.toInt < 128) (hb4 : -128 ≤ d4.toInt ∧ d4.toInt < 128) : own_run [d0, d1, d2, d3, d4] 1 3 0 = if ((own_in (0 : Int32) (1 : Nat).toInt32 (3 : Nat).toInt32 ∧ ¬ own_dg d0) ∨ (own_in (1 : Int32) (1 : Nat).toInt32 (3 : Nat).toInt32 ∧ ¬ own_dg d1) ∨ (own_in (2 : Int32) (1 : Nat).toInt32 (3 : Nat).toInt32 ∧ ¬ own_dg d2) ∨ (own_in (3 : Int32) (1 : Nat).toInt32 (3 : Nat).toInt32 ∧ ¬ own_dg d3) ∨ (own_in (4 : Int32) (1 : Nat).toInt32 (3 : Nat).toInt32 ∧ ¬ own_dg d4)) then -1 else (((((own_part (0 : Int32) (1 : Nat).toInt32 (3 : Nat).toInt32 d0) + own_part (1 : Int32) (1 : Nat).toInt32 (3 : Nat).toInt32 d1) + own_part (2 : Int32) (1 : Nat).toInt32 (3 : Nat).toInt32 d2) + own_part (3 : Int32) (1 : Nat).toInt32 (3 : Nat).toInt32 d3) + own_part (4 : Int32) (1 : Nat).toInt32 (3 : Nat).toInt32 d4) := by
  by_cases g1 : own_dg d1
  · by_cases g2 : own_dg d2
    · by_cases g3 : own_dg d3
      · have nb : ¬ ((own_in (0 : Int32) (1 : Nat).toInt32 (3 : Nat).toInt32 ∧ ¬ own_dg d0) ∨ (own_in (1 : Int32) (1 : Nat).toInt32 (3 : Nat).toInt32 ∧ ¬ own_dg d1) ∨ (own_in (2 : Int32) (1 : Nat).toInt32 (3 : Nat).toInt32 ∧ ¬ own_dg d2) ∨ (own_in (3 : Int32) (1 : Nat).toInt32 (3 : Nat).toInt32 ∧ ¬ own_dg d3) ∨ (own_in (4 : Int32) (1 : Nat).toInt32 (3 : Nat).toInt32 ∧ ¬ own_dg d4)) := by
          rintro (⟨q, g⟩ | ⟨q, g⟩ | ⟨q, g⟩ | ⟨q, g⟩ | ⟨q, g⟩)
          · exact absurd q (by decide)
          · exact g g1
          · exact g g2
          · exact g g3
          · exact absurd q (by decide)
        rw [if_neg nb]
        have e0 : own_part (0 : Int32) (1 : Nat).toInt32 (3 : Nat).toInt32 d0 = 0 := by unfold own_part; rw [if_neg (fun q => absurd q.1 (by decide))]
        have e1 : own_part (1 : Int32) (1 : Nat).toInt32 (3 : Nat).toInt32 d1 = (d1 - 48) * 100 := by unfold own_part; rw [if_pos ⟨by decide, g1⟩]; rfl
        have e2 : own_part (2 : Int32) (1 : Nat).toInt32 (3 : Nat).toInt32 d2 = (d2 - 48) * 10 := by unfold own_part; rw [if_pos ⟨by decide, g2⟩]; rfl
        have e3 : own_part (3 : Int32) (1 : Nat).toInt32 (3 : Nat).toInt32 d3 = (d3 - 48) * 1 := by unfold own_part; rw [if_pos ⟨by decide, g3⟩]; rfl
        have e4 : own_part (4 : Int32) (1 : Nat).toInt32 (3 : Nat).toInt32 d4 = 0 := by unfold own_part; rw [if_neg (fun q => absurd q.1 (by decide))]
        rw [e0, e1, e2, e3, e4]
        simp only [own_run, List.getD_cons_zero, List.getD_cons_succ, own_dd d1 g1, if_false, own_dd d2 g2, if_false, own_dd d3 g3, if_false]
        grind
      · rw [if_pos (Or.inr (Or.inr (Or.inr (Or.inl ⟨by decide, g3⟩))))]
        simp only [own_run, List.getD_cons_zero, List.getD_cons_succ, own_dd d1 g1, if_false, own_dd d2 g2, if_false, own_dn d3 hb3 g3, if_true]
    · rw [if_pos (Or.inr (Or.inr (Or.inl ⟨by decide, g2⟩)))]
      simp only [own_run, List.getD_cons_zero, List.getD_cons_succ, own_dd d1 g1, if_false, own_dn d2 hb2 g2, if_true]
  · rw [if_pos (Or.inr (Or.inl ⟨by decide, g1⟩))]
    simp only [own_run, List.getD_cons_zero, List.getD_cons_succ, own_dn d1 hb1 g1, if_true]
theorem own_law_1_4 (d0 d1 d2 d3 d4 : Int32) (hb0 : -128 ≤ d0.toInt ∧ d0.toInt < 128) (hb1 : -128 ≤ d1.toInt ∧ d1.toInt < 128) (hb2 : -128 ≤ d2.toInt ∧ d2.toInt < 128) (hb3 : -128 ≤ d3.toInt ∧ d3.toInt < 128) (hb4 : -128 ≤ d4.toInt ∧ d4.toInt < 128) : own_run [d0, d1, d2, d3, d4] 1 4 0 = if ((own_in (0 : Int32) (1 : Nat).toInt32 (4 : Nat).toInt32 ∧ ¬ own_dg d0) ∨ (own_in (1 : Int32) (1 : Nat).toInt32 (4 : Nat).toInt32 ∧ ¬ own_dg d1) ∨ (own_in (2 : Int32) (1 : Nat).toInt32 (4 : Nat).toInt32 ∧ ¬ own_dg d2) ∨ (own_in (3 : Int32) (1 : Nat).toInt32 (4 : Nat).toInt32 ∧ ¬ own_dg d3) ∨ (own_in (4 : Int32) (1 : Nat).toInt32 (4 : Nat).toInt32 ∧ ¬ own_dg d4)) then -1 else (((((own_part (0 : Int32) (1 : Nat).toInt32 (4 : Nat).toInt32 d0) + own_part (1 : Int32) (1 : Nat).toInt32 (4 : Nat).toInt32 d1) + own_part (2 : Int32) (1 : Nat).toInt32 (4 : Nat).toInt32 d2) + own_part (3 : Int32) (1 : Nat).toInt32 (4 : Nat).toInt32 d3) + own_part (4 : Int32) (1 : Nat).toInt32 (4 : Nat).toInt32 d4) := by
  by_cases g1 : own_dg d1
  · by_cases g2 : own_dg d2
    · by_cases g3 : own_dg d3
      · by_cases g4 : own_dg d4
        · have nb : ¬ ((own_in (0 : Int32) (1 : Nat).toInt32 (4 : Nat).toInt32 ∧ ¬ own_dg d0) ∨ (own_in (1 : Int32) (1 : Nat).toInt32 (4 : Nat).toInt32 ∧ ¬ own_dg d1) ∨ (own_in (2 : Int32) (1 : Nat).toInt32 (4 : Nat).toInt32 ∧ ¬ own_dg d2) ∨ (own_in (3 : Int32) (1 : Nat).toInt32 (4 : Nat).toInt32 ∧ ¬ own_dg d3) ∨ (own_in (4 : Int32) (1 : Nat).toInt32 (4 : Nat).toInt32 ∧ ¬ own_dg d4)) := by
            rintro (⟨q, g⟩ | ⟨q, g⟩ | ⟨q, g⟩ | ⟨q, g⟩ | ⟨q, g⟩)
            · exact absurd q (by decide)
            · exact g g1
            · exact g g2
            · exact g g3
            · exact g g4
          rw [if_neg nb]
          have e0 : own_part (0 : Int32) (1 : Nat).toInt32 (4 : Nat).toInt32 d0 = 0 := by unfold own_part; rw [if_neg (fun q => absurd q.1 (by decide))]
          have e1 : own_part (1 : Int32) (1 : Nat).toInt32 (4 : Nat).toInt32 d1 = (d1 - 48) * 1000 := by unfold own_part; rw [if_pos ⟨by decide, g1⟩]; rfl
          have e2 : own_part (2 : Int32) (1 : Nat).toInt32 (4 : Nat).toInt32 d2 = (d2 - 48) * 100 := by unfold own_part; rw [if_pos ⟨by decide, g2⟩]; rfl
          have e3 : own_part (3 : Int32) (1 : Nat).toInt32 (4 : Nat).toInt32 d3 = (d3 - 48) * 10 := by unfold own_part; rw [if_pos ⟨by decide, g3⟩]; rfl
          have e4 : own_part (4 : Int32) (1 : Nat).toInt32 (4 : Nat).toInt32 d4 = (d4 - 48) * 1 := by unfold own_part; rw [if_pos ⟨by decide, g4⟩]; rfl
          rw [e0, e1, e2, e3, e4]
          simp only [own_run, List.getD_cons_zero, List.getD_cons_succ, own_dd d1 g1, if_false, own_dd d2 g2, if_false, own_dd d3 g3, if_false, own_dd d4 g4, if_false]
          grind
        · rw [if_pos (Or.inr (Or.inr (Or.inr (Or.inr ⟨by decide, g4⟩))))]
          simp only [own_run, List.getD_cons_zero, List.getD_cons_succ, own_dd d1 g1, if_false, own_dd d2 g2, if_false, own_dd d3 g3, if_false, own_dn d4 hb4 g4, if_true]
      · rw [if_pos (Or.inr (Or.inr (Or.inr (Or.inl ⟨by decide, g3⟩))))]
        simp only [own_run, List.getD_cons_zero, List.getD_cons_succ, own_dd d1 g1, if_false, own_dd d2 g2, if_false, own_dn d3 hb3 g3, if_true]
    · rw [if_pos (Or.inr (Or.inr (Or.inl ⟨by decide, g2⟩)))]
      simp only [own_run, List.getD_cons_zero, List.getD_cons_succ, own_dd d1 g1, if_false, own_dn d2 hb2 g2, if_true]
  · rw [if_pos (Or.inr (Or.inl ⟨by decide, g1⟩))]
    simp only [own_run, List.getD_cons_zero, List.getD_cons_succ, own_dn d1 hb1 g1, if_true]
theorem own_law_2_0 (d0 d1 d2 d3 d4 : Int32) (hb0 : -128 ≤ d0.toInt ∧ d0.toInt < 128) (hb1 : -128 ≤ d1.toInt ∧ d1.toInt < 128) (hb2 : -128 ≤ d2.toInt ∧ d2.toInt < 128) (hb3 : -128 ≤ d3.toInt ∧ d3.toInt < 128) (hb4 : -128 ≤ d4.toInt ∧ d4.toInt < 128) : own_run [d0, d1, d2, d3, d4] 2 0 0 = if ((own_in (0 : Int32) (2 : Nat).toInt32 (0 : Nat).toInt32 ∧ ¬ own_dg d0) ∨ (own_in (1 : Int32) (2 : Nat).toInt32 (0 : Nat).toInt32 ∧ ¬ own_dg d1) ∨ (own_in (2 : Int32) (2 : Nat).toInt32 (0 : Nat).toInt32 ∧ ¬ own_dg d2) ∨ (own_in (3 : Int32) (2 : Nat).toInt32 (0 : Nat).toInt32 ∧ ¬ own_dg d3) ∨ (own_in (4 : Int32) (2 : Nat).toInt32 (0 : Nat).toInt32 ∧ ¬ own_dg d4)) then -1 else (((((own_part (0 : Int32) (2 : Nat).toInt32 (0 : Nat).toInt32 d0) + own_part (1 : Int32) (2 : Nat).toInt32 (0 : Nat).toInt32 d1) + own_part (2 : Int32) (2 : Nat).toInt32 (0 : Nat).toInt32 d2) + own_part (3 : Int32) (2 : Nat).toInt32 (0 : Nat).toInt32 d3) + own_part (4 : Int32) (2 : Nat).toInt32 (0 : Nat).toInt32 d4) := by
  have nb : ¬ ((own_in (0 : Int32) (2 : Nat).toInt32 (0 : Nat).toInt32 ∧ ¬ own_dg d0) ∨ (own_in (1 : Int32) (2 : Nat).toInt32 (0 : Nat).toInt32 ∧ ¬ own_dg d1) ∨ (own_in (2 : Int32) (2 : Nat).toInt32 (0 : Nat).toInt32 ∧ ¬ own_dg d2) ∨ (own_in (3 : Int32) (2 : Nat).toInt32 (0 : Nat).toInt32 ∧ ¬ own_dg d3) ∨ (own_in (4 : Int32) (2 : Nat).toInt32 (0 : Nat).toInt32 ∧ ¬ own_dg d4)) := by
    rintro (⟨q, g⟩ | ⟨q, g⟩ | ⟨q, g⟩ | ⟨q, g⟩ | ⟨q, g⟩)
    · exact absurd q (by decide)
    · exact absurd q (by decide)
    · exact absurd q (by decide)
    · exact absurd q (by decide)
    · exact absurd q (by decide)
  rw [if_neg nb]
  have e0 : own_part (0 : Int32) (2 : Nat).toInt32 (0 : Nat).toInt32 d0 = 0 := by unfold own_part; rw [if_neg (fun q => absurd q.1 (by decide))]
  have e1 : own_part (1 : Int32) (2 : Nat).toInt32 (0 : Nat).toInt32 d1 = 0 := by unfold own_part; rw [if_neg (fun q => absurd q.1 (by decide))]
  have e2 : own_part (2 : Int32) (2 : Nat).toInt32 (0 : Nat).toInt32 d2 = 0 := by unfold own_part; rw [if_neg (fun q => absurd q.1 (by decide))]
  have e3 : own_part (3 : Int32) (2 : Nat).toInt32 (0 : Nat).toInt32 d3 = 0 := by unfold own_part; rw [if_neg (fun q => absurd q.1 (by decide))]
  have e4 : own_part (4 : Int32) (2 : Nat).toInt32 (0 : Nat).toInt32 d4 = 0 := by unfold own_part; rw [if_neg (fun q => absurd q.1 (by decide))]
  rw [e0, e1, e2, e3, e4]
  simp only [own_run, List.getD_cons_zero, List.getD_cons_succ]
  grind
theorem own_law_2_1 (d0 d1 d2 d3 d4 : Int32) (hb0 : -128 ≤ d0.toInt ∧ d0.toInt < 128) (hb1 : -128 ≤ d1.toInt ∧ d1.toInt < 128) (hb2 : -128 ≤ d2.toInt ∧ d2.toInt < 128) (hb3 : -128 ≤ d3.toInt ∧ d3.toInt < 128) (hb4 : -128 ≤ d4.toInt ∧ d4.toInt < 128) : own_run [d0, d1, d2, d3, d4] 2 1 0 = if ((own_in (0 : Int32) (2 : Nat).toInt32 (1 : Nat).toInt32 ∧ ¬ own_dg d0) ∨ (own_in (1 : Int32) (2 : Nat).toInt32 (1 : Nat).toInt32 ∧ ¬ own_dg d1) ∨ (own_in (2 : Int32) (2 : Nat).toInt32 (1 : Nat).toInt32 ∧ ¬ own_dg d2) ∨ (own_in (3 : Int32) (2 : Nat).toInt32 (1 : Nat).toInt32 ∧ ¬ own_dg d3) ∨ (own_in (4 : Int32) (2 : Nat).toInt32 (1 : Nat).toInt32 ∧ ¬ own_dg d4)) then -1 else (((((own_part (0 : Int32) (2 : Nat).toInt32 (1 : Nat).toInt32 d0) + own_part (1 : Int32) (2 : Nat).toInt32 (1 : Nat).toInt32 d1) + own_part (2 : Int32) (2 : Nat).toInt32 (1 : Nat).toInt32 d2) + own_part (3 : Int32) (2 : Nat).toInt32 (1 : Nat).toInt32 d3) + own_part (4 : Int32) (2 : Nat).toInt32 (1 : Nat).toInt32 d4) := by
  by_cases g2 : own_dg d2
  · have nb : ¬ ((own_in (0 : Int32) (2 : Nat).toInt32 (1 : Nat).toInt32 ∧ ¬ own_dg d0) ∨ (own_in (1 : Int32) (2 : Nat).toInt32 (1 : Nat).toInt32 ∧ ¬ own_dg d1) ∨ (own_in (2 : Int32) (2 : Nat).toInt32 (1 : Nat).toInt32 ∧ ¬ own_dg d2) ∨ (own_in (3 : Int32) (2 : Nat).toInt32 (1 : Nat).toInt32 ∧ ¬ own_dg d3) ∨ (own_in (4 : Int32) (2 : Nat).toInt32 (1 : Nat).toInt32 ∧ ¬ own_dg d4)) := by
      rintro (⟨q, g⟩ | ⟨q, g⟩ | ⟨q, g⟩ | ⟨q, g⟩ | ⟨q, g⟩)
      · exact absurd q (by decide)
      · exact absurd q (by decide)
      · exact g g2
      · exact absurd q (by decide)
      · exact absurd q (by decide)
    rw [if_neg nb]
    have e0 : own_part (0 : Int32) (2 : Nat).toInt32 (1 : Nat).toInt32 d0 = 0 := by unfold own_part; rw [if_neg (fun q => absurd q.1 (by decide))]
    have e1 : own_part (1 : Int32) (2 : Nat).toInt32 (1 : Nat).toInt32 d1 = 0 := by unfold own_part; rw [if_neg (fun q => absurd q.1 (by decide))]
    have e2 : own_part (2 : Int32) (2 : Nat).toInt32 (1 : Nat).toInt32 d2 = (d2 - 48) * 1 := by unfold own_part; rw [if_pos ⟨by decide, g2⟩]; rfl
    have e3 : own_part (3 : Int32) (2 : Nat).toInt32 (1 : Nat).toInt32 d3 = 0 := by unfold own_part; rw [if_neg (fun q => absurd q.1 (by decide))]
    have e4 : own_part (4 : Int32) (2 : Nat).toInt32 (1 : Nat).toInt32 d4 = 0 := by unfold own_part; rw [if_neg (fun q => absurd q.1 (by decide))]
    rw [e0, e1, e2, e3, e4]
    simp only [own_run, List.getD_cons_zero, List.getD_cons_succ, own_dd d2 g2, if_false]
    grind
  · rw [if_pos (Or.inr (Or.inr (Or.inl ⟨by decide, g2⟩)))]
    simp only [own_run, List.getD_cons_zero, List.getD_cons_succ, own_dn d2 hb2 g2, if_true]
theorem own_law_2_2 (d0 d1 d2 d3 d4 : Int32) (hb0 : -128 ≤ d0.toInt ∧ d0.toInt < 128) (hb1 : -128 ≤ d1.toInt ∧ d1.toInt < 128) (hb2 : -128 ≤ d2.toInt ∧ d2.toInt < 128) (hb3 : -128 ≤ d3.toInt ∧ d3.toInt < 128) (hb4 : -128 ≤ d4.toInt ∧ d4.toInt < 128) : own_run [d0, d1, d2, d3, d4] 2 2 0 = if ((own_in (0 : Int32) (2 : Nat).toInt32 (2 : Nat).toInt32 ∧ ¬ own_dg d0) ∨ (own_in (1 : Int32) (2 : Nat).toInt32 (2 : Nat).toInt32 ∧ ¬ own_dg d1) ∨ (own_in (2 : Int32) (2 : Nat).toInt32 (2 : Nat).toInt32 ∧ ¬ own_dg d2) ∨ (own_in (3 : Int32) (2 : Nat).toInt32 (2 : Nat).toInt32 ∧ ¬ own_dg d3) ∨ (own_in (4 : Int32) (2 : Nat).toInt32 (2 : Nat).toInt32 ∧ ¬ own_dg d4)) then -1 else (((((own_part (0 : Int32) (2 : Nat).toInt32 (2 : Nat).toInt32 d0) + own_part (1 : Int32) (2 : Nat).toInt32 (2 : Nat).toInt32 d1) + own_part (2 : Int32) (2 : Nat).toInt32 (2 : Nat).toInt32 d2) + own_part (3 : Int32) (2 : Nat).toInt32 (2 : Nat).toInt32 d3) + own_part (4 : Int32) (2 : Nat).toInt32 (2 : Nat).toInt32 d4) := by
  by_cases g2 : own_dg d2
  · by_cases g3 : own_dg d3
    · have nb : ¬ ((own_in (0 : Int32) (2 : Nat).toInt32 (2 : Nat).toInt32 ∧ ¬ own_dg d0) ∨ (own_in (1 : Int32) (2 : Nat).toInt32 (2 : Nat).toInt32 ∧ ¬ own_dg d1) ∨ (own_in (2 : Int32) (2 : Nat).toInt32 (2 : Nat).toInt32 ∧ ¬ own_dg d2) ∨ (own_in (3 : Int32) (2 : Nat).toInt32 (2 : Nat).toInt32 ∧ ¬ own_dg d3) ∨ (own_in (4 : Int32) (2 : Nat).toInt32 (2 : Nat).toInt32 ∧ ¬ own_dg d4)) := by
        rintro (⟨q, g⟩ | ⟨q, g⟩ | ⟨q, g⟩ | ⟨q, g⟩ | ⟨q, g⟩)
        · exact absurd q (by decide)
        · exact absurd q (by decide)
        · exact g g2
        · exact g g3
        · exact absurd q (by decide)
      rw [if_neg nb]
      have e0 : own_part (0 : Int32) (2 : Nat).toInt32 (2 : Nat).toInt32 d0 = 0 := by unfold own_part; rw [if_neg (fun q => absurd q.1 (by decide))]
      have e1 : own_part (1 : Int32) (2 : Nat).toInt32 (2 : Nat).toInt32 d1 = 0 := by unfold own_part; rw [if_neg (fun q => absurd q.1 (by decide))]
      have e2 : own_part (2 : Int32) (2 : Nat).toInt32 (2 : Nat).toInt32 d2 = (d2 - 48) * 10 := by unfold own_part; rw [if_pos ⟨by decide, g2⟩]; rfl
      have e3 : own_part (3 : Int32) (2 : Nat).toInt32 (2 : Nat).toInt32 d3 = (d3 - 48) * 1 := by unfold own_part; rw [if_pos ⟨by decide, g3⟩]; rfl
      have e4 : own_part (4 : Int32) (2 : Nat).toInt32 (2 : Nat).toInt32 d4 = 0 := by unfold own_part; rw [if_neg (fun q => absurd q.1 (by decide))]
      rw [e0, e1, e2, e3, e4]
      simp only [own_run, List.getD_cons_zero, List.getD_cons_succ, own_dd d2 g2, if_false, own_dd d3 g3, if_false]
      grind
    · rw [if_pos (Or.inr (Or.inr (Or.inr (Or.inl ⟨by decide, g3⟩))))]
      simp only [own_run, List.getD_cons_zero, List.getD_cons_succ, own_dd d2 g2, if_false, own_dn d3 hb3 g3, if_true]
  · rw [if_pos (Or.inr (Or.inr (Or.inl ⟨by decide, g2⟩)))]
    simp only [own_run, List.getD_cons_zero, List.getD_cons_succ, own_dn d2 hb2 g2, if_true]
theorem own_law_2_3 (d0 d1 d2 d3 d4 : Int32) (hb0 : -128 ≤ d0.toInt ∧ d0.toInt < 128) (hb1 : -128 ≤ d1.toInt ∧ d1.toInt < 128) (hb2 : -128 ≤ d2.toInt ∧ d2.toInt < 128) (hb3 : -128 ≤ d3.toInt ∧ d3.toInt < 128) (hb4 : -128 ≤ d4.toInt ∧ d4.toInt < 128) : own_run [d0, d1, d2, d3, d4] 2 3 0 = if ((own_in (0 : Int32) (2 : Nat).toInt32 (3 : Nat).toInt32 ∧ ¬ own_dg d0) ∨ (own_in (1 : Int32) (2 : Nat).toInt32 (3 : Nat).toInt32 ∧ ¬ own_dg d1) ∨ (own_in (2 : Int32) (2 : Nat).toInt32 (3 : Nat).toInt32 ∧ ¬ own_dg d2) ∨ (own_in (3 : Int32) (2 : Nat).toInt32 (3 : Nat).toInt32 ∧ ¬ own_dg d3) ∨ (own_in (4 : Int32) (2 : Nat).toInt32 (3 : Nat).toInt32 ∧ ¬ own_dg d4)) then -1 else (((((own_part (0 : Int32) (2 : Nat).toInt32 (3 : Nat).toInt32 d0) + own_part (1 : Int32) (2 : Nat).toInt32 (3 : Nat).toInt32 d1) + own_part (2 : Int32) (2 : Nat).toInt32 (3 : Nat).toInt32 d2) + own_part (3 : Int32) (2 : Nat).toInt32 (3 : Nat).toInt32 d3) + own_part (4 : Int32) (2 : Nat).toInt32 (3 : Nat).toInt32 d4) := by
  by_cases g2 : own_dg d2
  · by_cases g3 : own_dg d3
    · by_cases g4 : own_dg d4
      · have nb : ¬ ((own_in (0 : Int32) (2 : Nat).toInt32 (3 : Nat).toInt32 ∧ ¬ own_dg d0) ∨ (own_in (1 : Int32) (2 : Nat).toInt32 (3 : Nat).toInt32 ∧ ¬ own_dg d1) ∨ (own_in (2 : Int32) (2 : Nat).toInt32 (3 : Nat).toInt32 ∧ ¬ own_dg d2) ∨ (own_in (3 : Int32) (2 : Nat).toInt32 (3 : Nat).toInt32 ∧ ¬ own_dg d3) ∨ (own_in (4 : Int32) (2 : Nat).toInt32 (3 : Nat).toInt32 ∧ ¬ own_dg d4)) := by
          rintro (⟨q, g⟩ | ⟨q, g⟩ | ⟨q, g⟩ | ⟨q, g⟩ | ⟨q, g⟩)
          · exact absurd q (by decide)
          · exact absurd q (by decide)
          · exact g g2
          · exact g g3
          · exact g g4
        rw [if_neg nb]
        have e0 : own_part (0 : Int32) (2 : Nat).toInt32 (3 : Nat).toInt32 d0 = 0 := by unfold own_part; rw [if_neg (fun q => absurd q.1 (by decide))]
        have e1 : own_part (1 : Int32) (2 : Nat).toInt32 (3 : Nat).toInt32 d1 = 0 := by unfold own_part; rw [if_neg (fun q => absurd q.1 (by decide))]
        have e2 : own_part (2 : Int32) (2 : Nat).toInt32 (3 : Nat).toInt32 d2 = (d2 - 48) * 100 := by unfold own_part; rw [if_pos ⟨by decide, g2⟩]; rfl
        have e3 : own_part (3 : Int32) (2 : Nat).toInt32 (3 : Nat).toInt32 d3 = (d3 - 48) * 10 := by unfold own_part; rw [if_pos ⟨by decide, g3⟩]; rfl
        have e4 : own_part (4 : Int32) (2 : Nat).toInt32 (3 : Nat).toInt32 d4 = (d4 - 48) * 1 := by unfold own_part; rw [if_pos ⟨by decide, g4⟩]; rfl
        rw [e0, e1, e2, e3, e4]
        simp only [own_run, List.getD_cons_zero, List.getD_cons_succ, own_dd d2 g2, if_false, own_dd d3 g3, if_false, own_dd d4 g4, if_false]
        grind
      · rw [if_pos (Or.inr (Or.inr (Or.inr (Or.inr ⟨by decide, g4⟩))))]
        simp only [own_run, List.getD_cons_zero, List.getD_cons_succ, own_dd d2 g2, if_false, own_dd d3 g3, if_false, own_dn d4 hb4 g4, if_true]
    · rw [if_pos (Or.inr (Or.inr (Or.inr (Or.inl ⟨by decide, g3⟩))))]
      simp only [own_run, List.getD_cons_zero, List.getD_cons_succ, own_dd d2 g2, if_false, own_dn d3 hb3 g3, if_true]
  · rw [if_pos (Or.inr (Or.inr (Or.inl ⟨by decide, g2⟩)))]
    simp only [own_run, List.getD_cons_zero, List.getD_cons_succ, own_dn d2 hb2 g2, if_true]
theorem own_law_3_0 (d0 d1 d2 d3 d4 : Int32) (hb0 : -128 ≤ d0.toInt ∧ d0.toInt < 128) (hb1 : -128 ≤ d1.toInt ∧ d1.toInt < 128) (hb2 : -128 ≤ d2.toInt ∧ d2.toInt < 128) (hb3 : -128 ≤ d3.toInt ∧ d3.toInt < 128) (hb4 : -128 ≤ d4.toInt ∧ d4.toInt < 128) : own_run [d0, d1, d2, d3, d4] 3 0 0 = if ((own_in (0 : Int32) (3 : Nat).toInt32 (0 : Nat).toInt32 ∧ ¬ own_dg d0) ∨ (own_in (1 : Int32) (3 : Nat).toInt32 (0 : Nat).toInt32 ∧ ¬ own_dg d1) ∨ (own_in (2 : Int32) (3 : Nat).toInt32 (0 : Nat).toInt32 ∧ ¬ own_dg d2) ∨ (own_in (3 : Int32) (3 : Nat).toInt32 (0 : Nat).toInt32 ∧ ¬ own_dg d3) ∨ (own_in (4 : Int32) (3 : Nat).toInt32 (0 : Nat).toInt32 ∧ ¬ own_dg d4)) then -1 else (((((own_part (0 : Int32) (3 : Nat).toInt32 (0 : Nat).toInt32 d0) + own_part (1 : Int32) (3 : Nat).toInt32 (0 : Nat).toInt32 d1) + own_part (2 : Int32) (3 : Nat).toInt32 (0 : Nat).toInt32 d2) + own_part (3 : Int32) (3 : Nat).toInt32 (0 : Nat).toInt32 d3) + own_part (4 : Int32) (3 : Nat).toInt32 (0 : Nat).toInt32 d4) := by
  have nb : ¬ ((own_in (0 : Int32) (3 : Nat).toInt32 (0 : Nat).toInt32 ∧ ¬ own_dg d0) ∨ (own_in (1 : Int32) (3 : Nat).toInt32 (0 : Nat).toInt32 ∧ ¬ own_dg d1) ∨ (own_in (2 : Int32) (3 : Nat).toInt32 (0 : Nat).toInt32 ∧ ¬ own_dg d2) ∨ (own_in (3 : Int32) (3 : Nat).toInt32 (0 : Nat).toInt32 ∧ ¬ own_dg d3) ∨ (own_in (4 : Int32) (3 : Nat).toInt32 (0 : Nat).toInt32 ∧ ¬ own_dg d4)) := by
    rintro (⟨q, g⟩ | ⟨q, g⟩ | ⟨q, g⟩ | ⟨q, g⟩ | ⟨q, g⟩)
    · exact absurd q (by decide)
    · exact absurd q (by decide)
    · exact absurd q (by decide)
    · exact absurd q (by decide)
    · exact absurd q (by decide)
  rw [if_neg nb]
  have e0 : own_part (0 : Int32) (3 : Nat).toInt32 (0 : Nat).toInt32 d0 = 0 := by unfold own_part; rw [if_neg (fun q => absurd q.1 (by decide))]
  have e1 : own_part (1 : Int32) (3 : Nat).toInt32 (0 : Nat).toInt32 d1 = 0 := by unfold own_part; rw [if_neg (fun q => absurd q.1 (by decide))]
  have e2 : own_part (2 : Int32) (3 : Nat).toInt32 (0 : Nat).toInt32 d2 = 0 := by unfold own_part; rw [if_neg (fun q => absurd q.1 (by decide))]
  have e3 : own_part (3 : Int32) (3 : Nat).toInt32 (0 : Nat).toInt32 d3 = 0 := by unfold own_part; rw [if_neg (fun q => absurd q.1 (by decide))]
  have e4 : own_part (4 : Int32) (3 : Nat).toInt32 (0 : Nat).toInt32 d4 = 0 := by unfold own_part; rw [if_neg (fun q => absurd q.1 (by decide))]
  rw [e0, e1, e2, e3, e4]
  simp only [own_run, List.getD_cons_zero, List.getD_cons_succ]
  grind
theorem own_law_3_1 (d0 d1 d2 d3 d4 : Int32) (hb0 : -128 ≤ d0.toInt ∧ d0.toInt < 128) (hb1 : -128 ≤ d1.toInt ∧ d1.toInt < 128) (hb2 : -128 ≤ d2.toInt ∧ d2.toInt < 128) (hb3 : -128 ≤ d3.toInt ∧ d3.toInt < 128) (hb4 : -128 ≤ d4.toInt ∧ d4.toInt < 128) : own_run [d0, d1, d2, d3, d4] 3 1 0 = if ((own_in (0 : Int32) (3 : Nat).toInt32 (1 : Nat).toInt32 ∧ ¬ own_dg d0) ∨ (own_in (1 : Int32) (3 : Nat).toInt32 (1 : Nat).toInt32 ∧ ¬ own_dg d1) ∨ (own_in (2 : Int32) (3 : Nat).toInt32 (1 : Nat).toInt32 ∧ ¬ own_dg d2) ∨ (own_in (3 : Int32) (3 : Nat).toInt32 (1 : Nat).toInt32 ∧ ¬ own_dg d3) ∨ (own_in (4 : Int32) (3 : Nat).toInt32 (1 : Nat).toInt32 ∧ ¬ own_dg d4)) then -1 else (((((own_part (0 : Int32) (3 : Nat).toInt32 (1 : Nat).toInt32 d0) + own_part (1 : Int32) (3 : Nat).toInt32 (1 : Nat).toInt32 d1) + own_part (2 : Int32) (3 : Nat).toInt32 (1 : Nat).toInt32 d2) + own_part (3 : Int32) (3 : Nat).toInt32 (1 : Nat).toInt32 d3) + own_part (4 : Int32) (3 : Nat).toInt32 (1 : Nat).toInt32 d4) := by
  by_cases g3 : own_dg d3
  · have nb : ¬ ((own_in (0 : Int32) (3 : Nat).toInt32 (1 : Nat).toInt32 ∧ ¬ own_dg d0) ∨ (own_in (1 : Int32) (3 : Nat).toInt32 (1 : Nat).toInt32 ∧ ¬ own_dg d1) ∨ (own_in (2 : Int32) (3 : Nat).toInt32 (1 : Nat).toInt32 ∧ ¬ own_dg d2) ∨ (own_in (3 : Int32) (3 : Nat).toInt32 (1 : Nat).toInt32 ∧ ¬ own_dg d3) ∨ (own_in (4 : Int32) (3 : Nat).toInt32 (1 : Nat).toInt32 ∧ ¬ own_dg d4)) := by
      rintro (⟨q, g⟩ | ⟨q, g⟩ | ⟨q, g⟩ | ⟨q, g⟩ | ⟨q, g⟩)
      · exact absurd q (by decide)
      · exact absurd q (by decide)
      · exact absurd q (by decide)
      · exact g g3
      · exact absurd q (by decide)
    rw [if_neg nb]
    have e0 : own_part (0 : Int32) (3 : Nat).toInt32 (1 : Nat).toInt32 d0 = 0 := by unfold own_part; rw [if_neg (fun q => absurd q.1 (by decide))]
    have e1 : own_part (1 : Int32) (3 : Nat).toInt32 (1 : Nat).toInt32 d1 = 0 := by unfold own_part; rw [if_neg (fun q => absurd q.1 (by decide))]
    have e2 : own_part (2 : Int32) (3 : Nat).toInt32 (1 : Nat).toInt32 d2 = 0 := by unfold own_part; rw [if_neg (fun q => absurd q.1 (by decide))]
    have e3 : own_part (3 : Int32) (3 : Nat).toInt32 (1 : Nat).toInt32 d3 = (d3 - 48) * 1 := by unfold own_part; rw [if_pos ⟨by decide, g3⟩]; rfl
    have e4 : own_part (4 : Int32) (3 : Nat).toInt32 (1 : Nat).toInt32 d4 = 0 := by unfold own_part; rw [if_neg (fun q => absurd q.1 (by decide))]
    rw [e0, e1, e2, e3, e4]
    simp only [own_run, List.getD_cons_zero, List.getD_cons_succ, own_dd d3 g3, if_false]
    grind
  · rw [if_pos (Or.inr (Or.inr (Or.inr (Or.inl ⟨by decide, g3⟩))))]
    simp only [own_run, List.getD_cons_zero, List.getD_cons_succ, own_dn d3 hb3 g3, if_true]
theorem own_law_3_2 (d0 d1 d2 d3 d4 : Int32) (hb0 : -128 ≤ d0.toInt ∧ d0.toInt < 128) (hb1 : -128 ≤ d1.toInt ∧ d1.toInt < 128) (hb2 : -128 ≤ d2.toInt ∧ d2.toInt < 128) (hb3 : -128 ≤ d3.toInt ∧ d3.toInt < 128) (hb4 : -128 ≤ d4.toInt ∧ d4.toInt < 128) : own_run [d0, d1, d2, d3, d4] 3 2 0 = if ((own_in (0 : Int32) (3 : Nat).toInt32 (2 : Nat).toInt32 ∧ ¬ own_dg d0) ∨ (own_in (1 : Int32) (3 : Nat).toInt32 (2 : Nat).toInt32 ∧ ¬ own_dg d1) ∨ (own_in (2 : Int32) (3 : Nat).toInt32 (2 : Nat).toInt32 ∧ ¬ own_dg d2) ∨ (own_in (3 : Int32) (3 : Nat).toInt32 (2 : Nat).toInt32 ∧ ¬ own_dg d3) ∨ (own_in (4 : Int32) (3 : Nat).toInt32 (2 : Nat).toInt32 ∧ ¬ own_dg d4)) then -1 else (((((own_part (0 : Int32) (3 : Nat).toInt32 (2 : Nat).toInt32 d0) + own_part (1 : Int32) (3 : Nat).toInt32 (2 : Nat).toInt32 d1) + own_part (2 : Int32) (3 : Nat).toInt32 (2 : Nat).toInt32 d2) + own_part (3 : Int32) (3 : Nat).toInt32 (2 : Nat).toInt32 d3) + own_part (4 : Int32) (3 : Nat).toInt32 (2 : Nat).toInt32 d4) := by
  by_cases g3 : own_dg d3
  · by_cases g4 : own_dg d4
    · have nb : ¬ ((own_in (0 : Int32) (3 : Nat).toInt32 (2 : Nat).toInt32 ∧ ¬ own_dg d0) ∨ (own_in (1 : Int32) (3 : Nat).toInt32 (2 : Nat).toInt32 ∧ ¬ own_dg d1) ∨ (own_in (2 : Int32) (3 : Nat).toInt32 (2 : Nat).toInt32 ∧ ¬ own_dg d2) ∨ (own_in (3 : Int32) (3 : Nat).toInt32 (2 : Nat).toInt32 ∧ ¬ own_dg d3) ∨ (own_in (4 : Int32) (3 : Nat).toInt32 (2 : Nat).toInt32 ∧ ¬ own_dg d4)) := by
        rintro (⟨q, g⟩ | ⟨q, g⟩ | ⟨q, g⟩ | ⟨q, g⟩ | ⟨q, g⟩)
        · exact absurd q (by decide)
        · exact absurd q (by decide)
        · exact absurd q (by decide)
        · exact g g3
        · exact g g4
      rw [if_neg nb]
      have e0 : own_part (0 : Int32) (3 : Nat).toInt32 (2 : Nat).toInt32 d0 = 0 := by unfold own_part; rw [if_neg (fun q => absurd q.1 (by decide))]
      have e1 : own_part (1 : Int32) (3 : Nat).toInt32 (2 : Nat).toInt32 d1 = 0 := by unfold own_part; rw [if_neg (fun q => absurd q.1 (by decide))]
      have e2 : own_part (2 : Int32) (3 : Nat).toInt32 (2 : Nat).toInt32 d2 = 0 := by unfold own_part; rw [if_neg (fun q => absurd q.1 (by decide))]
      have e3 : own_part (3 : Int32) (3 : Nat).toInt32 (2 : Nat).toInt32 d3 = (d3 - 48) * 10 := by unfold own_part; rw [if_pos ⟨by decide, g3⟩]; rfl
      have e4 : own_part (4 : Int32) (3 : Nat).toInt32 (2 : Nat).toInt32 d4 = (d4 - 48) * 1 := by unfold own_part; rw [if_pos ⟨by decide, g4⟩]; rfl
      rw [e0, e1, e2, e3, e4]
      simp only [own_run, List.getD_cons_zero, List.getD_cons_succ, own_dd d3 g3, if_false, own_dd d4 g4, if_false]
      grind
    · rw [if_pos (Or.inr (Or.inr (Or.inr (Or.inr ⟨by decide, g4⟩))))]
      simp only [own_run, List.getD_cons_zero, List.getD_cons_succ, own_dd d3 g3, if_false, own_dn d4 hb4 g4, if_true]
  · rw [if_pos (Or.inr (Or.inr (Or.inr (Or.inl ⟨by decide, g3⟩))))]
    simp only [own_run, List.getD_cons_zero, List.getD_cons_succ, own_dn d3 hb3 g3, if_true]
theorem own_law_4_0 (d0 d1 d2 d3 d4 : Int32) (hb0 : -128 ≤ d0.toInt ∧ d0.toInt < 128) (hb1 : -128 ≤ d1.toInt ∧ d1.toInt < 128) (hb2 : -128 ≤ d2.toInt ∧ d2.toInt < 128) (hb3 : -128 ≤ d3.toInt ∧ d3.toInt < 128) (hb4 : -128 ≤ d4.toInt ∧ d4.toInt < 128) : own_run [d0, d1, d2, d3, d4] 4 0 0 = if ((own_in (0 : Int32) (4 : Nat).toInt32 (0 : Nat).toInt32 ∧ ¬ own_dg d0) ∨ (own_in (1 : Int32) (4 : Nat).toInt32 (0 : Nat).toInt32 ∧ ¬ own_dg d1) ∨ (own_in (2 : Int32) (4 : Nat).toInt32 (0 : Nat).toInt32 ∧ ¬ own_dg d2) ∨ (own_in (3 : Int32) (4 : Nat).toInt32 (0 : Nat).toInt32 ∧ ¬ own_dg d3) ∨ (own_in (4 : Int32) (4 : Nat).toInt32 (0 : Nat).toInt32 ∧ ¬ own_dg d4)) then -1 else (((((own_part (0 : Int32) (4 : Nat).toInt32 (0 : Nat).toInt32 d0) + own_part (1 : Int32) (4 : Nat).toInt32 (0 : Nat).toInt32 d1) + own_part (2 : Int32) (4 : Nat).toInt32 (0 : Nat).toInt32 d2) + own_part (3 : Int32) (4 : Nat).toInt32 (0 : Nat).toInt32 d3) + own_part (4 : Int32) (4 : Nat).toInt32 (0 : Nat).toInt32 d4) := by
  have nb : ¬ ((own_in (0 : Int32) (4 : Nat).toInt32 (0 : Nat).toInt32 ∧ ¬ own_dg d0) ∨ (own_in (1 : Int32) (4 : Nat).toInt32 (0 : Nat).toInt32 ∧ ¬ own_dg d1) ∨ (own_in (2 : Int32) (4 : Nat).toInt32 (0 : Nat).toInt32 ∧ ¬ own_dg d2) ∨ (own_in (3 : Int32) (4 : Nat).toInt32 (0 : Nat).toInt32 ∧ ¬ own_dg d3) ∨ (own_in (4 : Int32) (4 : Nat).toInt32 (0 : Nat).toInt32 ∧ ¬ own_dg d4)) := by
    rintro (⟨q, g⟩ | ⟨q, g⟩ | ⟨q, g⟩ | ⟨q, g⟩ | ⟨q, g⟩)
    · exact absurd q (by decide)
    · exact absurd q (by decide)
    · exact absurd q (by decide)
    · exact absurd q (by decide)
    · exact absurd q (by decide)
  rw [if_neg nb]
  have e0 : own_part (0 : Int32) (4 : Nat).toInt32 (0 : Nat).toInt32 d0 = 0 := by unfold own_part; rw [if_neg (fun q => absurd q.1 (by decide))]
  have e1 : own_part (1 : Int32) (4 : Nat).toInt32 (0 : Nat).toInt32 d1 = 0 := by unfold own_part; rw [if_neg (fun q => absurd q.1 (by decide))]
  have e2 : own_part (2 : Int32) (4 : Nat).toInt32 (0 : Nat).toInt32 d2 = 0 := by unfold own_part; rw [if_neg (fun q => absurd q.1 (by decide))]
  have e3 : own_part (3 : Int32) (4 : Nat).toInt32 (0 : Nat).toInt32 d3 = 0 := by unfold own_part; rw [if_neg (fun q => absurd q.1 (by decide))]
  have e4 : own_part (4 : Int32) (4 : Nat).toInt32 (0 : Nat).toInt32 d4 = 0 := by unfold own_part; rw [if_neg (fun q => absurd q.1 (by decide))]
  rw [e0, e1, e2, e3, e4]
  simp only [own_run, List.getD_cons_zero, List.getD_cons_succ]
  grind
theorem own_law_4_1 (d0 d1 d2 d3 d4 : Int32) (hb0 : -128 ≤ d0.toInt ∧ d0.toInt < 128) (hb1 : -128 ≤ d1.toInt ∧ d1.toInt < 128) (hb2 : -128 ≤ d2.toInt ∧ d2.toInt < 128) (hb3 : -128 ≤ d3.toInt ∧ d3.toInt < 128) (hb4 : -128 ≤ d4.toInt ∧ d4.toInt < 128) : own_run [d0, d1, d2, d3, d4] 4 1 0 = if ((own_in (0 : Int32) (4 : Nat).toInt32 (1 : Nat).toInt32 ∧ ¬ own_dg d0) ∨ (own_in (1 : Int32) (4 : Nat).toInt32 (1 : Nat).toInt32 ∧ ¬ own_dg d1) ∨ (own_in (2 : Int32) (4 : Nat).toInt32 (1 : Nat).toInt32 ∧ ¬ own_dg d2) ∨ (own_in (3 : Int32) (4 : Nat).toInt32 (1 : Nat).toInt32 ∧ ¬ own_dg d3) ∨ (own_in (4 : Int32) (4 : Nat).toInt32 (1 : Nat).toInt32 ∧ ¬ own_dg d4)) then -1 else (((((own_part (0 : Int32) (4 : Nat).toInt32 (1 : Nat).toInt32 d0) + own_part (1 : Int32) (4 : Nat).toInt32 (1 : Nat).toInt32 d1) + own_part (2 : Int32) (4 : Nat).toInt32 (1 : Nat).toInt32 d2) + own_part (3 : Int32) (4 : Nat).toInt32 (1 : Nat).toInt32 d3) + own_part (4 : Int32) (4 : Nat).toInt32 (1 : Nat).toInt32 d4) := by
  by_cases g4 : own_dg d4
  · have nb : ¬ ((own_in (0 : Int32) (4 : Nat).toInt32 (1 : Nat).toInt32 ∧ ¬ own_dg d0) ∨ (own_in (1 : Int32) (4 : Nat).toInt32 (1 : Nat).toInt32 ∧ ¬ own_dg d1) ∨ (own_in (2 : Int32) (4 : Nat).toInt32 (1 : Nat).toInt32 ∧ ¬ own_dg d2) ∨ (own_in (3 : Int32) (4 : Nat).toInt32 (1 : Nat).toInt32 ∧ ¬ own_dg d3) ∨ (own_in (4 : Int32) (4 : Nat).toInt32 (1 : Nat).toInt32 ∧ ¬ own_dg d4)) := by
      rintro (⟨q, g⟩ | ⟨q, g⟩ | ⟨q, g⟩ | ⟨q, g⟩ | ⟨q, g⟩)
      · exact absurd q (by decide)
      · exact absurd q (by decide)
      · exact absurd q (by decide)
      · exact absurd q (by decide)
      · exact g g4
    rw [if_neg nb]
    have e0 : own_part (0 : Int32) (4 : Nat).toInt32 (1 : Nat).toInt32 d0 = 0 := by unfold own_part; rw [if_neg (fun q => absurd q.1 (by decide))]
    have e1 : own_part (1 : Int32) (4 : Nat).toInt32 (1 : Nat).toInt32 d1 = 0 := by unfold own_part; rw [if_neg (fun q => absurd q.1 (by decide))]
    have e2 : own_part (2 : Int32) (4 : Nat).toInt32 (1 : Nat).toInt32 d2 = 0 := by unfold own_part; rw [if_neg (fun q => absurd q.1 (by decide))]
    have e3 : own_part (3 : Int32) (4 : Nat).toInt32 (1 : Nat).toInt32 d3 = 0 := by unfold own_part; rw [if_neg (fun q => absurd q.1 (by decide))]
    have e4 : own_part (4 : Int32) (4 : Nat).toInt32 (1 : Nat).toInt32 d4 = (d4 - 48) * 1 := by unfold own_part; rw [if_pos ⟨by decide, g4⟩]; rfl
    rw [e0, e1, e2, e3, e4]
    simp only [own_run, List.getD_cons_zero, List.getD_cons_succ, own_dd d4 g4, if_false]
    grind
  · rw [if_pos (Or.inr (Or.inr (Or.inr (Or.inr ⟨by decide, g4⟩))))]
    simp only [own_run, List.getD_cons_zero, List.getD_cons_succ, own_dn d4 hb4 g4, if_true]
theorem own_law_5_0 (d0 d1 d2 d3 d4 : Int32) (hb0 : -128 ≤ d0.toInt ∧ d0.toInt < 128) (hb1 : -128 ≤ d1.toInt ∧ d1.toInt < 128) (hb2 : -128 ≤ d2.toInt ∧ d2.toInt < 128) (hb3 : -128 ≤ d3.toInt ∧ d3.toInt < 128) (hb4 : -128 ≤ d4.toInt ∧ d4.toInt < 128) : own_run [d0, d1, d2, d3, d4] 5 0 0 = if ((own_in (0 : Int32) (5 : Nat).toInt32 (0 : Nat).toInt32 ∧ ¬ own_dg d0) ∨ (own_in (1 : Int32) (5 : Nat).toInt32 (0 : Nat).toInt32 ∧ ¬ own_dg d1) ∨ (own_in (2 : Int32) (5 : Nat).toInt32 (0 : Nat).toInt32 ∧ ¬ own_dg d2) ∨ (own_in (3 : Int32) (5 : Nat).toInt32 (0 : Nat).toInt32 ∧ ¬ own_dg d3) ∨ (own_in (4 : Int32) (5 : Nat).toInt32 (0 : Nat).toInt32 ∧ ¬ own_dg d4)) then -1 else (((((own_part (0 : Int32) (5 : Nat).toInt32 (0 : Nat).toInt32 d0) + own_part (1 : Int32) (5 : Nat).toInt32 (0 : Nat).toInt32 d1) + own_part (2 : Int32) (5 : Nat).toInt32 (0 : Nat).toInt32 d2) + own_part (3 : Int32) (5 : Nat).toInt32 (0 : Nat).toInt32 d3) + own_part (4 : Int32) (5 : Nat).toInt32 (0 : Nat).toInt32 d4) := by
  have nb : ¬ ((own_in (0 : Int32) (5 : Nat).toInt32 (0 : Nat).toInt32 ∧ ¬ own_dg d0) ∨ (own_in (1 : Int32) (5 : Nat).toInt32 (0 : Nat).toInt32 ∧ ¬ own_dg d1) ∨ (own_in (2 : Int32) (5 : Nat).toInt32 (0 : Nat).toInt32 ∧ ¬ own_dg d2) ∨ (own_in (3 : Int32) (5 : Nat).toInt32 (0 : Nat).toInt32 ∧ ¬ own_dg d3) ∨ (own_in (4 : Int32) (5 : Nat).toInt32 (0 : Nat).toInt32 ∧ ¬ own_dg d4)) := by
    rintro (⟨q, g⟩ | ⟨q, g⟩ | ⟨q, g⟩ | ⟨q, g⟩ | ⟨q, g⟩)
    · exact absurd q (by decide)
    · exact absurd q (by decide)
    · exact absurd q (by decide)
    · exact absurd q (by decide)
    · exact absurd q (by decide)
  rw [if_neg nb]
  have e0 : own_part (0 : Int32) (5 : Nat).toInt32 (0 : Nat).toInt32 d0 = 0 := by unfold own_part; rw [if_neg (fun q => absurd q.1 (by decide))]
  have e1 : own_part (1 : Int32) (5 : Nat).toInt32 (0 : Nat).toInt32 d1 = 0 := by unfold own_part; rw [if_neg (fun q => absurd q.1 (by decide))]
  have e2 : own_part (2 : Int32) (5 : Nat).toInt32 (0 : Nat).toInt32 d2 = 0 := by unfold own_part; rw [if_neg (fun q => absurd q.1 (by decide))]
  have e3 : own_part (3 : Int32) (5 : Nat).toInt32 (0 : Nat).toInt32 d3 = 0 := by unfold own_part; rw [if_neg (fun q => absurd q.1 (by decide))]
  have e4 : own_part (4 : Int32) (5 : Nat).toInt32 (0 : Nat).toInt32 d4 = 0 := by unfold own_part; rw [if_neg (fun q => absurd q.1 (by decide))]
  rw [e0, e1, e2, e3, e4]
  simp only [own_run, List.getD_cons_zero, List.getD_cons_succ]
  grind
theorem own_law (F C : Nat) (h : F + C ≤ 5) (d0 d1 d2 d3 d4 : Int32) (hb0 : -128 ≤ d0.toInt ∧ d0.toInt < 128) (hb1 : -128 ≤ d1.toInt ∧ d1.toInt < 128) (hb2 : -128 ≤ d2.toInt ∧ d2.toInt < 128) (hb3 : -128 ≤ d3.toInt ∧ d3.toInt < 128) (hb4 : -128 ≤ d4.toInt ∧ d4.toInt < 128) : own_run [d0, d1, d2, d3, d4] F C 0 = if ((own_in (0 : Int32) F.toInt32 C.toInt32 ∧ ¬ own_dg d0) ∨ (own_in (1 : Int32) F.toInt32 C.toInt32 ∧ ¬ own_dg d1) ∨ (own_in (2 : Int32) F.toInt32 C.toInt32 ∧ ¬ own_dg d2) ∨ (own_in (3 : Int32) F.toInt32 C.toInt32 ∧ ¬ own_dg d3) ∨ (own_in (4 : Int32) F.toInt32 C.toInt32 ∧ ¬ own_dg d4)) then -1 else (((((own_part (0 : Int32) F.toInt32 C.toInt32 d0) + own_part (1 : Int32) F.toInt32 C.toInt32 d1) + own_part (2 : Int32) F.toInt32 C.toInt32 d2) + own_part (3 : Int32) F.toInt32 C.toInt32 d3) + own_part (4 : Int32) F.toInt32 C.toInt32 d4) := by
  match F, C, h with
  | 0, 0, _ => exact own_law_0_0 d0 d1 d2 d3 d4 hb0 hb1 hb2 hb3 hb4
  | 0, 1, _ => exact own_law_0_1 d0 d1 d2 d3 d4 hb0 hb1 hb2 hb3 hb4
  | 0, 2, _ => exact own_law_0_2 d0 d1 d2 d3 d4 hb0 hb1 hb2 hb3 hb4
  | 0, 3, _ => exact own_law_0_3 d0 d1 d2 d3 d4 hb0 hb1 hb2 hb3 hb4
  | 0, 4, _ => exact own_law_0_4 d0 d1 d2 d3 d4 hb0 hb1 hb2 hb3 hb4
  | 0, 5, _ => exact own_law_0_5 d0 d1 d2 d3 d4 hb0 hb1 hb2 hb3 hb4
  | 1, 0, _ => exact own_law_1_0 d0 d1 d2 d3 d4 hb0 hb1 hb2 hb3 hb4
  | 1, 1, _ => exact own_law_1_1 d0 d1 d2 d3 d4 hb0 hb1 hb2 hb3 hb4
  | 1, 2, _ => exact own_law_1_2 d0 d1 d2 d3 d4 hb0 hb1 hb2 hb3 hb4
  | 1, 3, _ => exact own_law_1_3 d0 d1 d2 d3 d4 hb0 hb1 hb2 hb3 hb4
  | 1, 4, _ => exact own_law_1_4 d0 d1 d2 d3 d4 hb0 hb1 hb2 hb3 hb4
  | 1, 5, h => exact absurd h (by decide)
  | 2, 0, _ => exact own_law_2_0 d0 d1 d2 d3 d4 hb0 hb1 hb2 hb3 hb4
  | 2, 1, _ => exact own_law_2_1 d0 d1 d2 d3 d4 hb0 hb1 hb2 hb3 hb4
  | 2, 2, _ => exact own_law_2_2 d0 d1 d2 d3 d4 hb0 hb1 hb2 hb3 hb4
  | 2, 3, _ => exact own_law_2_3 d0 d1 d2 d3 d4 hb0 hb1 hb2 hb3 hb4
  | 2, 4, h => exact absurd h (by decide)
  | 2, 5, h => exact absurd h (by decide)
  | 3, 0, _ => exact own_law_3_0 d0 d1 d2 d3 d4 hb0 hb1 hb2 hb3 hb4
  | 3, 1, _ => exact own_law_3_1 d0 d1 d2 d3 d4 hb0 hb1 hb2 hb3 hb4
  | 3, 2, _ => exact own_law_3_2 d0 d1 d2 d3 d4 hb0 hb1 hb2 hb3 hb4
  | 3, 3, h => exact absurd h (by decide)
  | 3, 4, h => exact absurd h (by decide)
  | 3, 5, h => exact absurd h (by decide)
  | 4, 0, _ => exact own_law_4_0 d0 d1 d2 d3 d4 hb0 hb1 hb2 hb3 hb4
  | 4, 1, _ => exact own_law_4_1 d0 d1 d2 d3 d4 hb0 hb1 hb2 hb3 hb4
  | 4, 2, h => exact absurd h (by decide)
  | 4, 3, h => exact absurd h (by decide)
  | 4, 4, h => exact absurd h (by decide)
  | 4, 5, h => exact absurd h (by decide)
  | 5, 0, _ => exact own_law_5_0 d0 d1 d2 d3 d4 hb0 hb1 hb2 hb3 hb4
  | 5, 1, h => exact absurd h (by decide)
  | 5, 2, h => exact absurd h (by decide)
  | 5, 3, h => exact absurd h (by decide)
  | 5, 4, h => exact absurd h (by decide)
  | 5, 5, h => exact absurd h (by decide)
  | F + 6, _, h => exact absurd h (by omega)
  | _, C + 6, h => exact absurd h (by omega)
theorem own_byte {d : Int32} (h : d.toInt8.toInt32 = d) : -128 ≤ d.toInt ∧ d.toInt < 128 := by
  have q := c_i2b d
  rw [h] at q
  exact q.2
theorem ef_rm0 (m : MethodId) (z0 : Int32) (z1 : Int32) (z2 : Int32) (z3 : Int32) (z4 : Int32) (z5 : Int32) : entryFrame m #[(.int z0), (.int z1), (.int z2), (.int z3), (.int z4), (.int z5)] maxLocals = mkF m 0 #[.val (.int z0), .val (.int z1), .val (.int z2), .val (.int z3), .val (.int z4), .val (.int z5), .unset, .unset, .unset, .unset, .unset, .unset] [] := by first | (simp [entryFrame, mkF, argsToLocals, Value.category, maxLocals]; done) | rfl
set_option maxRecDepth 65536 in
set_option maxHeartbeats 40000000 in
theorem rm0 (l : Launch) (Z : State) (a0 : Array Value) (hw : ∀ d ∈ tables_1, d.before a0 Z = true) (ws : List Jvm.Cond) (p0 p1 p2 p3 p4 p5 : Int32) (h0 : Heap) (n0 : Nat) (Z0 : n0 ≤ h0.size)  :
    own_Met l Z x code maxLocals ret room_1 ws #[(.int p0), (.int p1), (.int p2), (.int p3), (.int p4), (.int p5)] h0 (fun v h L => v = some (.int 1) ∧ Fr n0 L) 16 128 := by
  refine own_enter pf0 (fun m => ef_rm0 m p0 p1 p2 p3 p4 p5) ?_
  intro p e s m below meth c T0 hx hby hml hown hnm hret hlk hZ X0 e0
  have N0 := Fr.nil n0
  show own_Go p e s below _ _ _ T0 (mkF m 0 #[.val (.int p0), .val (.int p1), .val (.int p2), .val (.int p3), .val (.int p4), .val (.int p5), .unset, .unset, .unset, .unset, .unset, .unset] [])
  refine own_st (fun _ k => XS.iconst X0.here hx rfl (hb hby at_0) k) ?_
  show own_Go p e s below _ _ _ T0 (mkF m 1 #[.val (.int p0), .val (.int p1), .val (.int p2), .val (.int p3), .val (.int p4), .val (.int p5), .unset, .unset, .unset, .unset, .unset, .unset] [(.int (5 : Int32))])
  obtain ⟨T19, h19, k19, X19, e19, E19, A19, Ex19, st19⟩ := newPE X0 hx hZ (hw _ (List.mem_of_getElem? (i := 0) rfl)) e0 (g := (mkF m 1 #[.val (.int p0), .val (.int p1), .val (.int p2), .val (.int p3), .val (.int p4), .val (.int p5), .unset, .unset, .unset, .unset, .unset, .unset] [(.int (5 : Int32))])) rfl (hb hby at_1) rfl (by decide) (cap := 5) (by decide) (by decide) (by decide) (by decide) (ad := "[B") (by decide)
  obtain ⟨a, g19⟩ : ∃ z, z = h0.size := ⟨_, rfl⟩
  rw [← g19] at A19 Ex19 st19
  have g_a : n0 ≤ a := Nat.le_trans Z0 (Nat.le_of_eq g19.symm)
  have Z20 := Nat.le_trans Z0 E19.1
  have V_a : Arv Z h19 a k19 .byte (5 : Int32) [(.int (0 : Int32)), (.int (0 : Int32)), (.int (0 : Int32)), (.int (0 : Int32)), (.int (0 : Int32))] (.int (0 : Int32)) := (Arv.new A19 (by decide)).pad (pad_rep [] (.int (0 : Int32)) 5)
  have E_a := Ex19
  refine own_st st19 ?_
  show own_Go p e s below _ _ _ T19 (mkF m 3 #[.val (.int p0), .val (.int p1), .val (.int p2), .val (.int p3), .val (.int p4), .val (.int p5), .unset, .unset, .unset, .unset, .unset, .unset] [(.ref a)])
  refine own_st (fun _ k => XS.dup X19.here hx rfl (hb hby at_3) rfl rfl k) ?_
  show own_Go p e s below _ _ _ T19 (mkF m 4 #[.val (.int p0), .val (.int p1), .val (.int p2), .val (.int p3), .val (.int p4), .val (.int p5), .unset, .unset, .unset, .unset, .unset, .unset] [(.ref a), (.ref a)])
  refine own_st (fun _ k => XS.iconst X19.here hx rfl (hb hby at_4) k) ?_
  show own_Go p e s below _ _ _ T19 (mkF m 5 #[.val (.int p0), .val (.int p1), .val (.int p2), .val (.int p3), .val (.int p4), .val (.int p5), .unset, .unset, .unset, .unset, .unset, .unset] [(.int (0 : Int32)), (.ref a), (.ref a)])
  refine own_st (fun _ k => XS.iloadN X19.here hx rfl (hb hby at_5) rfl k) ?_
  show own_Go p e s below _ _ _ T19 (mkF m 6 #[.val (.int p0), .val (.int p1), .val (.int p2), .val (.int p3), .val (.int p4), .val (.int p5), .unset, .unset, .unset, .unset, .unset, .unset] [(.int p0), (.int (0 : Int32)), (.ref a), (.ref a)])
  refine own_callS X19 hx hZ (y := (⟨"com/example/phonomark/phonomark/Iso2709RecordDigitsPinLaw", "draw", "(I)B"⟩ : MethodName)) hown (hw _ (List.mem_of_getElem? (i := 1) rfl)) (hw _ (List.mem_of_getElem? (i := 2) rfl)) (hw _ (List.mem_of_getElem? (i := 3) rfl)) (hw _ (List.mem_of_getElem? (i := 4) rfl)) (by decide) e19 (rm1 l Z a0 hw [] p0 h19 n0 Z20) 3 (by decide) (by decide) (g := (mkF m 6 #[.val (.int p0), .val (.int p1), .val (.int p2), .val (.int p3), .val (.int p4), .val (.int p5), .unset, .unset, .unset, .unset, .unset, .unset] [(.int p0), (.int (0 : Int32)), (.ref a), (.ref a)])) rfl (by rw [hml]; rfl) (argsL := [(.int p0)]) (rest := [(.int (0 : Int32)), (.ref a), (.ref a)]) pd0 rfl rfl rfl (by show 2 * 0 + _ ≤ _; exact Nat.le_of_eq rfl) (hb hby at_6) (by decide) (by decide) ?_
  intro T21 v21 L21 X21 hQ21
  obtain ⟨d0, rfl, hd0, N21q, e21⟩ := hQ21
  have N21 := Fr.app N0 N21q
  show own_Go p e s below _ _ _ T21 (mkF m 9 #[.val (.int p0), .val (.int p1), .val (.int p2), .val (.int p3), .val (.int p4), .val (.int p5), .unset, .unset, .unset, .unset, .unset, .unset] [(.int d0), (.int (0 : Int32)), (.ref a), (.ref a)])
  obtain ⟨T22, h22, X22, e22, W22, V22, st22⟩ := own_stB X21 hx hZ e21 V_a (j := (0 : Int32)) ⟨by decide, by decide⟩ (Nat.le_of_ble_eq_true rfl) (x' := d0) (by exact hd0) (g := (mkF m 9 #[.val (.int p0), .val (.int p1), .val (.int p2), .val (.int p3), .val (.int p4), .val (.int p5), .unset, .unset, .unset, .unset, .unset, .unset] [(.int d0), (.int (0 : Int32)), (.ref a), (.ref a)])) rfl rfl (hb hby at_9)
  clear V_a
  have V_a : Arv Z h22 a k19 .byte (5 : Int32) [(.int d0), (.int (0 : Int32)), (.int (0 : Int32)), (.int (0 : Int32)), (.int (0 : Int32))] (.int (0 : Int32)) := V22
  replace E_a := E_a.wr W22
  have Z23 := Nat.le_trans Z20 (Keep.of_wr W22).1
  have N22 := Fr.snoc X22 N21 g_a
  refine own_st st22 ?_
  show own_Go p e s below _ _ _ T22 (mkF m 10 #[.val (.int p0), .val (.int p1), .val (.int p2), .val (.int p3), .val (.int p4), .val (.int p5), .unset, .unset, .unset, .unset, .unset, .unset] [(.ref a)])
  refine own_st (fun _ k => XS.dup X22.here hx rfl (hb hby at_10) rfl rfl k) ?_
  show own_Go p e s below _ _ _ T22 (mkF m 11 #[.val (.int p0), .val (.int p1), .val (.int p2), .val (.int p3), .val (.int p4), .val (.int p5), .unset, .unset, .unset, .unset, .unset, .unset] [(.ref a), (.ref a)])
  refine own_st (fun _ k => XS.iconst X22.here hx rfl (hb hby at_11) k) ?_
  show own_Go p e s below _ _ _ T22 (mkF m 12 #[.val (.int p0), .val (.int p1), .val (.int p2), .val (.int p3), .val (.int p4), .val (.int p5), .unset, .unset, .unset, .unset, .unset, .unset] [(.int (1 : Int32)), (.ref a), (.ref a)])
  refine own_st (fun _ k => XS.iloadN X22.here hx rfl (hb hby at_12) rfl k) ?_
  show own_Go p e s below _ _ _ T22 (mkF m 13 #[.val (.int p0), .val (.int p1), .val (.int p2), .val (.int p3), .val (.int p4), .val (.int p5), .unset, .unset, .unset, .unset, .unset, .unset] [(.int p1), (.int (1 : Int32)), (.ref a), (.ref a)])
  refine own_callS X22 hx hZ (y := (⟨"com/example/phonomark/phonomark/Iso2709RecordDigitsPinLaw", "draw", "(I)B"⟩ : MethodName)) hown (hw _ (List.mem_of_getElem? (i := 1) rfl)) (hw _ (List.mem_of_getElem? (i := 2) rfl)) (hw _ (List.mem_of_getElem? (i := 3) rfl)) (hw _ (List.mem_of_getElem? (i := 4) rfl)) (by decide) e22 (rm1 l Z a0 hw [] p1 h22 n0 Z23) 3 (by decide) (by decide) (g := (mkF m 13 #[.val (.int p0), .val (.int p1), .val (.int p2), .val (.int p3), .val (.int p4), .val (.int p5), .unset, .unset, .unset, .unset, .unset, .unset] [(.int p1), (.int (1 : Int32)), (.ref a), (.ref a)])) rfl (by rw [hml]; rfl) (argsL := [(.int p1)]) (rest := [(.int (1 : Int32)), (.ref a), (.ref a)]) pd0 rfl rfl rfl (by show 2 * 0 + _ ≤ _; exact Nat.le_of_eq rfl) (hb hby at_13) (by decide) (by decide) ?_
  intro T24 v24 L24 X24 hQ24
  obtain ⟨d1, rfl, hd1, N24q, e24⟩ := hQ24
  have N24 := Fr.app N22 N24q
  show own_Go p e s below _ _ _ T24 (mkF m 16 #[.val (.int p0), .val (.int p1), .val (.int p2), .val (.int p3), .val (.int p4), .val (.int p5), .unset, .unset, .unset, .unset, .unset, .unset] [(.int d1), (.int (1 : Int32)), (.ref a), (.ref a)])
  obtain ⟨T25, h25, X25, e25, W25, V25, st25⟩ := own_stB X24 hx hZ e24 V_a (j := (1 : Int32)) ⟨by decide, by decide⟩ (Nat.le_of_ble_eq_true rfl) (x' := d1) (by exact hd1) (g := (mkF m 16 #[.val (.int p0), .val (.int p1), .val (.int p2), .val (.int p3), .val (.int p4), .val (.int p5), .unset, .unset, .unset, .unset, .unset, .unset] [(.int d1), (.int (1 : Int32)), (.ref a), (.ref a)])) rfl rfl (hb hby at_16)
  clear V_a
  have V_a : Arv Z h25 a k19 .byte (5 : Int32) [(.int d0), (.int d1), (.int (0 : Int32)), (.int (0 : Int32)), (.int (0 : Int32))] (.int (0 : Int32)) := V25
  replace E_a := E_a.wr W25
  have Z26 := Nat.le_trans Z23 (Keep.of_wr W25).1
  have N25 := Fr.snoc X25 N24 g_a
  refine own_st st25 ?_
  show own_Go p e s below _ _ _ T25 (mkF m 17 #[.val (.int p0), .val (.int p1), .val (.int p2), .val (.int p3), .val (.int p4), .val (.int p5), .unset, .unset, .unset, .unset, .unset, .unset] [(.ref a)])
  refine own_st (fun _ k => XS.dup X25.here hx rfl (hb hby at_17) rfl rfl k) ?_
  show own_Go p e s below _ _ _ T25 (mkF m 18 #[.val (.int p0), .val (.int p1), .val (.int p2), .val (.int p3), .val (.int p4), .val (.int p5), .unset, .unset, .unset, .unset, .unset, .unset] [(.ref a), (.ref a)])
  refine own_st (fun _ k => XS.iconst X25.here hx rfl (hb hby at_18) k) ?_
  show own_Go p e s below _ _ _ T25 (mkF m 19 #[.val (.int p0), .val (.int p1), .val (.int p2), .val (.int p3), .val (.int p4), .val (.int p5), .unset, .unset, .unset, .unset, .unset, .unset] [(.int (2 : Int32)), (.ref a), (.ref a)])
  refine own_st (fun _ k => XS.iloadN X25.here hx rfl (hb hby at_19) rfl k) ?_
  show own_Go p e s below _ _ _ T25 (mkF m 20 #[.val (.int p0), .val (.int p1), .val (.int p2), .val (.int p3), .val (.int p4), .val (.int p5), .unset, .unset, .unset, .unset, .unset, .unset] [(.int p2), (.int (2 : Int32)), (.ref a), (.ref a)])
  refine own_callS X25 hx hZ (y := (⟨"com/example/phonomark/phonomark/Iso2709RecordDigitsPinLaw", "draw", "(I)B"⟩ : MethodName)) hown (hw _ (List.mem_of_getElem? (i := 1) rfl)) (hw _ (List.mem_of_getElem? (i := 2) rfl)) (hw _ (List.mem_of_getElem? (i := 3) rfl)) (hw _ (List.mem_of_getElem? (i := 4) rfl)) (by decide) e25 (rm1 l Z a0 hw [] p2 h25 n0 Z26) 3 (by decide) (by decide) (g := (mkF m 20 #[.val (.int p0), .val (.int p1), .val (.int p2), .val (.int p3), .val (.int p4), .val (.int p5), .unset, .unset, .unset, .unset, .unset, .unset] [(.int p2), (.int (2 : Int32)), (.ref a), (.ref a)])) rfl (by rw [hml]; rfl) (argsL := [(.int p2)]) (rest := [(.int (2 : Int32)), (.ref a), (.ref a)]) pd0 rfl rfl rfl (by show 2 * 0 + _ ≤ _; exact Nat.le_of_eq rfl) (hb hby at_20) (by decide) (by decide) ?_
  intro T27 v27 L27 X27 hQ27
  obtain ⟨d2, rfl, hd2, N27q, e27⟩ := hQ27
  have N27 := Fr.app N25 N27q
  show own_Go p e s below _ _ _ T27 (mkF m 23 #[.val (.int p0), .val (.int p1), .val (.int p2), .val (.int p3), .val (.int p4), .val (.int p5), .unset, .unset, .unset, .unset, .unset, .unset] [(.int d2), (.int (2 : Int32)), (.ref a), (.ref a)])
  obtain ⟨T28, h28, X28, e28, W28, V28, st28⟩ := own_stB X27 hx hZ e27 V_a (j := (2 : Int32)) ⟨by decide, by decide⟩ (Nat.le_of_ble_eq_true rfl) (x' := d2) (by exact hd2) (g := (mkF m 23 #[.val (.int p0), .val (.int p1), .val (.int p2), .val (.int p3), .val (.int p4), .val (.int p5), .unset, .unset, .unset, .unset, .unset, .unset] [(.int d2), (.int (2 : Int32)), (.ref a), (.ref a)])) rfl rfl (hb hby at_23)
  clear V_a
  have V_a : Arv Z h28 a k19 .byte (5 : Int32) [(.int d0), (.int d1), (.int d2), (.int (0 : Int32)), (.int (0 : Int32))] (.int (0 : Int32)) := V28
  replace E_a := E_a.wr W28
  have Z29 := Nat.le_trans Z26 (Keep.of_wr W28).1
  have N28 := Fr.snoc X28 N27 g_a
  refine own_st st28 ?_
  show own_Go p e s below _ _ _ T28 (mkF m 24 #[.val (.int p0), .val (.int p1), .val (.int p2), .val (.int p3), .val (.int p4), .val (.int p5), .unset, .unset, .unset, .unset, .unset, .unset] [(.ref a)])
  refine own_st (fun _ k => XS.dup X28.here hx rfl (hb hby at_24) rfl rfl k) ?_
  show own_Go p e s below _ _ _ T28 (mkF m 25 #[.val (.int p0), .val (.int p1), .val (.int p2), .val (.int p3), .val (.int p4), .val (.int p5), .unset, .unset, .unset, .unset, .unset, .unset] [(.ref a), (.ref a)])
  refine own_st (fun _ k => XS.iconst X28.here hx rfl (hb hby at_25) k) ?_
  show own_Go p e s below _ _ _ T28 (mkF m 26 #[.val (.int p0), .val (.int p1), .val (.int p2), .val (.int p3), .val (.int p4), .val (.int p5), .unset, .unset, .unset, .unset, .unset, .unset] [(.int (3 : Int32)), (.ref a), (.ref a)])
  refine own_st (fun _ k => XS.iloadN X28.here hx rfl (hb hby at_26) rfl k) ?_
  show own_Go p e s below _ _ _ T28 (mkF m 27 #[.val (.int p0), .val (.int p1), .val (.int p2), .val (.int p3), .val (.int p4), .val (.int p5), .unset, .unset, .unset, .unset, .unset, .unset] [(.int p3), (.int (3 : Int32)), (.ref a), (.ref a)])
  refine own_callS X28 hx hZ (y := (⟨"com/example/phonomark/phonomark/Iso2709RecordDigitsPinLaw", "draw", "(I)B"⟩ : MethodName)) hown (hw _ (List.mem_of_getElem? (i := 1) rfl)) (hw _ (List.mem_of_getElem? (i := 2) rfl)) (hw _ (List.mem_of_getElem? (i := 3) rfl)) (hw _ (List.mem_of_getElem? (i := 4) rfl)) (by decide) e28 (rm1 l Z a0 hw [] p3 h28 n0 Z29) 3 (by decide) (by decide) (g := (mkF m 27 #[.val (.int p0), .val (.int p1), .val (.int p2), .val (.int p3), .val (.int p4), .val (.int p5), .unset, .unset, .unset, .unset, .unset, .unset] [(.int p3), (.int (3 : Int32)), (.ref a), (.ref a)])) rfl (by rw [hml]; rfl) (argsL := [(.int p3)]) (rest := [(.int (3 : Int32)), (.ref a), (.ref a)]) pd0 rfl rfl rfl (by show 2 * 0 + _ ≤ _; exact Nat.le_of_eq rfl) (hb hby at_27) (by decide) (by decide) ?_
  intro T30 v30 L30 X30 hQ30
  obtain ⟨d3, rfl, hd3, N30q, e30⟩ := hQ30
  have N30 := Fr.app N28 N30q
  show own_Go p e s below _ _ _ T30 (mkF m 30 #[.val (.int p0), .val (.int p1), .val (.int p2), .val (.int p3), .val (.int p4), .val (.int p5), .unset, .unset, .unset, .unset, .unset, .unset] [(.int d3), (.int (3 : Int32)), (.ref a), (.ref a)])
  obtain ⟨T31, h31, X31, e31, W31, V31, st31⟩ := own_stB X30 hx hZ e30 V_a (j := (3 : Int32)) ⟨by decide, by decide⟩ (Nat.le_of_ble_eq_true rfl) (x' := d3) (by exact hd3) (g := (mkF m 30 #[.val (.int p0), .val (.int p1), .val (.int p2), .val (.int p3), .val (.int p4), .val (.int p5), .unset, .unset, .unset, .unset, .unset, .unset] [(.int d3), (.int (3 : Int32)), (.ref a), (.ref a)])) rfl rfl (hb hby at_30)
  clear V_a
  have V_a : Arv Z h31 a k19 .byte (5 : Int32) [(.int d0), (.int d1), (.int d2), (.int d3), (.int (0 : Int32))] (.int (0 : Int32)) := V31
  replace E_a := E_a.wr W31
  have Z32 := Nat.le_trans Z29 (Keep.of_wr W31).1
  have N31 := Fr.snoc X31 N30 g_a
  refine own_st st31 ?_
  show own_Go p e s below _ _ _ T31 (mkF m 31 #[.val (.int p0), .val (.int p1), .val (.int p2), .val (.int p3), .val (.int p4), .val (.int p5), .unset, .unset, .unset, .unset, .unset, .unset] [(.ref a)])
  refine own_st (fun _ k => XS.dup X31.here hx rfl (hb hby at_31) rfl rfl k) ?_
  show own_Go p e s below _ _ _ T31 (mkF m 32 #[.val (.int p0), .val (.int p1), .val (.int p2), .val (.int p3), .val (.int p4), .val (.int p5), .unset, .unset, .unset, .unset, .unset, .unset] [(.ref a), (.ref a)])
  refine own_st (fun _ k => XS.iconst X31.here hx rfl (hb hby at_32) k) ?_
  show own_Go p e s below _ _ _ T31 (mkF m 33 #[.val (.int p0), .val (.int p1), .val (.int p2), .val (.int p3), .val (.int p4), .val (.int p5), .unset, .unset, .unset, .unset, .unset, .unset] [(.int (4 : Int32)), (.ref a), (.ref a)])
  refine own_st (fun _ k => XS.iload X31.here hx rfl (hb hby at_33) rfl k) ?_
  show own_Go p e s below _ _ _ T31 (mkF m 35 #[.val (.int p0), .val (.int p1), .val (.int p2), .val (.int p3), .val (.int p4), .val (.int p5), .unset, .unset, .unset, .unset, .unset, .unset] [(.int p4), (.int (4 : Int32)), (.ref a), (.ref a)])
  refine own_callS X31 hx hZ (y := (⟨"com/example/phonomark/phonomark/Iso2709RecordDigitsPinLaw", "draw", "(I)B"⟩ : MethodName)) hown (hw _ (List.mem_of_getElem? (i := 1) rfl)) (hw _ (List.mem_of_getElem? (i := 2) rfl)) (hw _ (List.mem_of_getElem? (i := 3) rfl)) (hw _ (List.mem_of_getElem? (i := 4) rfl)) (by decide) e31 (rm1 l Z a0 hw [] p4 h31 n0 Z32) 3 (by decide) (by decide) (g := (mkF m 35 #[.val (.int p0), .val (.int p1), .val (.int p2), .val (.int p3), .val (.int p4), .val (.int p5), .unset, .unset, .unset, .unset, .unset, .unset] [(.int p4), (.int (4 : Int32)), (.ref a), (.ref a)])) rfl (by rw [hml]; rfl) (argsL := [(.int p4)]) (rest := [(.int (4 : Int32)), (.ref a), (.ref a)]) pd0 rfl rfl rfl (by show 2 * 0 + _ ≤ _; exact Nat.le_of_eq rfl) (hb hby at_35) (by decide) (by decide) ?_
  intro T33 v33 L33 X33 hQ33
  obtain ⟨d4, rfl, hd4, N33q, e33⟩ := hQ33
  have N33 := Fr.app N31 N33q
  show own_Go p e s below _ _ _ T33 (mkF m 38 #[.val (.int p0), .val (.int p1), .val (.int p2), .val (.int p3), .val (.int p4), .val (.int p5), .unset, .unset, .unset, .unset, .unset, .unset] [(.int d4), (.int (4 : Int32)), (.ref a), (.ref a)])
  obtain ⟨T34, h34, X34, e34, W34, V34, st34⟩ := own_stB X33 hx hZ e33 V_a (j := (4 : Int32)) ⟨by decide, by decide⟩ (Nat.le_of_ble_eq_true rfl) (x' := d4) (by exact hd4) (g := (mkF m 38 #[.val (.int p0), .val (.int p1), .val (.int p2), .val (.int p3), .val (.int p4), .val (.int p5), .unset, .unset, .unset, .unset, .unset, .unset] [(.int d4), (.int (4 : Int32)), (.ref a), (.ref a)])) rfl rfl (hb hby at_38)
  clear V_a
  have V_a : Arv Z h34 a k19 .byte (5 : Int32) [(.int d0), (.int d1), (.int d2), (.int d3), (.int d4)] (.int (0 : Int32)) := V34
  replace E_a := E_a.wr W34
  have Z35 := Nat.le_trans Z32 (Keep.of_wr W34).1
  have N34 := Fr.snoc X34 N33 g_a
  refine own_st st34 ?_
  show own_Go p e s below _ _ _ T34 (mkF m 39 #[.val (.int p0), .val (.int p1), .val (.int p2), .val (.int p3), .val (.int p4), .val (.int p5), .unset, .unset, .unset, .unset, .unset, .unset] [(.ref a)])
  refine own_st (fun _ k => XS.astore X34.here hx rfl (hb hby at_39) rfl rfl (l' := #[.val (.int p0), .val (.int p1), .val (.int p2), .val (.int p3), .val (.int p4), .val (.int p5), .val (.ref a), .unset, .unset, .unset, .unset, .unset]) rfl k) ?_
  show own_Go p e s below _ _ _ T34 (mkF m 41 #[.val (.int p0), .val (.int p1), .val (.int p2), .val (.int p3), .val (.int p4), .val (.int p5), .val (.ref a), .unset, .unset, .unset, .unset, .unset] [])
  refine own_st (fun _ k => XS.iload X34.here hx rfl (hb hby at_41) rfl k) ?_
  show own_Go p e s below _ _ _ T34 (mkF m 43 #[.val (.int p0), .val (.int p1), .val (.int p2), .val (.int p3), .val (.int p4), .val (.int p5), .val (.ref a), .unset, .unset, .unset, .unset, .unset] [(.int p5)])
  refine own_st (fun _ k => XS.bipush X34.here hx rfl (hb hby at_43) k) ?_
  show own_Go p e s below _ _ _ T34 (mkF m 45 #[.val (.int p0), .val (.int p1), .val (.int p2), .val (.int p3), .val (.int p4), .val (.int p5), .val (.ref a), .unset, .unset, .unset, .unset, .unset] [(.int (8 : Int32)), (.int p5)])
  refine own_st (fun _ k => XS.iushr X34.here hx rfl (hb hby at_45) rfl k) ?_
  show own_Go p e s below _ _ _ T34 (mkF m 46 #[.val (.int p0), .val (.int p1), .val (.int p2), .val (.int p3), .val (.int p4), .val (.int p5), .val (.ref a), .unset, .unset, .unset, .unset, .unset] [(.int ((p5.toUInt32 >>> ((8 : Int32) &&& 31).toUInt32).toInt32))])
  refine own_st (X34.ldcInt hx hown (mvT hZ (hw _ (List.mem_of_getElem? (i := 5) rfl))) (g := (mkF m 46 #[.val (.int p0), .val (.int p1), .val (.int p2), .val (.int p3), .val (.int p4), .val (.int p5), .val (.ref a), .unset, .unset, .unset, .unset, .unset] [(.int ((p5.toUInt32 >>> ((8 : Int32) &&& 31).toUInt32).toInt32))])) rfl (hb hby at_46)) ?_
  show own_Go p e s below _ _ _ T34 (mkF m 48 #[.val (.int p0), .val (.int p1), .val (.int p2), .val (.int p3), .val (.int p4), .val (.int p5), .val (.ref a), .unset, .unset, .unset, .unset, .unset] [(.int (2147483647 : Int32)), (.int ((p5.toUInt32 >>> ((8 : Int32) &&& 31).toUInt32).toInt32))])
  refine own_st (fun _ k => XS.iand X34.here hx rfl (hb hby at_48) rfl k) ?_
  show own_Go p e s below _ _ _ T34 (mkF m 49 #[.val (.int p0), .val (.int p1), .val (.int p2), .val (.int p3), .val (.int p4), .val (.int p5), .val (.ref a), .unset, .unset, .unset, .unset, .unset] [(.int (((p5.toUInt32 >>> ((8 : Int32) &&& 31).toUInt32).toInt32) &&& (2147483647 : Int32)))])
  refine own_st (fun _ k => XS.bipush X34.here hx rfl (hb hby at_49) k) ?_
  show own_Go p e s below _ _ _ T34 (mkF m 51 #[.val (.int p0), .val (.int p1), .val (.int p2), .val (.int p3), .val (.int p4), .val (.int p5), .val (.ref a), .unset, .unset, .unset, .unset, .unset] [(.int (6 : Int32)), (.int (((p5.toUInt32 >>> ((8 : Int32) &&& 31).toUInt32).toInt32) &&& (2147483647 : Int32)))])
  refine own_st (fun _ k => Jvm.RoadKit.iremM X34 hx rfl (hb hby at_51) rfl (by decide) k) ?_
  show own_Go p e s below _ _ _ T34 (mkF m 52 #[.val (.int p0), .val (.int p1), .val (.int p2), .val (.int p3), .val (.int p4), .val (.int p5), .val (.ref a), .unset, .unset, .unset, .unset, .unset] [(.int ((((p5.toUInt32 >>> ((8 : Int32) &&& 31).toUInt32).toInt32) &&& (2147483647 : Int32)) % (6 : Int32)))])
  obtain ⟨C, hC, hCx⟩ := own_c ((p5.toUInt32 >>> ((8 : Int32) &&& 31).toUInt32).toInt32)
  rw [hCx]
  show own_Go p e s below _ _ _ T34 (mkF m 52 #[.val (.int p0), .val (.int p1), .val (.int p2), .val (.int p3), .val (.int p4), .val (.int p5), .val (.ref a), .unset, .unset, .unset, .unset, .unset] [(.int C.toInt32)])
  obtain ⟨hnz, F, hFC, hFx⟩ := own_f p5 hC
  refine own_st (fun _ k => XS.istore X34.here hx rfl (hb hby at_52) rfl (l' := #[.val (.int p0), .val (.int p1), .val (.int p2), .val (.int p3), .val (.int p4), .val (.int p5), .val (.ref a), .val (.int C.toInt32), .unset, .unset, .unset, .unset]) rfl k) ?_
  show own_Go p e s below _ _ _ T34 (mkF m 54 #[.val (.int p0), .val (.int p1), .val (.int p2), .val (.int p3), .val (.int p4), .val (.int p5), .val (.ref a), .val (.int C.toInt32), .unset, .unset, .unset, .unset] [])
  refine own_st (fun _ k => XS.iload X34.here hx rfl (hb hby at_54) rfl k) ?_
  show own_Go p e s below _ _ _ T34 (mkF m 56 #[.val (.int p0), .val (.int p1), .val (.int p2), .val (.int p3), .val (.int p4), .val (.int p5), .val (.ref a), .val (.int C.toInt32), .unset, .unset, .unset, .unset] [(.int p5)])
  refine own_st (fun _ k => XS.sipush X34.here hx rfl (hb hby at_56) k) ?_
  show own_Go p e s below _ _ _ T34 (mkF m 59 #[.val (.int p0), .val (.int p1), .val (.int p2), .val (.int p3), .val (.int p4), .val (.int p5), .val (.ref a), .val (.int C.toInt32), .unset, .unset, .unset, .unset] [(.int (255 : Int32)), (.int p5)])
  refine own_st (fun _ k => XS.iand X34.here hx rfl (hb hby at_59) rfl k) ?_
  show own_Go p e s below _ _ _ T34 (mkF m 60 #[.val (.int p0), .val (.int p1), .val (.int p2), .val (.int p3), .val (.int p4), .val (.int p5), .val (.ref a), .val (.int C.toInt32), .unset, .unset, .unset, .unset] [(.int (p5 &&& (255 : Int32)))])
  refine own_st (fun _ k => XS.bipush X34.here hx rfl (hb hby at_60) k) ?_
  show own_Go p e s below _ _ _ T34 (mkF m 62 #[.val (.int p0), .val (.int p1), .val (.int p2), .val (.int p3), .val (.int p4), .val (.int p5), .val (.ref a), .val (.int C.toInt32), .unset, .unset, .unset, .unset] [(.int (6 : Int32)), (.int (p5 &&& (255 : Int32)))])
  refine own_st (fun _ k => XS.iload X34.here hx rfl (hb hby at_62) rfl k) ?_
  show own_Go p e s below _ _ _ T34 (mkF m 64 #[.val (.int p0), .val (.int p1), .val (.int p2), .val (.int p3), .val (.int p4), .val (.int p5), .val (.ref a), .val (.int C.toInt32), .unset, .unset, .unset, .unset] [(.int C.toInt32), (.int (6 : Int32)), (.int (p5 &&& (255 : Int32)))])
  refine own_st (fun _ k => XS.isub X34.here hx rfl (hb hby at_64) rfl k) ?_
  show own_Go p e s below _ _ _ T34 (mkF m 65 #[.val (.int p0), .val (.int p1), .val (.int p2), .val (.int p3), .val (.int p4), .val (.int p5), .val (.ref a), .val (.int C.toInt32), .unset, .unset, .unset, .unset] [(.int ((6 : Int32) - C.toInt32)), (.int (p5 &&& (255 : Int32)))])
  refine own_st (fun _ k => Jvm.RoadKit.iremM X34 hx rfl (hb hby at_65) rfl hnz k) ?_
  show own_Go p e s below _ _ _ T34 (mkF m 66 #[.val (.int p0), .val (.int p1), .val (.int p2), .val (.int p3), .val (.int p4), .val (.int p5), .val (.ref a), .val (.int C.toInt32), .unset, .unset, .unset, .unset] [(.int ((p5 &&& (255 : Int32)) % ((6 : Int32) - C.toInt32)))])
  rw [hFx]
  show own_Go p e s below _ _ _ T34 (mkF m 66 #[.val (.int p0), .val (.int p1), .val (.int p2), .val (.int p3), .val (.int p4), .val (.int p5), .val (.ref a), .val (.int C.toInt32), .unset, .unset, .unset, .unset] [(.int F.toInt32)])
  refine own_st (fun _ k => XS.istore X34.here hx rfl (hb hby at_66) rfl (l' := #[.val (.int p0), .val (.int p1), .val (.int p2), .val (.int p3), .val (.int p4), .val (.int p5), .val (.ref a), .val (.int C.toInt32), .val (.int F.toInt32), .unset, .unset, .unset]) rfl k) ?_
  show own_Go p e s below _ _ _ T34 (mkF m 68 #[.val (.int p0), .val (.int p1), .val (.int p2), .val (.int p3), .val (.int p4), .val (.int p5), .val (.ref a), .val (.int C.toInt32), .val (.int F.toInt32), .unset, .unset, .unset] [])
  refine own_st (fun _ k => XS.aload X34.here hx rfl (hb hby at_68) rfl rfl k) ?_
  show own_Go p e s below _ _ _ T34 (mkF m 70 #[.val (.int p0), .val (.int p1), .val (.int p2), .val (.int p3), .val (.int p4), .val (.int p5), .val (.ref a), .val (.int C.toInt32), .val (.int F.toInt32), .unset, .unset, .unset] [(.ref a)])
  refine own_st (fun _ k => XS.iconst X34.here hx rfl (hb hby at_70) k) ?_
  show own_Go p e s below _ _ _ T34 (mkF m 71 #[.val (.int p0), .val (.int p1), .val (.int p2), .val (.int p3), .val (.int p4), .val (.int p5), .val (.ref a), .val (.int C.toInt32), .val (.int F.toInt32), .unset, .unset, .unset] [(.int (0 : Int32)), (.ref a)])
  refine own_st (fun _ k => XS.iload X34.here hx rfl (hb hby at_71) rfl k) ?_
  show own_Go p e s below _ _ _ T34 (mkF m 73 #[.val (.int p0), .val (.int p1), .val (.int p2), .val (.int p3), .val (.int p4), .val (.int p5), .val (.ref a), .val (.int C.toInt32), .val (.int F.toInt32), .unset, .unset, .unset] [(.int F.toInt32), (.int (0 : Int32)), (.ref a)])
  refine own_st (fun _ k => XS.iload X34.here hx rfl (hb hby at_73) rfl k) ?_
  show own_Go p e s below _ _ _ T34 (mkF m 75 #[.val (.int p0), .val (.int p1), .val (.int p2), .val (.int p3), .val (.int p4), .val (.int p5), .val (.ref a), .val (.int C.toInt32), .val (.int F.toInt32), .unset, .unset, .unset] [(.int C.toInt32), (.int F.toInt32), (.int (0 : Int32)), (.ref a)])
  have J138 : ∀ (T36 : State) (L36 : List Loc) (X36 : Stand p l e room_1 s m #[(.int p0), (.int p1), (.int p2), (.int p3), (.int p4), (.int p5)] below meth c T36 L36 1 5) (N36 : Fr n0 L36) (e36 : T36.heap = h34) (bz : Int32) (_ : bz = own_b ((own_in (0 : Int32) F.toInt32 C.toInt32 ∧ ¬ own_dg d0) ∨ (own_in (1 : Int32) F.toInt32 C.toInt32 ∧ ¬ own_dg d1) ∨ (own_in (2 : Int32) F.toInt32 C.toInt32 ∧ ¬ own_dg d2) ∨ (own_in (3 : Int32) F.toInt32 C.toInt32 ∧ ¬ own_dg d3) ∨ (own_in (4 : Int32) F.toInt32 C.toInt32 ∧ ¬ own_dg d4))), own_Go p e s below (fun (v : Option Value) (h : Heap) (L : List Loc) => v = some (.int 1) ∧ Fr n0 L) 16 128 T36 (mkF m 138 #[.val (.int p0), .val (.int p1), .val (.int p2), .val (.int p3), .val (.int p4), .val (.int p5), .val (.ref a), .val (.int C.toInt32), .val (.int F.toInt32), .unset, .unset, .unset] [(.int bz)]) := by
    intro T36 L36 X36 N36 e36
    rintro _ rfl
    show own_Go p e s below _ _ _ T36 (mkF m 138 #[.val (.int p0), .val (.int p1), .val (.int p2), .val (.int p3), .val (.int p4), .val (.int p5), .val (.ref a), .val (.int C.toInt32), .val (.int F.toInt32), .unset, .unset, .unset] [(.int (own_b ((own_in (0 : Int32) F.toInt32 C.toInt32 ∧ ¬ own_dg d0) ∨ (own_in (1 : Int32) F.toInt32 C.toInt32 ∧ ¬ own_dg d1) ∨ (own_in (2 : Int32) F.toInt32 C.toInt32 ∧ ¬ own_dg d2) ∨ (own_in (3 : Int32) F.toInt32 C.toInt32 ∧ ¬ own_dg d3) ∨ (own_in (4 : Int32) F.toInt32 C.toInt32 ∧ ¬ own_dg d4))))])
    refine own_st (fun _ k => XS.istore X36.here hx rfl (hb hby at_138) rfl (l' := #[.val (.int p0), .val (.int p1), .val (.int p2), .val (.int p3), .val (.int p4), .val (.int p5), .val (.ref a), .val (.int C.toInt32), .val (.int F.toInt32), .val (.int (own_b ((own_in (0 : Int32) F.toInt32 C.toInt32 ∧ ¬ own_dg d0) ∨ (own_in (1 : Int32) F.toInt32 C.toInt32 ∧ ¬ own_dg d1) ∨ (own_in (2 : Int32) F.toInt32 C.toInt32 ∧ ¬ own_dg d2) ∨ (own_in (3 : Int32) F.toInt32 C.toInt32 ∧ ¬ own_dg d3) ∨ (own_in (4 : Int32) F.toInt32 C.toInt32 ∧ ¬ own_dg d4)))), .unset, .unset]) rfl k) ?_
    show own_Go p e s below _ _ _ T36 (mkF m 140 #[.val (.int p0), .val (.int p1), .val (.int p2), .val (.int p3), .val (.int p4), .val (.int p5), .val (.ref a), .val (.int C.toInt32), .val (.int F.toInt32), .val (.int (own_b ((own_in (0 : Int32) F.toInt32 C.toInt32 ∧ ¬ own_dg d0) ∨ (own_in (1 : Int32) F.toInt32 C.toInt32 ∧ ¬ own_dg d1) ∨ (own_in (2 : Int32) F.toInt32 C.toInt32 ∧ ¬ own_dg d2) ∨ (own_in (3 : Int32) F.toInt32 C.toInt32 ∧ ¬ own_dg d3) ∨ (own_in (4 : Int32) F.toInt32 C.toInt32 ∧ ¬ own_dg d4)))), .unset, .unset] [])
    refine own_st (fun _ k => XS.aload X36.here hx rfl (hb hby at_140) rfl rfl k) ?_
    show own_Go p e s below _ _ _ T36 (mkF m 142 #[.val (.int p0), .val (.int p1), .val (.int p2), .val (.int p3), .val (.int p4), .val (.int p5), .val (.ref a), .val (.int C.toInt32), .val (.int F.toInt32), .val (.int (own_b ((own_in (0 : Int32) F.toInt32 C.toInt32 ∧ ¬ own_dg d0) ∨ (own_in (1 : Int32) F.toInt32 C.toInt32 ∧ ¬ own_dg d1) ∨ (own_in (2 : Int32) F.toInt32 C.toInt32 ∧ ¬ own_dg d2) ∨ (own_in (3 : Int32) F.toInt32 C.toInt32 ∧ ¬ own_dg d3) ∨ (own_in (4 : Int32) F.toInt32 C.toInt32 ∧ ¬ own_dg d4)))), .unset, .unset] [(.ref a)])
    refine own_st (fun _ k => XS.iconst X36.here hx rfl (hb hby at_142) k) ?_
    show own_Go p e s below _ _ _ T36 (mkF m 143 #[.val (.int p0), .val (.int p1), .val (.int p2), .val (.int p3), .val (.int p4), .val (.int p5), .val (.ref a), .val (.int C.toInt32), .val (.int F.toInt32), .val (.int (own_b ((own_in (0 : Int32) F.toInt32 C.toInt32 ∧ ¬ own_dg d0) ∨ (own_in (1 : Int32) F.toInt32 C.toInt32 ∧ ¬ own_dg d1) ∨ (own_in (2 : Int32) F.toInt32 C.toInt32 ∧ ¬ own_dg d2) ∨ (own_in (3 : Int32) F.toInt32 C.toInt32 ∧ ¬ own_dg d3) ∨ (own_in (4 : Int32) F.toInt32 C.toInt32 ∧ ¬ own_dg d4)))), .unset, .unset] [(.int (0 : Int32)), (.ref a)])
    refine own_st (fun _ k => XS.iload X36.here hx rfl (hb hby at_143) rfl k) ?_
    show own_Go p e s below _ _ _ T36 (mkF m 145 #[.val (.int p0), .val (.int p1), .val (.int p2), .val (.int p3), .val (.int p4), .val (.int p5), .val (.ref a), .val (.int C.toInt32), .val (.int F.toInt32), .val (.int (own_b ((own_in (0 : Int32) F.toInt32 C.toInt32 ∧ ¬ own_dg d0) ∨ (own_in (1 : Int32) F.toInt32 C.toInt32 ∧ ¬ own_dg d1) ∨ (own_in (2 : Int32) F.toInt32 C.toInt32 ∧ ¬ own_dg d2) ∨ (own_in (3 : Int32) F.toInt32 C.toInt32 ∧ ¬ own_dg d3) ∨ (own_in (4 : Int32) F.toInt32 C.toInt32 ∧ ¬ own_dg d4)))), .unset, .unset] [(.int F.toInt32), (.int (0 : Int32)), (.ref a)])
    refine own_st (fun _ k => XS.iload X36.here hx rfl (hb hby at_145) rfl k) ?_
    show own_Go p e s below _ _ _ T36 (mkF m 147 #[.val (.int p0), .val (.int p1), .val (.int p2), .val (.int p3), .val (.int p4), .val (.int p5), .val (.ref a), .val (.int C.toInt32), .val (.int F.toInt32), .val (.int (own_b ((own_in (0 : Int32) F.toInt32 C.toInt32 ∧ ¬ own_dg d0) ∨ (own_in (1 : Int32) F.toInt32 C.toInt32 ∧ ¬ own_dg d1) ∨ (own_in (2 : Int32) F.toInt32 C.toInt32 ∧ ¬ own_dg d2) ∨ (own_in (3 : Int32) F.toInt32 C.toInt32 ∧ ¬ own_dg d3) ∨ (own_in (4 : Int32) F.toInt32 C.toInt32 ∧ ¬ own_dg d4)))), .unset, .unset] [(.int C.toInt32), (.int F.toInt32), (.int (0 : Int32)), (.ref a)])
    refine own_callS X36 hx hZ (y := (⟨"com/example/phonomark/phonomark/Iso2709RecordDigitsPinLaw", "part", "([BIII)I"⟩ : MethodName)) hown (hw _ (List.mem_of_getElem? (i := 12) rfl)) (hw _ (List.mem_of_getElem? (i := 13) rfl)) (hw _ (List.mem_of_getElem? (i := 3) rfl)) (hw _ (List.mem_of_getElem? (i := 14) rfl)) (by decide) e36 (rm4 l Z a0 hw [] a (0 : Int32) F.toInt32 C.toInt32 d0 k19 [(.int d0), (.int d1), (.int d2), (.int d3), (.int d4)] h34 n0 Z35 V_a (by decide) rfl) 0 (by decide) (by decide) (g := (mkF m 147 #[.val (.int p0), .val (.int p1), .val (.int p2), .val (.int p3), .val (.int p4), .val (.int p5), .val (.ref a), .val (.int C.toInt32), .val (.int F.toInt32), .val (.int (own_b ((own_in (0 : Int32) F.toInt32 C.toInt32 ∧ ¬ own_dg d0) ∨ (own_in (1 : Int32) F.toInt32 C.toInt32 ∧ ¬ own_dg d1) ∨ (own_in (2 : Int32) F.toInt32 C.toInt32 ∧ ¬ own_dg d2) ∨ (own_in (3 : Int32) F.toInt32 C.toInt32 ∧ ¬ own_dg d3) ∨ (own_in (4 : Int32) F.toInt32 C.toInt32 ∧ ¬ own_dg d4)))), .unset, .unset] [(.int C.toInt32), (.int F.toInt32), (.int (0 : Int32)), (.ref a)])) rfl (by rw [hml]; rfl) (argsL := [(.ref a), (.int (0 : Int32)), (.int F.toInt32), (.int C.toInt32)]) (rest := []) pd5 rfl rfl rfl (by show 2 * 0 + _ ≤ _; exact Nat.le_of_eq rfl) (hb hby at_147) (by decide) (by decide) ?_
    intro T37 v37 L37 X37 hQ37
    obtain ⟨rfl, N37q, e37⟩ := hQ37
    have N37 := Fr.app N36 N37q
    show own_Go p e s below _ _ _ T37 (mkF m 150 #[.val (.int p0), .val (.int p1), .val (.int p2), .val (.int p3), .val (.int p4), .val (.int p5), .val (.ref a), .val (.int C.toInt32), .val (.int F.toInt32), .val (.int (own_b ((own_in (0 : Int32) F.toInt32 C.toInt32 ∧ ¬ own_dg d0) ∨ (own_in (1 : Int32) F.toInt32 C.toInt32 ∧ ¬ own_dg d1) ∨ (own_in (2 : Int32) F.toInt32 C.toInt32 ∧ ¬ own_dg d2) ∨ (own_in (3 : Int32) F.toInt32 C.toInt32 ∧ ¬ own_dg d3) ∨ (own_in (4 : Int32) F.toInt32 C.toInt32 ∧ ¬ own_dg d4)))), .unset, .unset] [(.int (own_part (0 : Int32) F.toInt32 C.toInt32 d0))])
    refine own_st (fun _ k => XS.aload X37.here hx rfl (hb hby at_150) rfl rfl k) ?_
    show own_Go p e s below _ _ _ T37 (mkF m 152 #[.val (.int p0), .val (.int p1), .val (.int p2), .val (.int p3), .val (.int p4), .val (.int p5), .val (.ref a), .val (.int C.toInt32), .val (.int F.toInt32), .val (.int (own_b ((own_in (0 : Int32) F.toInt32 C.toInt32 ∧ ¬ own_dg d0) ∨ (own_in (1 : Int32) F.toInt32 C.toInt32 ∧ ¬ own_dg d1) ∨ (own_in (2 : Int32) F.toInt32 C.toInt32 ∧ ¬ own_dg d2) ∨ (own_in (3 : Int32) F.toInt32 C.toInt32 ∧ ¬ own_dg d3) ∨ (own_in (4 : Int32) F.toInt32 C.toInt32 ∧ ¬ own_dg d4)))), .unset, .unset] [(.ref a), (.int (own_part (0 : Int32) F.toInt32 C.toInt32 d0))])
    refine own_st (fun _ k => XS.iconst X37.here hx rfl (hb hby at_152) k) ?_
    show own_Go p e s below _ _ _ T37 (mkF m 153 #[.val (.int p0), .val (.int p1), .val (.int p2), .val (.int p3), .val (.int p4), .val (.int p5), .val (.ref a), .val (.int C.toInt32), .val (.int F.toInt32), .val (.int (own_b ((own_in (0 : Int32) F.toInt32 C.toInt32 ∧ ¬ own_dg d0) ∨ (own_in (1 : Int32) F.toInt32 C.toInt32 ∧ ¬ own_dg d1) ∨ (own_in (2 : Int32) F.toInt32 C.toInt32 ∧ ¬ own_dg d2) ∨ (own_in (3 : Int32) F.toInt32 C.toInt32 ∧ ¬ own_dg d3) ∨ (own_in (4 : Int32) F.toInt32 C.toInt32 ∧ ¬ own_dg d4)))), .unset, .unset] [(.int (1 : Int32)), (.ref a), (.int (own_part (0 : Int32) F.toInt32 C.toInt32 d0))])
    refine own_st (fun _ k => XS.iload X37.here hx rfl (hb hby at_153) rfl k) ?_
    show own_Go p e s below _ _ _ T37 (mkF m 155 #[.val (.int p0), .val (.int p1), .val (.int p2), .val (.int p3), .val (.int p4), .val (.int p5), .val (.ref a), .val (.int C.toInt32), .val (.int F.toInt32), .val (.int (own_b ((own_in (0 : Int32) F.toInt32 C.toInt32 ∧ ¬ own_dg d0) ∨ (own_in (1 : Int32) F.toInt32 C.toInt32 ∧ ¬ own_dg d1) ∨ (own_in (2 : Int32) F.toInt32 C.toInt32 ∧ ¬ own_dg d2) ∨ (own_in (3 : Int32) F.toInt32 C.toInt32 ∧ ¬ own_dg d3) ∨ (own_in (4 : Int32) F.toInt32 C.toInt32 ∧ ¬ own_dg d4)))), .unset, .unset] [(.int F.toInt32), (.int (1 : Int32)), (.ref a), (.int (own_part (0 : Int32) F.toInt32 C.toInt32 d0))])
    refine own_st (fun _ k => XS.iload X37.here hx rfl (hb hby at_155) rfl k) ?_
    show own_Go p e s below _ _ _ T37 (mkF m 157 #[.val (.int p0), .val (.int p1), .val (.int p2), .val (.int p3), .val (.int p4), .val (.int p5), .val (.ref a), .val (.int C.toInt32), .val (.int F.toInt32), .val (.int (own_b ((own_in (0 : Int32) F.toInt32 C.toInt32 ∧ ¬ own_dg d0) ∨ (own_in (1 : Int32) F.toInt32 C.toInt32 ∧ ¬ own_dg d1) ∨ (own_in (2 : Int32) F.toInt32 C.toInt32 ∧ ¬ own_dg d2) ∨ (own_in (3 : Int32) F.toInt32 C.toInt32 ∧ ¬ own_dg d3) ∨ (own_in (4 : Int32) F.toInt32 C.toInt32 ∧ ¬ own_dg d4)))), .unset, .unset] [(.int C.toInt32), (.int F.toInt32), (.int (1 : Int32)), (.ref a), (.int (own_part (0 : Int32) F.toInt32 C.toInt32 d0))])
    refine own_callS X37 hx hZ (y := (⟨"com/example/phonomark/phonomark/Iso2709RecordDigitsPinLaw", "part", "([BIII)I"⟩ : MethodName)) hown (hw _ (List.mem_of_getElem? (i := 12) rfl)) (hw _ (List.mem_of_getElem? (i := 13) rfl)) (hw _ (List.mem_of_getElem? (i := 3) rfl)) (hw _ (List.mem_of_getElem? (i := 14) rfl)) (by decide) e37 (rm4 l Z a0 hw [] a (1 : Int32) F.toInt32 C.toInt32 d1 k19 [(.int d0), (.int d1), (.int d2), (.int d3), (.int d4)] h34 n0 Z35 V_a (by decide) rfl) 1 (by decide) (by decide) (g := (mkF m 157 #[.val (.int p0), .val (.int p1), .val (.int p2), .val (.int p3), .val (.int p4), .val (.int p5), .val (.ref a), .val (.int C.toInt32), .val (.int F.toInt32), .val (.int (own_b ((own_in (0 : Int32) F.toInt32 C.toInt32 ∧ ¬ own_dg d0) ∨ (own_in (1 : Int32) F.toInt32 C.toInt32 ∧ ¬ own_dg d1) ∨ (own_in (2 : Int32) F.toInt32 C.toInt32 ∧ ¬ own_dg d2) ∨ (own_in (3 : Int32) F.toInt32 C.toInt32 ∧ ¬ own_dg d3) ∨ (own_in (4 : Int32) F.toInt32 C.toInt32 ∧ ¬ own_dg d4)))), .unset, .unset] [(.int C.toInt32), (.int F.toInt32), (.int (1 : Int32)), (.ref a), (.int (own_part (0 : Int32) F.toInt32 C.toInt32 d0))])) rfl (by rw [hml]; rfl) (argsL := [(.ref a), (.int (1 : Int32)), (.int F.toInt32), (.int C.toInt32)]) (rest := [(.int (own_part (0 : Int32) F.toInt32 C.toInt32 d0))]) pd5 rfl rfl rfl (by show 2 * 0 + _ ≤ _; exact Nat.le_of_eq rfl) (hb hby at_157) (by decide) (by decide) ?_
    intro T38 v38 L38 X38 hQ38
    obtain ⟨rfl, N38q, e38⟩ := hQ38
    have N38 := Fr.app N37 N38q
    show own_Go p e s below _ _ _ T38 (mkF m 160 #[.val (.int p0), .val (.int p1), .val (.int p2), .val (.int p3), .val (.int p4), .val (.int p5), .val (.ref a), .val (.int C.toInt32), .val (.int F.toInt32), .val (.int (own_b ((own_in (0 : Int32) F.toInt32 C.toInt32 ∧ ¬ own_dg d0) ∨ (own_in (1 : Int32) F.toInt32 C.toInt32 ∧ ¬ own_dg d1) ∨ (own_in (2 : Int32) F.toInt32 C.toInt32 ∧ ¬ own_dg d2) ∨ (own_in (3 : Int32) F.toInt32 C.toInt32 ∧ ¬ own_dg d3) ∨ (own_in (4 : Int32) F.toInt32 C.toInt32 ∧ ¬ own_dg d4)))), .unset, .unset] [(.int (own_part (1 : Int32) F.toInt32 C.toInt32 d1)), (.int (own_part (0 : Int32) F.toInt32 C.toInt32 d0))])
    refine own_st (fun _ k => XS.iadd X38.here hx rfl (hb hby at_160) rfl k) ?_
    show own_Go p e s below _ _ _ T38 (mkF m 161 #[.val (.int p0), .val (.int p1), .val (.int p2), .val (.int p3), .val (.int p4), .val (.int p5), .val (.ref a), .val (.int C.toInt32), .val (.int F.toInt32), .val (.int (own_b ((own_in (0 : Int32) F.toInt32 C.toInt32 ∧ ¬ own_dg d0) ∨ (own_in (1 : Int32) F.toInt32 C.toInt32 ∧ ¬ own_dg d1) ∨ (own_in (2 : Int32) F.toInt32 C.toInt32 ∧ ¬ own_dg d2) ∨ (own_in (3 : Int32) F.toInt32 C.toInt32 ∧ ¬ own_dg d3) ∨ (own_in (4 : Int32) F.toInt32 C.toInt32 ∧ ¬ own_dg d4)))), .unset, .unset] [(.int ((own_part (0 : Int32) F.toInt32 C.toInt32 d0) + (own_part (1 : Int32) F.toInt32 C.toInt32 d1)))])
    refine own_st (fun _ k => XS.aload X38.here hx rfl (hb hby at_161) rfl rfl k) ?_
    show own_Go p e s below _ _ _ T38 (mkF m 163 #[.val (.int p0), .val (.int p1), .val (.int p2), .val (.int p3), .val (.int p4), .val (.int p5), .val (.ref a), .val (.int C.toInt32), .val (.int F.toInt32), .val (.int (own_b ((own_in (0 : Int32) F.toInt32 C.toInt32 ∧ ¬ own_dg d0) ∨ (own_in (1 : Int32) F.toInt32 C.toInt32 ∧ ¬ own_dg d1) ∨ (own_in (2 : Int32) F.toInt32 C.toInt32 ∧ ¬ own_dg d2) ∨ (own_in (3 : Int32) F.toInt32 C.toInt32 ∧ ¬ own_dg d3) ∨ (own_in (4 : Int32) F.toInt32 C.toInt32 ∧ ¬ own_dg d4)))), .unset, .unset] [(.ref a), (.int ((own_part (0 : Int32) F.toInt32 C.toInt32 d0) + (own_part (1 : Int32) F.toInt32 C.toInt32 d1)))])
    refine own_st (fun _ k => XS.iconst X38.here hx rfl (hb hby at_163) k) ?_
    show own_Go p e s below _ _ _ T38 (mkF m 164 #[.val (.int p0), .val (.int p1), .val (.int p2), .val (.int p3), .val (.int p4), .val (.int p5), .val (.ref a), .val (.int C.toInt32), .val (.int F.toInt32), .val (.int (own_b ((own_in (0 : Int32) F.toInt32 C.toInt32 ∧ ¬ own_dg d0) ∨ (own_in (1 : Int32) F.toInt32 C.toInt32 ∧ ¬ own_dg d1) ∨ (own_in (2 : Int32) F.toInt32 C.toInt32 ∧ ¬ own_dg d2) ∨ (own_in (3 : Int32) F.toInt32 C.toInt32 ∧ ¬ own_dg d3) ∨ (own_in (4 : Int32) F.toInt32 C.toInt32 ∧ ¬ own_dg d4)))), .unset, .unset] [(.int (2 : Int32)), (.ref a), (.int ((own_part (0 : Int32) F.toInt32 C.toInt32 d0) + (own_part (1 : Int32) F.toInt32 C.toInt32 d1)))])
    refine own_st (fun _ k => XS.iload X38.here hx rfl (hb hby at_164) rfl k) ?_
    show own_Go p e s below _ _ _ T38 (mkF m 166 #[.val (.int p0), .val (.int p1), .val (.int p2), .val (.int p3), .val (.int p4), .val (.int p5), .val (.ref a), .val (.int C.toInt32), .val (.int F.toInt32), .val (.int (own_b ((own_in (0 : Int32) F.toInt32 C.toInt32 ∧ ¬ own_dg d0) ∨ (own_in (1 : Int32) F.toInt32 C.toInt32 ∧ ¬ own_dg d1) ∨ (own_in (2 : Int32) F.toInt32 C.toInt32 ∧ ¬ own_dg d2) ∨ (own_in (3 : Int32) F.toInt32 C.toInt32 ∧ ¬ own_dg d3) ∨ (own_in (4 : Int32) F.toInt32 C.toInt32 ∧ ¬ own_dg d4)))), .unset, .unset] [(.int F.toInt32), (.int (2 : Int32)), (.ref a), (.int ((own_part (0 : Int32) F.toInt32 C.toInt32 d0) + (own_part (1 : Int32) F.toInt32 C.toInt32 d1)))])
    refine own_st (fun _ k => XS.iload X38.here hx rfl (hb hby at_166) rfl k) ?_
    show own_Go p e s below _ _ _ T38 (mkF m 168 #[.val (.int p0), .val (.int p1), .val (.int p2), .val (.int p3), .val (.int p4), .val (.int p5), .val (.ref a), .val (.int C.toInt32), .val (.int F.toInt32), .val (.int (own_b ((own_in (0 : Int32) F.toInt32 C.toInt32 ∧ ¬ own_dg d0) ∨ (own_in (1 : Int32) F.toInt32 C.toInt32 ∧ ¬ own_dg d1) ∨ (own_in (2 : Int32) F.toInt32 C.toInt32 ∧ ¬ own_dg d2) ∨ (own_in (3 : Int32) F.toInt32 C.toInt32 ∧ ¬ own_dg d3) ∨ (own_in (4 : Int32) F.toInt32 C.toInt32 ∧ ¬ own_dg d4)))), .unset, .unset] [(.int C.toInt32), (.int F.toInt32), (.int (2 : Int32)), (.ref a), (.int ((own_part (0 : Int32) F.toInt32 C.toInt32 d0) + (own_part (1 : Int32) F.toInt32 C.toInt32 d1)))])
    refine own_callS X38 hx hZ (y := (⟨"com/example/phonomark/phonomark/Iso2709RecordDigitsPinLaw", "part", "([BIII)I"⟩ : MethodName)) hown (hw _ (List.mem_of_getElem? (i := 12) rfl)) (hw _ (List.mem_of_getElem? (i := 13) rfl)) (hw _ (List.mem_of_getElem? (i := 3) rfl)) (hw _ (List.mem_of_getElem? (i := 14) rfl)) (by decide) e38 (rm4 l Z a0 hw [] a (2 : Int32) F.toInt32 C.toInt32 d2 k19 [(.int d0), (.int d1), (.int d2), (.int d3), (.int d4)] h34 n0 Z35 V_a (by decide) rfl) 1 (by decide) (by decide) (g := (mkF m 168 #[.val (.int p0), .val (.int p1), .val (.int p2), .val (.int p3), .val (.int p4), .val (.int p5), .val (.ref a), .val (.int C.toInt32), .val (.int F.toInt32), .val (.int (own_b ((own_in (0 : Int32) F.toInt32 C.toInt32 ∧ ¬ own_dg d0) ∨ (own_in (1 : Int32) F.toInt32 C.toInt32 ∧ ¬ own_dg d1) ∨ (own_in (2 : Int32) F.toInt32 C.toInt32 ∧ ¬ own_dg d2) ∨ (own_in (3 : Int32) F.toInt32 C.toInt32 ∧ ¬ own_dg d3) ∨ (own_in (4 : Int32) F.toInt32 C.toInt32 ∧ ¬ own_dg d4)))), .unset, .unset] [(.int C.toInt32), (.int F.toInt32), (.int (2 : Int32)), (.ref a), (.int ((own_part (0 : Int32) F.toInt32 C.toInt32 d0) + (own_part (1 : Int32) F.toInt32 C.toInt32 d1)))])) rfl (by rw [hml]; rfl) (argsL := [(.ref a), (.int (2 : Int32)), (.int F.toInt32), (.int C.toInt32)]) (rest := [(.int ((own_part (0 : Int32) F.toInt32 C.toInt32 d0) + (own_part (1 : Int32) F.toInt32 C.toInt32 d1)))]) pd5 rfl rfl rfl (by show 2 * 0 + _ ≤ _; exact Nat.le_of_eq rfl) (hb hby at_168) (by decide) (by decide) ?_
    intro T39 v39 L39 X39 hQ39
    obtain ⟨rfl, N39q, e39⟩ := hQ39
    have N39 := Fr.app N38 N39q
    show own_Go p e s below _ _ _ T39 (mkF m 171 #[.val (.int p0), .val (.int p1), .val (.int p2), .val (.int p3), .val (.int p4), .val (.int p5), .val (.ref a), .val (.int C.toInt32), .val (.int F.toInt32), .val (.int (own_b ((own_in (0 : Int32) F.toInt32 C.toInt32 ∧ ¬ own_dg d0) ∨ (own_in (1 : Int32) F.toInt32 C.toInt32 ∧ ¬ own_dg d1) ∨ (own_in (2 : Int32) F.toInt32 C.toInt32 ∧ ¬ own_dg d2) ∨ (own_in (3 : Int32) F.toInt32 C.toInt32 ∧ ¬ own_dg d3) ∨ (own_in (4 : Int32) F.toInt32 C.toInt32 ∧ ¬ own_dg d4)))), .unset, .unset] [(.int (own_part (2 : Int32) F.toInt32 C.toInt32 d2)), (.int ((own_part (0 : Int32) F.toInt32 C.toInt32 d0) + (own_part (1 : Int32) F.toInt32 C.toInt32 d1)))])
    refine own_st (fun _ k => XS.iadd X39.here hx rfl (hb hby at_171) rfl k) ?_
    show own_Go p e s below _ _ _ T39 (mkF m 172 #[.val (.int p0), .val (.int p1), .val (.int p2), .val (.int p3), .val (.int p4), .val (.int p5), .val (.ref a), .val (.int C.toInt32), .val (.int F.toInt32), .val (.int (own_b ((own_in (0 : Int32) F.toInt32 C.toInt32 ∧ ¬ own_dg d0) ∨ (own_in (1 : Int32) F.toInt32 C.toInt32 ∧ ¬ own_dg d1) ∨ (own_in (2 : Int32) F.toInt32 C.toInt32 ∧ ¬ own_dg d2) ∨ (own_in (3 : Int32) F.toInt32 C.toInt32 ∧ ¬ own_dg d3) ∨ (own_in (4 : Int32) F.toInt32 C.toInt32 ∧ ¬ own_dg d4)))), .unset, .unset] [(.int (((own_part (0 : Int32) F.toInt32 C.toInt32 d0) + (own_part (1 : Int32) F.toInt32 C.toInt32 d1)) + (own_part (2 : Int32) F.toInt32 C.toInt32 d2)))])
    refine own_st (fun _ k => XS.aload X39.here hx rfl (hb hby at_172) rfl rfl k) ?_
    show own_Go p e s below _ _ _ T39 (mkF m 174 #[.val (.int p0), .val (.int p1), .val (.int p2), .val (.int p3), .val (.int p4), .val (.int p5), .val (.ref a), .val (.int C.toInt32), .val (.int F.toInt32), .val (.int (own_b ((own_in (0 : Int32) F.toInt32 C.toInt32 ∧ ¬ own_dg d0) ∨ (own_in (1 : Int32) F.toInt32 C.toInt32 ∧ ¬ own_dg d1) ∨ (own_in (2 : Int32) F.toInt32 C.toInt32 ∧ ¬ own_dg d2) ∨ (own_in (3 : Int32) F.toInt32 C.toInt32 ∧ ¬ own_dg d3) ∨ (own_in (4 : Int32) F.toInt32 C.toInt32 ∧ ¬ own_dg d4)))), .unset, .unset] [(.ref a), (.int (((own_part (0 : Int32) F.toInt32 C.toInt32 d0) + (own_part (1 : Int32) F.toInt32 C.toInt32 d1)) + (own_part (2 : Int32) F.toInt32 C.toInt32 d2)))])
    refine own_st (fun _ k => XS.iconst X39.here hx rfl (hb hby at_174) k) ?_
    show own_Go p e s below _ _ _ T39 (mkF m 175 #[.val (.int p0), .val (.int p1), .val (.int p2), .val (.int p3), .val (.int p4), .val (.int p5), .val (.ref a), .val (.int C.toInt32), .val (.int F.toInt32), .val (.int (own_b ((own_in (0 : Int32) F.toInt32 C.toInt32 ∧ ¬ own_dg d0) ∨ (own_in (1 : Int32) F.toInt32 C.toInt32 ∧ ¬ own_dg d1) ∨ (own_in (2 : Int32) F.toInt32 C.toInt32 ∧ ¬ own_dg d2) ∨ (own_in (3 : Int32) F.toInt32 C.toInt32 ∧ ¬ own_dg d3) ∨ (own_in (4 : Int32) F.toInt32 C.toInt32 ∧ ¬ own_dg d4)))), .unset, .unset] [(.int (3 : Int32)), (.ref a), (.int (((own_part (0 : Int32) F.toInt32 C.toInt32 d0) + (own_part (1 : Int32) F.toInt32 C.toInt32 d1)) + (own_part (2 : Int32) F.toInt32 C.toInt32 d2)))])
    refine own_st (fun _ k => XS.iload X39.here hx rfl (hb hby at_175) rfl k) ?_
    show own_Go p e s below _ _ _ T39 (mkF m 177 #[.val (.int p0), .val (.int p1), .val (.int p2), .val (.int p3), .val (.int p4), .val (.int p5), .val (.ref a), .val (.int C.toInt32), .val (.int F.toInt32), .val (.int (own_b ((own_in (0 : Int32) F.toInt32 C.toInt32 ∧ ¬ own_dg d0) ∨ (own_in (1 : Int32) F.toInt32 C.toInt32 ∧ ¬ own_dg d1) ∨ (own_in (2 : Int32) F.toInt32 C.toInt32 ∧ ¬ own_dg d2) ∨ (own_in (3 : Int32) F.toInt32 C.toInt32 ∧ ¬ own_dg d3) ∨ (own_in (4 : Int32) F.toInt32 C.toInt32 ∧ ¬ own_dg d4)))), .unset, .unset] [(.int F.toInt32), (.int (3 : Int32)), (.ref a), (.int (((own_part (0 : Int32) F.toInt32 C.toInt32 d0) + (own_part (1 : Int32) F.toInt32 C.toInt32 d1)) + (own_part (2 : Int32) F.toInt32 C.toInt32 d2)))])
    refine own_st (fun _ k => XS.iload X39.here hx rfl (hb hby at_177) rfl k) ?_
    show own_Go p e s below _ _ _ T39 (mkF m 179 #[.val (.int p0), .val (.int p1), .val (.int p2), .val (.int p3), .val (.int p4), .val (.int p5), .val (.ref a), .val (.int C.toInt32), .val (.int F.toInt32), .val (.int (own_b ((own_in (0 : Int32) F.toInt32 C.toInt32 ∧ ¬ own_dg d0) ∨ (own_in (1 : Int32) F.toInt32 C.toInt32 ∧ ¬ own_dg d1) ∨ (own_in (2 : Int32) F.toInt32 C.toInt32 ∧ ¬ own_dg d2) ∨ (own_in (3 : Int32) F.toInt32 C.toInt32 ∧ ¬ own_dg d3) ∨ (own_in (4 : Int32) F.toInt32 C.toInt32 ∧ ¬ own_dg d4)))), .unset, .unset] [(.int C.toInt32), (.int F.toInt32), (.int (3 : Int32)), (.ref a), (.int (((own_part (0 : Int32) F.toInt32 C.toInt32 d0) + (own_part (1 : Int32) F.toInt32 C.toInt32 d1)) + (own_part (2 : Int32) F.toInt32 C.toInt32 d2)))])
    refine own_callS X39 hx hZ (y := (⟨"com/example/phonomark/phonomark/Iso2709RecordDigitsPinLaw", "part", "([BIII)I"⟩ : MethodName)) hown (hw _ (List.mem_of_getElem? (i := 12) rfl)) (hw _ (List.mem_of_getElem? (i := 13) rfl)) (hw _ (List.mem_of_getElem? (i := 3) rfl)) (hw _ (List.mem_of_getElem? (i := 14) rfl)) (by decide) e39 (rm4 l Z a0 hw [] a (3 : Int32) F.toInt32 C.toInt32 d3 k19 [(.int d0), (.int d1), (.int d2), (.int d3), (.int d4)] h34 n0 Z35 V_a (by decide) rfl) 1 (by decide) (by decide) (g := (mkF m 179 #[.val (.int p0), .val (.int p1), .val (.int p2), .val (.int p3), .val (.int p4), .val (.int p5), .val (.ref a), .val (.int C.toInt32), .val (.int F.toInt32), .val (.int (own_b ((own_in (0 : Int32) F.toInt32 C.toInt32 ∧ ¬ own_dg d0) ∨ (own_in (1 : Int32) F.toInt32 C.toInt32 ∧ ¬ own_dg d1) ∨ (own_in (2 : Int32) F.toInt32 C.toInt32 ∧ ¬ own_dg d2) ∨ (own_in (3 : Int32) F.toInt32 C.toInt32 ∧ ¬ own_dg d3) ∨ (own_in (4 : Int32) F.toInt32 C.toInt32 ∧ ¬ own_dg d4)))), .unset, .unset] [(.int C.toInt32), (.int F.toInt32), (.int (3 : Int32)), (.ref a), (.int (((own_part (0 : Int32) F.toInt32 C.toInt32 d0) + (own_part (1 : Int32) F.toInt32 C.toInt32 d1)) + (own_part (2 : Int32) F.toInt32 C.toInt32 d2)))])) rfl (by rw [hml]; rfl) (argsL := [(.ref a), (.int (3 : Int32)), (.int F.toInt32), (.int C.toInt32)]) (rest := [(.int (((own_part (0 : Int32) F.toInt32 C.toInt32 d0) + (own_part (1 : Int32) F.toInt32 C.toInt32 d1)) + (own_part (2 : Int32) F.toInt32 C.toInt32 d2)))]) pd5 rfl rfl rfl (by show 2 * 0 + _ ≤ _; exact Nat.le_of_eq rfl) (hb hby at_179) (by decide) (by decide) ?_
    intro T40 v40 L40 X40 hQ40
    obtain ⟨rfl, N40q, e40⟩ := hQ40
    have N40 := Fr.app N39 N40q
    show own_Go p e s below _ _ _ T40 (mkF m 182 #[.val (.int p0), .val (.int p1), .val (.int p2), .val (.int p3), .val (.int p4), .val (.int p5), .val (.ref a), .val (.int C.toInt32), .val (.int F.toInt32), .val (.int (own_b ((own_in (0 : Int32) F.toInt32 C.toInt32 ∧ ¬ own_dg d0) ∨ (own_in (1 : Int32) F.toInt32 C.toInt32 ∧ ¬ own_dg d1) ∨ (own_in (2 : Int32) F.toInt32 C.toInt32 ∧ ¬ own_dg d2) ∨ (own_in (3 : Int32) F.toInt32 C.toInt32 ∧ ¬ own_dg d3) ∨ (own_in (4 : Int32) F.toInt32 C.toInt32 ∧ ¬ own_dg d4)))), .unset, .unset] [(.int (own_part (3 : Int32) F.toInt32 C.toInt32 d3)), (.int (((own_part (0 : Int32) F.toInt32 C.toInt32 d0) + (own_part (1 : Int32) F.toInt32 C.toInt32 d1)) + (own_part (2 : Int32) F.toInt32 C.toInt32 d2)))])
    refine own_st (fun _ k => XS.iadd X40.here hx rfl (hb hby at_182) rfl k) ?_
    show own_Go p e s below _ _ _ T40 (mkF m 183 #[.val (.int p0), .val (.int p1), .val (.int p2), .val (.int p3), .val (.int p4), .val (.int p5), .val (.ref a), .val (.int C.toInt32), .val (.int F.toInt32), .val (.int (own_b ((own_in (0 : Int32) F.toInt32 C.toInt32 ∧ ¬ own_dg d0) ∨ (own_in (1 : Int32) F.toInt32 C.toInt32 ∧ ¬ own_dg d1) ∨ (own_in (2 : Int32) F.toInt32 C.toInt32 ∧ ¬ own_dg d2) ∨ (own_in (3 : Int32) F.toInt32 C.toInt32 ∧ ¬ own_dg d3) ∨ (own_in (4 : Int32) F.toInt32 C.toInt32 ∧ ¬ own_dg d4)))), .unset, .unset] [(.int ((((own_part (0 : Int32) F.toInt32 C.toInt32 d0) + (own_part (1 : Int32) F.toInt32 C.toInt32 d1)) + (own_part (2 : Int32) F.toInt32 C.toInt32 d2)) + (own_part (3 : Int32) F.toInt32 C.toInt32 d3)))])
    refine own_st (fun _ k => XS.aload X40.here hx rfl (hb hby at_183) rfl rfl k) ?_
    show own_Go p e s below _ _ _ T40 (mkF m 185 #[.val (.int p0), .val (.int p1), .val (.int p2), .val (.int p3), .val (.int p4), .val (.int p5), .val (.ref a), .val (.int C.toInt32), .val (.int F.toInt32), .val (.int (own_b ((own_in (0 : Int32) F.toInt32 C.toInt32 ∧ ¬ own_dg d0) ∨ (own_in (1 : Int32) F.toInt32 C.toInt32 ∧ ¬ own_dg d1) ∨ (own_in (2 : Int32) F.toInt32 C.toInt32 ∧ ¬ own_dg d2) ∨ (own_in (3 : Int32) F.toInt32 C.toInt32 ∧ ¬ own_dg d3) ∨ (own_in (4 : Int32) F.toInt32 C.toInt32 ∧ ¬ own_dg d4)))), .unset, .unset] [(.ref a), (.int ((((own_part (0 : Int32) F.toInt32 C.toInt32 d0) + (own_part (1 : Int32) F.toInt32 C.toInt32 d1)) + (own_part (2 : Int32) F.toInt32 C.toInt32 d2)) + (own_part (3 : Int32) F.toInt32 C.toInt32 d3)))])
    refine own_st (fun _ k => XS.iconst X40.here hx rfl (hb hby at_185) k) ?_
    show own_Go p e s below _ _ _ T40 (mkF m 186 #[.val (.int p0), .val (.int p1), .val (.int p2), .val (.int p3), .val (.int p4), .val (.int p5), .val (.ref a), .val (.int C.toInt32), .val (.int F.toInt32), .val (.int (own_b ((own_in (0 : Int32) F.toInt32 C.toInt32 ∧ ¬ own_dg d0) ∨ (own_in (1 : Int32) F.toInt32 C.toInt32 ∧ ¬ own_dg d1) ∨ (own_in (2 : Int32) F.toInt32 C.toInt32 ∧ ¬ own_dg d2) ∨ (own_in (3 : Int32) F.toInt32 C.toInt32 ∧ ¬ own_dg d3) ∨ (own_in (4 : Int32) F.toInt32 C.toInt32 ∧ ¬ own_dg d4)))), .unset, .unset] [(.int (4 : Int32)), (.ref a), (.int ((((own_part (0 : Int32) F.toInt32 C.toInt32 d0) + (own_part (1 : Int32) F.toInt32 C.toInt32 d1)) + (own_part (2 : Int32) F.toInt32 C.toInt32 d2)) + (own_part (3 : Int32) F.toInt32 C.toInt32 d3)))])
    refine own_st (fun _ k => XS.iload X40.here hx rfl (hb hby at_186) rfl k) ?_
    show own_Go p e s below _ _ _ T40 (mkF m 188 #[.val (.int p0), .val (.int p1), .val (.int p2), .val (.int p3), .val (.int p4), .val (.int p5), .val (.ref a), .val (.int C.toInt32), .val (.int F.toInt32), .val (.int (own_b ((own_in (0 : Int32) F.toInt32 C.toInt32 ∧ ¬ own_dg d0) ∨ (own_in (1 : Int32) F.toInt32 C.toInt32 ∧ ¬ own_dg d1) ∨ (own_in (2 : Int32) F.toInt32 C.toInt32 ∧ ¬ own_dg d2) ∨ (own_in (3 : Int32) F.toInt32 C.toInt32 ∧ ¬ own_dg d3) ∨ (own_in (4 : Int32) F.toInt32 C.toInt32 ∧ ¬ own_dg d4)))), .unset, .unset] [(.int F.toInt32), (.int (4 : Int32)), (.ref a), (.int ((((own_part (0 : Int32) F.toInt32 C.toInt32 d0) + (own_part (1 : Int32) F.toInt32 C.toInt32 d1)) + (own_part (2 : Int32) F.toInt32 C.toInt32 d2)) + (own_part (3 : Int32) F.toInt32 C.toInt32 d3)))])
    refine own_st (fun _ k => XS.iload X40.here hx rfl (hb hby at_188) rfl k) ?_
    show own_Go p e s below _ _ _ T40 (mkF m 190 #[.val (.int p0), .val (.int p1), .val (.int p2), .val (.int p3), .val (.int p4), .val (.int p5), .val (.ref a), .val (.int C.toInt32), .val (.int F.toInt32), .val (.int (own_b ((own_in (0 : Int32) F.toInt32 C.toInt32 ∧ ¬ own_dg d0) ∨ (own_in (1 : Int32) F.toInt32 C.toInt32 ∧ ¬ own_dg d1) ∨ (own_in (2 : Int32) F.toInt32 C.toInt32 ∧ ¬ own_dg d2) ∨ (own_in (3 : Int32) F.toInt32 C.toInt32 ∧ ¬ own_dg d3) ∨ (own_in (4 : Int32) F.toInt32 C.toInt32 ∧ ¬ own_dg d4)))), .unset, .unset] [(.int C.toInt32), (.int F.toInt32), (.int (4 : Int32)), (.ref a), (.int ((((own_part (0 : Int32) F.toInt32 C.toInt32 d0) + (own_part (1 : Int32) F.toInt32 C.toInt32 d1)) + (own_part (2 : Int32) F.toInt32 C.toInt32 d2)) + (own_part (3 : Int32) F.toInt32 C.toInt32 d3)))])
    refine own_callS X40 hx hZ (y := (⟨"com/example/phonomark/phonomark/Iso2709RecordDigitsPinLaw", "part", "([BIII)I"⟩ : MethodName)) hown (hw _ (List.mem_of_getElem? (i := 12) rfl)) (hw _ (List.mem_of_getElem? (i := 13) rfl)) (hw _ (List.mem_of_getElem? (i := 3) rfl)) (hw _ (List.mem_of_getElem? (i := 14) rfl)) (by decide) e40 (rm4 l Z a0 hw [] a (4 : Int32) F.toInt32 C.toInt32 d4 k19 [(.int d0), (.int d1), (.int d2), (.int d3), (.int d4)] h34 n0 Z35 V_a (by decide) rfl) 1 (by decide) (by decide) (g := (mkF m 190 #[.val (.int p0), .val (.int p1), .val (.int p2), .val (.int p3), .val (.int p4), .val (.int p5), .val (.ref a), .val (.int C.toInt32), .val (.int F.toInt32), .val (.int (own_b ((own_in (0 : Int32) F.toInt32 C.toInt32 ∧ ¬ own_dg d0) ∨ (own_in (1 : Int32) F.toInt32 C.toInt32 ∧ ¬ own_dg d1) ∨ (own_in (2 : Int32) F.toInt32 C.toInt32 ∧ ¬ own_dg d2) ∨ (own_in (3 : Int32) F.toInt32 C.toInt32 ∧ ¬ own_dg d3) ∨ (own_in (4 : Int32) F.toInt32 C.toInt32 ∧ ¬ own_dg d4)))), .unset, .unset] [(.int C.toInt32), (.int F.toInt32), (.int (4 : Int32)), (.ref a), (.int ((((own_part (0 : Int32) F.toInt32 C.toInt32 d0) + (own_part (1 : Int32) F.toInt32 C.toInt32 d1)) + (own_part (2 : Int32) F.toInt32 C.toInt32 d2)) + (own_part (3 : Int32) F.toInt32 C.toInt32 d3)))])) rfl (by rw [hml]; rfl) (argsL := [(.ref a), (.int (4 : Int32)), (.int F.toInt32), (.int C.toInt32)]) (rest := [(.int ((((own_part (0 : Int32) F.toInt32 C.toInt32 d0) + (own_part (1 : Int32) F.toInt32 C.toInt32 d1)) + (own_part (2 : Int32) F.toInt32 C.toInt32 d2)) + (own_part (3 : Int32) F.toInt32 C.toInt32 d3)))]) pd5 rfl rfl rfl (by show 2 * 0 + _ ≤ _; exact Nat.le_of_eq rfl) (hb hby at_190) (by decide) (by decide) ?_
    intro T41 v41 L41 X41 hQ41
    obtain ⟨rfl, N41q, e41⟩ := hQ41
    have N41 := Fr.app N40 N41q
    show own_Go p e s below _ _ _ T41 (mkF m 193 #[.val (.int p0), .val (.int p1), .val (.int p2), .val (.int p3), .val (.int p4), .val (.int p5), .val (.ref a), .val (.int C.toInt32), .val (.int F.toInt32), .val (.int (own_b ((own_in (0 : Int32) F.toInt32 C.toInt32 ∧ ¬ own_dg d0) ∨ (own_in (1 : Int32) F.toInt32 C.toInt32 ∧ ¬ own_dg d1) ∨ (own_in (2 : Int32) F.toInt32 C.toInt32 ∧ ¬ own_dg d2) ∨ (own_in (3 : Int32) F.toInt32 C.toInt32 ∧ ¬ own_dg d3) ∨ (own_in (4 : Int32) F.toInt32 C.toInt32 ∧ ¬ own_dg d4)))), .unset, .unset] [(.int (own_part (4 : Int32) F.toInt32 C.toInt32 d4)), (.int ((((own_part (0 : Int32) F.toInt32 C.toInt32 d0) + (own_part (1 : Int32) F.toInt32 C.toInt32 d1)) + (own_part (2 : Int32) F.toInt32 C.toInt32 d2)) + (own_part (3 : Int32) F.toInt32 C.toInt32 d3)))])
    refine own_st (fun _ k => XS.iadd X41.here hx rfl (hb hby at_193) rfl k) ?_
    show own_Go p e s below _ _ _ T41 (mkF m 194 #[.val (.int p0), .val (.int p1), .val (.int p2), .val (.int p3), .val (.int p4), .val (.int p5), .val (.ref a), .val (.int C.toInt32), .val (.int F.toInt32), .val (.int (own_b ((own_in (0 : Int32) F.toInt32 C.toInt32 ∧ ¬ own_dg d0) ∨ (own_in (1 : Int32) F.toInt32 C.toInt32 ∧ ¬ own_dg d1) ∨ (own_in (2 : Int32) F.toInt32 C.toInt32 ∧ ¬ own_dg d2) ∨ (own_in (3 : Int32) F.toInt32 C.toInt32 ∧ ¬ own_dg d3) ∨ (own_in (4 : Int32) F.toInt32 C.toInt32 ∧ ¬ own_dg d4)))), .unset, .unset] [(.int (((((own_part (0 : Int32) F.toInt32 C.toInt32 d0) + (own_part (1 : Int32) F.toInt32 C.toInt32 d1)) + (own_part (2 : Int32) F.toInt32 C.toInt32 d2)) + (own_part (3 : Int32) F.toInt32 C.toInt32 d3)) + (own_part (4 : Int32) F.toInt32 C.toInt32 d4)))])
    refine own_st (fun _ k => XS.istore X41.here hx rfl (hb hby at_194) rfl (l' := #[.val (.int p0), .val (.int p1), .val (.int p2), .val (.int p3), .val (.int p4), .val (.int p5), .val (.ref a), .val (.int C.toInt32), .val (.int F.toInt32), .val (.int (own_b ((own_in (0 : Int32) F.toInt32 C.toInt32 ∧ ¬ own_dg d0) ∨ (own_in (1 : Int32) F.toInt32 C.toInt32 ∧ ¬ own_dg d1) ∨ (own_in (2 : Int32) F.toInt32 C.toInt32 ∧ ¬ own_dg d2) ∨ (own_in (3 : Int32) F.toInt32 C.toInt32 ∧ ¬ own_dg d3) ∨ (own_in (4 : Int32) F.toInt32 C.toInt32 ∧ ¬ own_dg d4)))), .val (.int (((((own_part (0 : Int32) F.toInt32 C.toInt32 d0) + (own_part (1 : Int32) F.toInt32 C.toInt32 d1)) + (own_part (2 : Int32) F.toInt32 C.toInt32 d2)) + (own_part (3 : Int32) F.toInt32 C.toInt32 d3)) + (own_part (4 : Int32) F.toInt32 C.toInt32 d4))), .unset]) rfl k) ?_
    show own_Go p e s below _ _ _ T41 (mkF m 196 #[.val (.int p0), .val (.int p1), .val (.int p2), .val (.int p3), .val (.int p4), .val (.int p5), .val (.ref a), .val (.int C.toInt32), .val (.int F.toInt32), .val (.int (own_b ((own_in (0 : Int32) F.toInt32 C.toInt32 ∧ ¬ own_dg d0) ∨ (own_in (1 : Int32) F.toInt32 C.toInt32 ∧ ¬ own_dg d1) ∨ (own_in (2 : Int32) F.toInt32 C.toInt32 ∧ ¬ own_dg d2) ∨ (own_in (3 : Int32) F.toInt32 C.toInt32 ∧ ¬ own_dg d3) ∨ (own_in (4 : Int32) F.toInt32 C.toInt32 ∧ ¬ own_dg d4)))), .val (.int (((((own_part (0 : Int32) F.toInt32 C.toInt32 d0) + (own_part (1 : Int32) F.toInt32 C.toInt32 d1)) + (own_part (2 : Int32) F.toInt32 C.toInt32 d2)) + (own_part (3 : Int32) F.toInt32 C.toInt32 d3)) + (own_part (4 : Int32) F.toInt32 C.toInt32 d4))), .unset] [])
    refine own_st (fun _ k => XS.aload X41.here hx rfl (hb hby at_196) rfl rfl k) ?_
    show own_Go p e s below _ _ _ T41 (mkF m 198 #[.val (.int p0), .val (.int p1), .val (.int p2), .val (.int p3), .val (.int p4), .val (.int p5), .val (.ref a), .val (.int C.toInt32), .val (.int F.toInt32), .val (.int (own_b ((own_in (0 : Int32) F.toInt32 C.toInt32 ∧ ¬ own_dg d0) ∨ (own_in (1 : Int32) F.toInt32 C.toInt32 ∧ ¬ own_dg d1) ∨ (own_in (2 : Int32) F.toInt32 C.toInt32 ∧ ¬ own_dg d2) ∨ (own_in (3 : Int32) F.toInt32 C.toInt32 ∧ ¬ own_dg d3) ∨ (own_in (4 : Int32) F.toInt32 C.toInt32 ∧ ¬ own_dg d4)))), .val (.int (((((own_part (0 : Int32) F.toInt32 C.toInt32 d0) + (own_part (1 : Int32) F.toInt32 C.toInt32 d1)) + (own_part (2 : Int32) F.toInt32 C.toInt32 d2)) + (own_part (3 : Int32) F.toInt32 C.toInt32 d3)) + (own_part (4 : Int32) F.toInt32 C.toInt32 d4))), .unset] [(.ref a)])
    refine own_st (fun _ k => XS.iload X41.here hx rfl (hb hby at_198) rfl k) ?_
    show own_Go p e s below _ _ _ T41 (mkF m 200 #[.val (.int p0), .val (.int p1), .val (.int p2), .val (.int p3), .val (.int p4), .val (.int p5), .val (.ref a), .val (.int C.toInt32), .val (.int F.toInt32), .val (.int (own_b ((own_in (0 : Int32) F.toInt32 C.toInt32 ∧ ¬ own_dg d0) ∨ (own_in (1 : Int32) F.toInt32 C.toInt32 ∧ ¬ own_dg d1) ∨ (own_in (2 : Int32) F.toInt32 C.toInt32 ∧ ¬ own_dg d2) ∨ (own_in (3 : Int32) F.toInt32 C.toInt32 ∧ ¬ own_dg d3) ∨ (own_in (4 : Int32) F.toInt32 C.toInt32 ∧ ¬ own_dg d4)))), .val (.int (((((own_part (0 : Int32) F.toInt32 C.toInt32 d0) + (own_part (1 : Int32) F.toInt32 C.toInt32 d1)) + (own_part (2 : Int32) F.toInt32 C.toInt32 d2)) + (own_part (3 : Int32) F.toInt32 C.toInt32 d3)) + (own_part (4 : Int32) F.toInt32 C.toInt32 d4))), .unset] [(.int F.toInt32), (.ref a)])
    refine own_st (fun _ k => XS.iload X41.here hx rfl (hb hby at_200) rfl k) ?_
    show own_Go p e s below _ _ _ T41 (mkF m 202 #[.val (.int p0), .val (.int p1), .val (.int p2), .val (.int p3), .val (.int p4), .val (.int p5), .val (.ref a), .val (.int C.toInt32), .val (.int F.toInt32), .val (.int (own_b ((own_in (0 : Int32) F.toInt32 C.toInt32 ∧ ¬ own_dg d0) ∨ (own_in (1 : Int32) F.toInt32 C.toInt32 ∧ ¬ own_dg d1) ∨ (own_in (2 : Int32) F.toInt32 C.toInt32 ∧ ¬ own_dg d2) ∨ (own_in (3 : Int32) F.toInt32 C.toInt32 ∧ ¬ own_dg d3) ∨ (own_in (4 : Int32) F.toInt32 C.toInt32 ∧ ¬ own_dg d4)))), .val (.int (((((own_part (0 : Int32) F.toInt32 C.toInt32 d0) + (own_part (1 : Int32) F.toInt32 C.toInt32 d1)) + (own_part (2 : Int32) F.toInt32 C.toInt32 d2)) + (own_part (3 : Int32) F.toInt32 C.toInt32 d3)) + (own_part (4 : Int32) F.toInt32 C.toInt32 d4))), .unset] [(.int C.toInt32), (.int F.toInt32), (.ref a)])
    refine own_callS X41 hx hZ (y := (⟨"com/example/phonomark/phonomark/Iso2709Record", "digits", "([BII)I"⟩ : MethodName)) hown (hw _ (List.mem_of_getElem? (i := 15) rfl)) (hw _ (List.mem_of_getElem? (i := 16) rfl)) (hw _ (List.mem_of_getElem? (i := 17) rfl)) (hw _ (List.mem_of_getElem? (i := 18) rfl)) (by decide) e41 (rm5 l Z a0 hw [] a F C k19 d0 d1 d2 d3 d4 h34 n0 Z35 V_a hFC) 0 (by decide) (by decide) (g := (mkF m 202 #[.val (.int p0), .val (.int p1), .val (.int p2), .val (.int p3), .val (.int p4), .val (.int p5), .val (.ref a), .val (.int C.toInt32), .val (.int F.toInt32), .val (.int (own_b ((own_in (0 : Int32) F.toInt32 C.toInt32 ∧ ¬ own_dg d0) ∨ (own_in (1 : Int32) F.toInt32 C.toInt32 ∧ ¬ own_dg d1) ∨ (own_in (2 : Int32) F.toInt32 C.toInt32 ∧ ¬ own_dg d2) ∨ (own_in (3 : Int32) F.toInt32 C.toInt32 ∧ ¬ own_dg d3) ∨ (own_in (4 : Int32) F.toInt32 C.toInt32 ∧ ¬ own_dg d4)))), .val (.int (((((own_part (0 : Int32) F.toInt32 C.toInt32 d0) + (own_part (1 : Int32) F.toInt32 C.toInt32 d1)) + (own_part (2 : Int32) F.toInt32 C.toInt32 d2)) + (own_part (3 : Int32) F.toInt32 C.toInt32 d3)) + (own_part (4 : Int32) F.toInt32 C.toInt32 d4))), .unset] [(.int C.toInt32), (.int F.toInt32), (.ref a)])) rfl (by rw [hml]; rfl) (argsL := [(.ref a), (.int F.toInt32), (.int C.toInt32)]) (rest := []) pd6 rfl rfl rfl (by show 2 * 0 + _ ≤ _; exact Nat.le_of_eq rfl) (hb hby at_202) (by decide) (by decide) ?_
    intro T42 v42 L42 X42 hQ42
    obtain ⟨rfl, N42q, e42⟩ := hQ42
    have N42 := Fr.app N41 N42q
    show own_Go p e s below _ _ _ T42 (mkF m 205 #[.val (.int p0), .val (.int p1), .val (.int p2), .val (.int p3), .val (.int p4), .val (.int p5), .val (.ref a), .val (.int C.toInt32), .val (.int F.toInt32), .val (.int (own_b ((own_in (0 : Int32) F.toInt32 C.toInt32 ∧ ¬ own_dg d0) ∨ (own_in (1 : Int32) F.toInt32 C.toInt32 ∧ ¬ own_dg d1) ∨ (own_in (2 : Int32) F.toInt32 C.toInt32 ∧ ¬ own_dg d2) ∨ (own_in (3 : Int32) F.toInt32 C.toInt32 ∧ ¬ own_dg d3) ∨ (own_in (4 : Int32) F.toInt32 C.toInt32 ∧ ¬ own_dg d4)))), .val (.int (((((own_part (0 : Int32) F.toInt32 C.toInt32 d0) + (own_part (1 : Int32) F.toInt32 C.toInt32 d1)) + (own_part (2 : Int32) F.toInt32 C.toInt32 d2)) + (own_part (3 : Int32) F.toInt32 C.toInt32 d3)) + (own_part (4 : Int32) F.toInt32 C.toInt32 d4))), .unset] [(.int (own_run [d0, d1, d2, d3, d4] F C 0))])
    refine own_st (fun _ k => XS.istore X42.here hx rfl (hb hby at_205) rfl (l' := #[.val (.int p0), .val (.int p1), .val (.int p2), .val (.int p3), .val (.int p4), .val (.int p5), .val (.ref a), .val (.int C.toInt32), .val (.int F.toInt32), .val (.int (own_b ((own_in (0 : Int32) F.toInt32 C.toInt32 ∧ ¬ own_dg d0) ∨ (own_in (1 : Int32) F.toInt32 C.toInt32 ∧ ¬ own_dg d1) ∨ (own_in (2 : Int32) F.toInt32 C.toInt32 ∧ ¬ own_dg d2) ∨ (own_in (3 : Int32) F.toInt32 C.toInt32 ∧ ¬ own_dg d3) ∨ (own_in (4 : Int32) F.toInt32 C.toInt32 ∧ ¬ own_dg d4)))), .val (.int (((((own_part (0 : Int32) F.toInt32 C.toInt32 d0) + (own_part (1 : Int32) F.toInt32 C.toInt32 d1)) + (own_part (2 : Int32) F.toInt32 C.toInt32 d2)) + (own_part (3 : Int32) F.toInt32 C.toInt32 d3)) + (own_part (4 : Int32) F.toInt32 C.toInt32 d4))), .val (.int (own_run [d0, d1, d2, d3, d4] F C 0))]) rfl k) ?_
    show own_Go p e s below _ _ _ T42 (mkF m 207 #[.val (.int p0), .val (.int p1), .val (.int p2), .val (.int p3), .val (.int p4), .val (.int p5), .val (.ref a), .val (.int C.toInt32), .val (.int F.toInt32), .val (.int (own_b ((own_in (0 : Int32) F.toInt32 C.toInt32 ∧ ¬ own_dg d0) ∨ (own_in (1 : Int32) F.toInt32 C.toInt32 ∧ ¬ own_dg d1) ∨ (own_in (2 : Int32) F.toInt32 C.toInt32 ∧ ¬ own_dg d2) ∨ (own_in (3 : Int32) F.toInt32 C.toInt32 ∧ ¬ own_dg d3) ∨ (own_in (4 : Int32) F.toInt32 C.toInt32 ∧ ¬ own_dg d4)))), .val (.int (((((own_part (0 : Int32) F.toInt32 C.toInt32 d0) + (own_part (1 : Int32) F.toInt32 C.toInt32 d1)) + (own_part (2 : Int32) F.toInt32 C.toInt32 d2)) + (own_part (3 : Int32) F.toInt32 C.toInt32 d3)) + (own_part (4 : Int32) F.toInt32 C.toInt32 d4))), .val (.int (own_run [d0, d1, d2, d3, d4] F C 0))] [])
    refine own_st (fun _ k => XS.iload X42.here hx rfl (hb hby at_207) rfl k) ?_
    show own_Go p e s below _ _ _ T42 (mkF m 209 #[.val (.int p0), .val (.int p1), .val (.int p2), .val (.int p3), .val (.int p4), .val (.int p5), .val (.ref a), .val (.int C.toInt32), .val (.int F.toInt32), .val (.int (own_b ((own_in (0 : Int32) F.toInt32 C.toInt32 ∧ ¬ own_dg d0) ∨ (own_in (1 : Int32) F.toInt32 C.toInt32 ∧ ¬ own_dg d1) ∨ (own_in (2 : Int32) F.toInt32 C.toInt32 ∧ ¬ own_dg d2) ∨ (own_in (3 : Int32) F.toInt32 C.toInt32 ∧ ¬ own_dg d3) ∨ (own_in (4 : Int32) F.toInt32 C.toInt32 ∧ ¬ own_dg d4)))), .val (.int (((((own_part (0 : Int32) F.toInt32 C.toInt32 d0) + (own_part (1 : Int32) F.toInt32 C.toInt32 d1)) + (own_part (2 : Int32) F.toInt32 C.toInt32 d2)) + (own_part (3 : Int32) F.toInt32 C.toInt32 d3)) + (own_part (4 : Int32) F.toInt32 C.toInt32 d4))), .val (.int (own_run [d0, d1, d2, d3, d4] F C 0))] [(.int (own_run [d0, d1, d2, d3, d4] F C 0))])
    refine own_st (fun _ k => XS.iload X42.here hx rfl (hb hby at_209) rfl k) ?_
    show own_Go p e s below _ _ _ T42 (mkF m 211 #[.val (.int p0), .val (.int p1), .val (.int p2), .val (.int p3), .val (.int p4), .val (.int p5), .val (.ref a), .val (.int C.toInt32), .val (.int F.toInt32), .val (.int (own_b ((own_in (0 : Int32) F.toInt32 C.toInt32 ∧ ¬ own_dg d0) ∨ (own_in (1 : Int32) F.toInt32 C.toInt32 ∧ ¬ own_dg d1) ∨ (own_in (2 : Int32) F.toInt32 C.toInt32 ∧ ¬ own_dg d2) ∨ (own_in (3 : Int32) F.toInt32 C.toInt32 ∧ ¬ own_dg d3) ∨ (own_in (4 : Int32) F.toInt32 C.toInt32 ∧ ¬ own_dg d4)))), .val (.int (((((own_part (0 : Int32) F.toInt32 C.toInt32 d0) + (own_part (1 : Int32) F.toInt32 C.toInt32 d1)) + (own_part (2 : Int32) F.toInt32 C.toInt32 d2)) + (own_part (3 : Int32) F.toInt32 C.toInt32 d3)) + (own_part (4 : Int32) F.toInt32 C.toInt32 d4))), .val (.int (own_run [d0, d1, d2, d3, d4] F C 0))] [(.int (own_b ((own_in (0 : Int32) F.toInt32 C.toInt32 ∧ ¬ own_dg d0) ∨ (own_in (1 : Int32) F.toInt32 C.toInt32 ∧ ¬ own_dg d1) ∨ (own_in (2 : Int32) F.toInt32 C.toInt32 ∧ ¬ own_dg d2) ∨ (own_in (3 : Int32) F.toInt32 C.toInt32 ∧ ¬ own_dg d3) ∨ (own_in (4 : Int32) F.toInt32 C.toInt32 ∧ ¬ own_dg d4)))), (.int (own_run [d0, d1, d2, d3, d4] F C 0))])
    have law := own_law F C hFC d0 d1 d2 d3 d4 (own_byte hd0) (own_byte hd1) (own_byte hd2) (own_byte hd3) (own_byte hd4)
    by_cases c211_43 : ((own_in (0 : Int32) F.toInt32 C.toInt32 ∧ ¬ own_dg d0) ∨ (own_in (1 : Int32) F.toInt32 C.toInt32 ∧ ¬ own_dg d1) ∨ (own_in (2 : Int32) F.toInt32 C.toInt32 ∧ ¬ own_dg d2) ∨ (own_in (3 : Int32) F.toInt32 C.toInt32 ∧ ¬ own_dg d3) ∨ (own_in (4 : Int32) F.toInt32 C.toInt32 ∧ ¬ own_dg d4))
    · refine own_st (fun _ k => XS.ifNo X42.here hx rfl (hb hby at_211) rfl (own_by c211_43).2 k) ?_
      show own_Go p e s below _ _ _ T42 (mkF m 214 #[.val (.int p0), .val (.int p1), .val (.int p2), .val (.int p3), .val (.int p4), .val (.int p5), .val (.ref a), .val (.int C.toInt32), .val (.int F.toInt32), .val (.int (own_b ((own_in (0 : Int32) F.toInt32 C.toInt32 ∧ ¬ own_dg d0) ∨ (own_in (1 : Int32) F.toInt32 C.toInt32 ∧ ¬ own_dg d1) ∨ (own_in (2 : Int32) F.toInt32 C.toInt32 ∧ ¬ own_dg d2) ∨ (own_in (3 : Int32) F.toInt32 C.toInt32 ∧ ¬ own_dg d3) ∨ (own_in (4 : Int32) F.toInt32 C.toInt32 ∧ ¬ own_dg d4)))), .val (.int (((((own_part (0 : Int32) F.toInt32 C.toInt32 d0) + (own_part (1 : Int32) F.toInt32 C.toInt32 d1)) + (own_part (2 : Int32) F.toInt32 C.toInt32 d2)) + (own_part (3 : Int32) F.toInt32 C.toInt32 d3)) + (own_part (4 : Int32) F.toInt32 C.toInt32 d4))), .val (.int (own_run [d0, d1, d2, d3, d4] F C 0))] [(.int (own_run [d0, d1, d2, d3, d4] F C 0))])
      refine own_st (fun _ k => XS.iconst X42.here hx rfl (hb hby at_214) k) ?_
      show own_Go p e s below _ _ _ T42 (mkF m 215 #[.val (.int p0), .val (.int p1), .val (.int p2), .val (.int p3), .val (.int p4), .val (.int p5), .val (.ref a), .val (.int C.toInt32), .val (.int F.toInt32), .val (.int (own_b ((own_in (0 : Int32) F.toInt32 C.toInt32 ∧ ¬ own_dg d0) ∨ (own_in (1 : Int32) F.toInt32 C.toInt32 ∧ ¬ own_dg d1) ∨ (own_in (2 : Int32) F.toInt32 C.toInt32 ∧ ¬ own_dg d2) ∨ (own_in (3 : Int32) F.toInt32 C.toInt32 ∧ ¬ own_dg d3) ∨ (own_in (4 : Int32) F.toInt32 C.toInt32 ∧ ¬ own_dg d4)))), .val (.int (((((own_part (0 : Int32) F.toInt32 C.toInt32 d0) + (own_part (1 : Int32) F.toInt32 C.toInt32 d1)) + (own_part (2 : Int32) F.toInt32 C.toInt32 d2)) + (own_part (3 : Int32) F.toInt32 C.toInt32 d3)) + (own_part (4 : Int32) F.toInt32 C.toInt32 d4))), .val (.int (own_run [d0, d1, d2, d3, d4] F C 0))] [(.int (-1 : Int32)), (.int (own_run [d0, d1, d2, d3, d4] F C 0))])
      refine own_st (fun _ k => XS.goto X42.here hx rfl (pc0 := 215) (pc' := 220) rfl (hb hby at_215) (by decide) (by decide) k) ?_
      show own_Go p e s below _ _ _ T42 (mkF m 220 #[.val (.int p0), .val (.int p1), .val (.int p2), .val (.int p3), .val (.int p4), .val (.int p5), .val (.ref a), .val (.int C.toInt32), .val (.int F.toInt32), .val (.int (own_b ((own_in (0 : Int32) F.toInt32 C.toInt32 ∧ ¬ own_dg d0) ∨ (own_in (1 : Int32) F.toInt32 C.toInt32 ∧ ¬ own_dg d1) ∨ (own_in (2 : Int32) F.toInt32 C.toInt32 ∧ ¬ own_dg d2) ∨ (own_in (3 : Int32) F.toInt32 C.toInt32 ∧ ¬ own_dg d3) ∨ (own_in (4 : Int32) F.toInt32 C.toInt32 ∧ ¬ own_dg d4)))), .val (.int (((((own_part (0 : Int32) F.toInt32 C.toInt32 d0) + (own_part (1 : Int32) F.toInt32 C.toInt32 d1)) + (own_part (2 : Int32) F.toInt32 C.toInt32 d2)) + (own_part (3 : Int32) F.toInt32 C.toInt32 d3)) + (own_part (4 : Int32) F.toInt32 C.toInt32 d4))), .val (.int (own_run [d0, d1, d2, d3, d4] F C 0))] [(.int (-1 : Int32)), (.int (own_run [d0, d1, d2, d3, d4] F C 0))])
      refine own_st (fun _ k => XS.icmpNo X42.here hx rfl (hb hby at_220) rfl (teq (law.trans (if_pos c211_43))).2 k) ?_
      show own_Go p e s below _ _ _ T42 (mkF m 223 #[.val (.int p0), .val (.int p1), .val (.int p2), .val (.int p3), .val (.int p4), .val (.int p5), .val (.ref a), .val (.int C.toInt32), .val (.int F.toInt32), .val (.int (own_b ((own_in (0 : Int32) F.toInt32 C.toInt32 ∧ ¬ own_dg d0) ∨ (own_in (1 : Int32) F.toInt32 C.toInt32 ∧ ¬ own_dg d1) ∨ (own_in (2 : Int32) F.toInt32 C.toInt32 ∧ ¬ own_dg d2) ∨ (own_in (3 : Int32) F.toInt32 C.toInt32 ∧ ¬ own_dg d3) ∨ (own_in (4 : Int32) F.toInt32 C.toInt32 ∧ ¬ own_dg d4)))), .val (.int (((((own_part (0 : Int32) F.toInt32 C.toInt32 d0) + (own_part (1 : Int32) F.toInt32 C.toInt32 d1)) + (own_part (2 : Int32) F.toInt32 C.toInt32 d2)) + (own_part (3 : Int32) F.toInt32 C.toInt32 d3)) + (own_part (4 : Int32) F.toInt32 C.toInt32 d4))), .val (.int (own_run [d0, d1, d2, d3, d4] F C 0))] [])
      refine own_st (fun _ k => XS.iconst X42.here hx rfl (hb hby at_223) k) ?_
      show own_Go p e s below _ _ _ T42 (mkF m 224 #[.val (.int p0), .val (.int p1), .val (.int p2), .val (.int p3), .val (.int p4), .val (.int p5), .val (.ref a), .val (.int C.toInt32), .val (.int F.toInt32), .val (.int (own_b ((own_in (0 : Int32) F.toInt32 C.toInt32 ∧ ¬ own_dg d0) ∨ (own_in (1 : Int32) F.toInt32 C.toInt32 ∧ ¬ own_dg d1) ∨ (own_in (2 : Int32) F.toInt32 C.toInt32 ∧ ¬ own_dg d2) ∨ (own_in (3 : Int32) F.toInt32 C.toInt32 ∧ ¬ own_dg d3) ∨ (own_in (4 : Int32) F.toInt32 C.toInt32 ∧ ¬ own_dg d4)))), .val (.int (((((own_part (0 : Int32) F.toInt32 C.toInt32 d0) + (own_part (1 : Int32) F.toInt32 C.toInt32 d1)) + (own_part (2 : Int32) F.toInt32 C.toInt32 d2)) + (own_part (3 : Int32) F.toInt32 C.toInt32 d3)) + (own_part (4 : Int32) F.toInt32 C.toInt32 d4))), .val (.int (own_run [d0, d1, d2, d3, d4] F C 0))] [(.int (1 : Int32))])
      refine own_st (fun _ k => XS.goto X42.here hx rfl (pc0 := 224) (pc' := 228) rfl (hb hby at_224) (by decide) (by decide) k) ?_
      show own_Go p e s below _ _ _ T42 (mkF m 228 #[.val (.int p0), .val (.int p1), .val (.int p2), .val (.int p3), .val (.int p4), .val (.int p5), .val (.ref a), .val (.int C.toInt32), .val (.int F.toInt32), .val (.int (own_b ((own_in (0 : Int32) F.toInt32 C.toInt32 ∧ ¬ own_dg d0) ∨ (own_in (1 : Int32) F.toInt32 C.toInt32 ∧ ¬ own_dg d1) ∨ (own_in (2 : Int32) F.toInt32 C.toInt32 ∧ ¬ own_dg d2) ∨ (own_in (3 : Int32) F.toInt32 C.toInt32 ∧ ¬ own_dg d3) ∨ (own_in (4 : Int32) F.toInt32 C.toInt32 ∧ ¬ own_dg d4)))), .val (.int (((((own_part (0 : Int32) F.toInt32 C.toInt32 d0) + (own_part (1 : Int32) F.toInt32 C.toInt32 d1)) + (own_part (2 : Int32) F.toInt32 C.toInt32 d2)) + (own_part (3 : Int32) F.toInt32 C.toInt32 d3)) + (own_part (4 : Int32) F.toInt32 C.toInt32 d4))), .val (.int (own_run [d0, d1, d2, d3, d4] F C 0))] [(.int (1 : Int32))])
      exact own_retN X42 hx hlk (t := .boolean) hret (by simp) (hb hby at_228) (z' := (1 : Int32)) rfl (by decide) (by decide) ⟨rfl, N42⟩
    · refine own_st (fun _ k => XS.ifYes X42.here hx rfl (pc0 := 211) (pc' := 218) rfl (hb hby at_211) rfl (own_bn c211_43).1 (by decide) (by decide) k) ?_
      show own_Go p e s below _ _ _ T42 (mkF m 218 #[.val (.int p0), .val (.int p1), .val (.int p2), .val (.int p3), .val (.int p4), .val (.int p5), .val (.ref a), .val (.int C.toInt32), .val (.int F.toInt32), .val (.int (own_b ((own_in (0 : Int32) F.toInt32 C.toInt32 ∧ ¬ own_dg d0) ∨ (own_in (1 : Int32) F.toInt32 C.toInt32 ∧ ¬ own_dg d1) ∨ (own_in (2 : Int32) F.toInt32 C.toInt32 ∧ ¬ own_dg d2) ∨ (own_in (3 : Int32) F.toInt32 C.toInt32 ∧ ¬ own_dg d3) ∨ (own_in (4 : Int32) F.toInt32 C.toInt32 ∧ ¬ own_dg d4)))), .val (.int (((((own_part (0 : Int32) F.toInt32 C.toInt32 d0) + (own_part (1 : Int32) F.toInt32 C.toInt32 d1)) + (own_part (2 : Int32) F.toInt32 C.toInt32 d2)) + (own_part (3 : Int32) F.toInt32 C.toInt32 d3)) + (own_part (4 : Int32) F.toInt32 C.toInt32 d4))), .val (.int (own_run [d0, d1, d2, d3, d4] F C 0))] [(.int (own_run [d0, d1, d2, d3, d4] F C 0))])
      refine own_st (fun _ k => XS.iload X42.here hx rfl (hb hby at_218) rfl k) ?_
      show own_Go p e s below _ _ _ T42 (mkF m 220 #[.val (.int p0), .val (.int p1), .val (.int p2), .val (.int p3), .val (.int p4), .val (.int p5), .val (.ref a), .val (.int C.toInt32), .val (.int F.toInt32), .val (.int (own_b ((own_in (0 : Int32) F.toInt32 C.toInt32 ∧ ¬ own_dg d0) ∨ (own_in (1 : Int32) F.toInt32 C.toInt32 ∧ ¬ own_dg d1) ∨ (own_in (2 : Int32) F.toInt32 C.toInt32 ∧ ¬ own_dg d2) ∨ (own_in (3 : Int32) F.toInt32 C.toInt32 ∧ ¬ own_dg d3) ∨ (own_in (4 : Int32) F.toInt32 C.toInt32 ∧ ¬ own_dg d4)))), .val (.int (((((own_part (0 : Int32) F.toInt32 C.toInt32 d0) + (own_part (1 : Int32) F.toInt32 C.toInt32 d1)) + (own_part (2 : Int32) F.toInt32 C.toInt32 d2)) + (own_part (3 : Int32) F.toInt32 C.toInt32 d3)) + (own_part (4 : Int32) F.toInt32 C.toInt32 d4))), .val (.int (own_run [d0, d1, d2, d3, d4] F C 0))] [(.int (((((own_part (0 : Int32) F.toInt32 C.toInt32 d0) + (own_part (1 : Int32) F.toInt32 C.toInt32 d1)) + (own_part (2 : Int32) F.toInt32 C.toInt32 d2)) + (own_part (3 : Int32) F.toInt32 C.toInt32 d3)) + (own_part (4 : Int32) F.toInt32 C.toInt32 d4))), (.int (own_run [d0, d1, d2, d3, d4] F C 0))])
      refine own_st (fun _ k => XS.icmpNo X42.here hx rfl (hb hby at_220) rfl (teq (law.trans (if_neg c211_43))).2 k) ?_
      show own_Go p e s below _ _ _ T42 (mkF m 223 #[.val (.int p0), .val (.int p1), .val (.int p2), .val (.int p3), .val (.int p4), .val (.int p5), .val (.ref a), .val (.int C.toInt32), .val (.int F.toInt32), .val (.int (own_b ((own_in (0 : Int32) F.toInt32 C.toInt32 ∧ ¬ own_dg d0) ∨ (own_in (1 : Int32) F.toInt32 C.toInt32 ∧ ¬ own_dg d1) ∨ (own_in (2 : Int32) F.toInt32 C.toInt32 ∧ ¬ own_dg d2) ∨ (own_in (3 : Int32) F.toInt32 C.toInt32 ∧ ¬ own_dg d3) ∨ (own_in (4 : Int32) F.toInt32 C.toInt32 ∧ ¬ own_dg d4)))), .val (.int (((((own_part (0 : Int32) F.toInt32 C.toInt32 d0) + (own_part (1 : Int32) F.toInt32 C.toInt32 d1)) + (own_part (2 : Int32) F.toInt32 C.toInt32 d2)) + (own_part (3 : Int32) F.toInt32 C.toInt32 d3)) + (own_part (4 : Int32) F.toInt32 C.toInt32 d4))), .val (.int (own_run [d0, d1, d2, d3, d4] F C 0))] [])
      refine own_st (fun _ k => XS.iconst X42.here hx rfl (hb hby at_223) k) ?_
      show own_Go p e s below _ _ _ T42 (mkF m 224 #[.val (.int p0), .val (.int p1), .val (.int p2), .val (.int p3), .val (.int p4), .val (.int p5), .val (.ref a), .val (.int C.toInt32), .val (.int F.toInt32), .val (.int (own_b ((own_in (0 : Int32) F.toInt32 C.toInt32 ∧ ¬ own_dg d0) ∨ (own_in (1 : Int32) F.toInt32 C.toInt32 ∧ ¬ own_dg d1) ∨ (own_in (2 : Int32) F.toInt32 C.toInt32 ∧ ¬ own_dg d2) ∨ (own_in (3 : Int32) F.toInt32 C.toInt32 ∧ ¬ own_dg d3) ∨ (own_in (4 : Int32) F.toInt32 C.toInt32 ∧ ¬ own_dg d4)))), .val (.int (((((own_part (0 : Int32) F.toInt32 C.toInt32 d0) + (own_part (1 : Int32) F.toInt32 C.toInt32 d1)) + (own_part (2 : Int32) F.toInt32 C.toInt32 d2)) + (own_part (3 : Int32) F.toInt32 C.toInt32 d3)) + (own_part (4 : Int32) F.toInt32 C.toInt32 d4))), .val (.int (own_run [d0, d1, d2, d3, d4] F C 0))] [(.int (1 : Int32))])
      refine own_st (fun _ k => XS.goto X42.here hx rfl (pc0 := 224) (pc' := 228) rfl (hb hby at_224) (by decide) (by decide) k) ?_
      show own_Go p e s below _ _ _ T42 (mkF m 228 #[.val (.int p0), .val (.int p1), .val (.int p2), .val (.int p3), .val (.int p4), .val (.int p5), .val (.ref a), .val (.int C.toInt32), .val (.int F.toInt32), .val (.int (own_b ((own_in (0 : Int32) F.toInt32 C.toInt32 ∧ ¬ own_dg d0) ∨ (own_in (1 : Int32) F.toInt32 C.toInt32 ∧ ¬ own_dg d1) ∨ (own_in (2 : Int32) F.toInt32 C.toInt32 ∧ ¬ own_dg d2) ∨ (own_in (3 : Int32) F.toInt32 C.toInt32 ∧ ¬ own_dg d3) ∨ (own_in (4 : Int32) F.toInt32 C.toInt32 ∧ ¬ own_dg d4)))), .val (.int (((((own_part (0 : Int32) F.toInt32 C.toInt32 d0) + (own_part (1 : Int32) F.toInt32 C.toInt32 d1)) + (own_part (2 : Int32) F.toInt32 C.toInt32 d2)) + (own_part (3 : Int32) F.toInt32 C.toInt32 d3)) + (own_part (4 : Int32) F.toInt32 C.toInt32 d4))), .val (.int (own_run [d0, d1, d2, d3, d4] F C 0))] [(.int (1 : Int32))])
      exact own_retN X42 hx hlk (t := .boolean) hret (by simp) (hb hby at_228) (z' := (1 : Int32)) rfl (by decide) (by decide) ⟨rfl, N42⟩
  refine own_callS X34 hx hZ (y := (⟨"com/example/phonomark/phonomark/Iso2709RecordDigitsPinLaw", "bad", "([BIII)Z"⟩ : MethodName)) hown (hw _ (List.mem_of_getElem? (i := 6) rfl)) (hw _ (List.mem_of_getElem? (i := 7) rfl)) (hw _ (List.mem_of_getElem? (i := 3) rfl)) (hw _ (List.mem_of_getElem? (i := 8) rfl)) (by decide) e34 (rm2 l Z a0 hw [] a (0 : Int32) F.toInt32 C.toInt32 d0 k19 [(.int d0), (.int d1), (.int d2), (.int d3), (.int d4)] h34 n0 Z35 V_a (by decide) rfl) 0 (by decide) (by decide) (g := (mkF m 75 #[.val (.int p0), .val (.int p1), .val (.int p2), .val (.int p3), .val (.int p4), .val (.int p5), .val (.ref a), .val (.int C.toInt32), .val (.int F.toInt32), .unset, .unset, .unset] [(.int C.toInt32), (.int F.toInt32), (.int (0 : Int32)), (.ref a)])) rfl (by rw [hml]; rfl) (argsL := [(.ref a), (.int (0 : Int32)), (.int F.toInt32), (.int C.toInt32)]) (rest := []) pd4 rfl rfl rfl (by show 2 * 0 + _ ≤ _; exact Nat.le_of_eq rfl) (hb hby at_75) (by decide) (by decide) ?_
  intro T44 v44 L44 X44 hQ44
  obtain ⟨rfl, N44q, e44⟩ := hQ44
  have N44 := Fr.app N34 N44q
  show own_Go p e s below _ _ _ T44 (mkF m 78 #[.val (.int p0), .val (.int p1), .val (.int p2), .val (.int p3), .val (.int p4), .val (.int p5), .val (.ref a), .val (.int C.toInt32), .val (.int F.toInt32), .unset, .unset, .unset] [(.int (own_b (own_in (0 : Int32) F.toInt32 C.toInt32 ∧ ¬ own_dg d0)))])
  by_cases c78_45 : (own_in (0 : Int32) F.toInt32 C.toInt32 ∧ ¬ own_dg d0)
  · refine own_st (fun _ k => XS.ifYes X44.here hx rfl (pc0 := 78) (pc' := 133) rfl (hb hby at_78) rfl (own_by c78_45).1 (by decide) (by decide) k) ?_
    show own_Go p e s below _ _ _ T44 (mkF m 133 #[.val (.int p0), .val (.int p1), .val (.int p2), .val (.int p3), .val (.int p4), .val (.int p5), .val (.ref a), .val (.int C.toInt32), .val (.int F.toInt32), .unset, .unset, .unset] [])
    refine own_st (fun _ k => XS.iconst X44.here hx rfl (hb hby at_133) k) ?_
    show own_Go p e s below _ _ _ T44 (mkF m 134 #[.val (.int p0), .val (.int p1), .val (.int p2), .val (.int p3), .val (.int p4), .val (.int p5), .val (.ref a), .val (.int C.toInt32), .val (.int F.toInt32), .unset, .unset, .unset] [(.int (1 : Int32))])
    refine own_st (fun _ k => XS.goto X44.here hx rfl (pc0 := 134) (pc' := 138) rfl (hb hby at_134) (by decide) (by decide) k) ?_
    show own_Go p e s below _ _ _ T44 (mkF m 138 #[.val (.int p0), .val (.int p1), .val (.int p2), .val (.int p3), .val (.int p4), .val (.int p5), .val (.ref a), .val (.int C.toInt32), .val (.int F.toInt32), .unset, .unset, .unset] [(.int (1 : Int32))])
    exact J138 T44 _ X44 N44 e44 _ (by rw [own_bt (Or.inl c78_45)])
  · refine own_st (fun _ k => XS.ifNo X44.here hx rfl (hb hby at_78) rfl (own_bn c78_45).2 k) ?_
    show own_Go p e s below _ _ _ T44 (mkF m 81 #[.val (.int p0), .val (.int p1), .val (.int p2), .val (.int p3), .val (.int p4), .val (.int p5), .val (.ref a), .val (.int C.toInt32), .val (.int F.toInt32), .unset, .unset, .unset] [])
    refine own_st (fun _ k => XS.aload X44.here hx rfl (hb hby at_81) rfl rfl k) ?_
    show own_Go p e s below _ _ _ T44 (mkF m 83 #[.val (.int p0), .val (.int p1), .val (.int p2), .val (.int p3), .val (.int p4), .val (.int p5), .val (.ref a), .val (.int C.toInt32), .val (.int F.toInt32), .unset, .unset, .unset] [(.ref a)])
    refine own_st (fun _ k => XS.iconst X44.here hx rfl (hb hby at_83) k) ?_
    show own_Go p e s below _ _ _ T44 (mkF m 84 #[.val (.int p0), .val (.int p1), .val (.int p2), .val (.int p3), .val (.int p4), .val (.int p5), .val (.ref a), .val (.int C.toInt32), .val (.int F.toInt32), .unset, .unset, .unset] [(.int (1 : Int32)), (.ref a)])
    refine own_st (fun _ k => XS.iload X44.here hx rfl (hb hby at_84) rfl k) ?_
    show own_Go p e s below _ _ _ T44 (mkF m 86 #[.val (.int p0), .val (.int p1), .val (.int p2), .val (.int p3), .val (.int p4), .val (.int p5), .val (.ref a), .val (.int C.toInt32), .val (.int F.toInt32), .unset, .unset, .unset] [(.int F.toInt32), (.int (1 : Int32)), (.ref a)])
    refine own_st (fun _ k => XS.iload X44.here hx rfl (hb hby at_86) rfl k) ?_
    show own_Go p e s below _ _ _ T44 (mkF m 88 #[.val (.int p0), .val (.int p1), .val (.int p2), .val (.int p3), .val (.int p4), .val (.int p5), .val (.ref a), .val (.int C.toInt32), .val (.int F.toInt32), .unset, .unset, .unset] [(.int C.toInt32), (.int F.toInt32), (.int (1 : Int32)), (.ref a)])
    refine own_callS X44 hx hZ (y := (⟨"com/example/phonomark/phonomark/Iso2709RecordDigitsPinLaw", "bad", "([BIII)Z"⟩ : MethodName)) hown (hw _ (List.mem_of_getElem? (i := 6) rfl)) (hw _ (List.mem_of_getElem? (i := 7) rfl)) (hw _ (List.mem_of_getElem? (i := 3) rfl)) (hw _ (List.mem_of_getElem? (i := 8) rfl)) (by decide) e44 (rm2 l Z a0 hw [] a (1 : Int32) F.toInt32 C.toInt32 d1 k19 [(.int d0), (.int d1), (.int d2), (.int d3), (.int d4)] h34 n0 Z35 V_a (by decide) rfl) 0 (by decide) (by decide) (g := (mkF m 88 #[.val (.int p0), .val (.int p1), .val (.int p2), .val (.int p3), .val (.int p4), .val (.int p5), .val (.ref a), .val (.int C.toInt32), .val (.int F.toInt32), .unset, .unset, .unset] [(.int C.toInt32), (.int F.toInt32), (.int (1 : Int32)), (.ref a)])) rfl (by rw [hml]; rfl) (argsL := [(.ref a), (.int (1 : Int32)), (.int F.toInt32), (.int C.toInt32)]) (rest := []) pd4 rfl rfl rfl (by show 2 * 0 + _ ≤ _; exact Nat.le_of_eq rfl) (hb hby at_88) (by decide) (by decide) ?_
    intro T46 v46 L46 X46 hQ46
    obtain ⟨rfl, N46q, e46⟩ := hQ46
    have N46 := Fr.app N44 N46q
    show own_Go p e s below _ _ _ T46 (mkF m 91 #[.val (.int p0), .val (.int p1), .val (.int p2), .val (.int p3), .val (.int p4), .val (.int p5), .val (.ref a), .val (.int C.toInt32), .val (.int F.toInt32), .unset, .unset, .unset] [(.int (own_b (own_in (1 : Int32) F.toInt32 C.toInt32 ∧ ¬ own_dg d1)))])
    by_cases c91_47 : (own_in (1 : Int32) F.toInt32 C.toInt32 ∧ ¬ own_dg d1)
    · refine own_st (fun _ k => XS.ifYes X46.here hx rfl (pc0 := 91) (pc' := 133) rfl (hb hby at_91) rfl (own_by c91_47).1 (by decide) (by decide) k) ?_
      show own_Go p e s below _ _ _ T46 (mkF m 133 #[.val (.int p0), .val (.int p1), .val (.int p2), .val (.int p3), .val (.int p4), .val (.int p5), .val (.ref a), .val (.int C.toInt32), .val (.int F.toInt32), .unset, .unset, .unset] [])
      refine own_st (fun _ k => XS.iconst X46.here hx rfl (hb hby at_133) k) ?_
      show own_Go p e s below _ _ _ T46 (mkF m 134 #[.val (.int p0), .val (.int p1), .val (.int p2), .val (.int p3), .val (.int p4), .val (.int p5), .val (.ref a), .val (.int C.toInt32), .val (.int F.toInt32), .unset, .unset, .unset] [(.int (1 : Int32))])
      refine own_st (fun _ k => XS.goto X46.here hx rfl (pc0 := 134) (pc' := 138) rfl (hb hby at_134) (by decide) (by decide) k) ?_
      show own_Go p e s below _ _ _ T46 (mkF m 138 #[.val (.int p0), .val (.int p1), .val (.int p2), .val (.int p3), .val (.int p4), .val (.int p5), .val (.ref a), .val (.int C.toInt32), .val (.int F.toInt32), .unset, .unset, .unset] [(.int (1 : Int32))])
      exact J138 T46 _ X46 N46 e46 _ (by rw [own_bt (Or.inr (Or.inl c91_47))])
    · refine own_st (fun _ k => XS.ifNo X46.here hx rfl (hb hby at_91) rfl (own_bn c91_47).2 k) ?_
      show own_Go p e s below _ _ _ T46 (mkF m 94 #[.val (.int p0), .val (.int p1), .val (.int p2), .val (.int p3), .val (.int p4), .val (.int p5), .val (.ref a), .val (.int C.toInt32), .val (.int F.toInt32), .unset, .unset, .unset] [])
      refine own_st (fun _ k => XS.aload X46.here hx rfl (hb hby at_94) rfl rfl k) ?_
      show own_Go p e s below _ _ _ T46 (mkF m 96 #[.val (.int p0), .val (.int p1), .val (.int p2), .val (.int p3), .val (.int p4), .val (.int p5), .val (.ref a), .val (.int C.toInt32), .val (.int F.toInt32), .unset, .unset, .unset] [(.ref a)])
      refine own_st (fun _ k => XS.iconst X46.here hx rfl (hb hby at_96) k) ?_
      show own_Go p e s below _ _ _ T46 (mkF m 97 #[.val (.int p0), .val (.int p1), .val (.int p2), .val (.int p3), .val (.int p4), .val (.int p5), .val (.ref a), .val (.int C.toInt32), .val (.int F.toInt32), .unset, .unset, .unset] [(.int (2 : Int32)), (.ref a)])
      refine own_st (fun _ k => XS.iload X46.here hx rfl (hb hby at_97) rfl k) ?_
      show own_Go p e s below _ _ _ T46 (mkF m 99 #[.val (.int p0), .val (.int p1), .val (.int p2), .val (.int p3), .val (.int p4), .val (.int p5), .val (.ref a), .val (.int C.toInt32), .val (.int F.toInt32), .unset, .unset, .unset] [(.int F.toInt32), (.int (2 : Int32)), (.ref a)])
      refine own_st (fun _ k => XS.iload X46.here hx rfl (hb hby at_99) rfl k) ?_
      show own_Go p e s below _ _ _ T46 (mkF m 101 #[.val (.int p0), .val (.int p1), .val (.int p2), .val (.int p3), .val (.int p4), .val (.int p5), .val (.ref a), .val (.int C.toInt32), .val (.int F.toInt32), .unset, .unset, .unset] [(.int C.toInt32), (.int F.toInt32), (.int (2 : Int32)), (.ref a)])
      refine own_callS X46 hx hZ (y := (⟨"com/example/phonomark/phonomark/Iso2709RecordDigitsPinLaw", "bad", "([BIII)Z"⟩ : MethodName)) hown (hw _ (List.mem_of_getElem? (i := 6) rfl)) (hw _ (List.mem_of_getElem? (i := 7) rfl)) (hw _ (List.mem_of_getElem? (i := 3) rfl)) (hw _ (List.mem_of_getElem? (i := 8) rfl)) (by decide) e46 (rm2 l Z a0 hw [] a (2 : Int32) F.toInt32 C.toInt32 d2 k19 [(.int d0), (.int d1), (.int d2), (.int d3), (.int d4)] h34 n0 Z35 V_a (by decide) rfl) 0 (by decide) (by decide) (g := (mkF m 101 #[.val (.int p0), .val (.int p1), .val (.int p2), .val (.int p3), .val (.int p4), .val (.int p5), .val (.ref a), .val (.int C.toInt32), .val (.int F.toInt32), .unset, .unset, .unset] [(.int C.toInt32), (.int F.toInt32), (.int (2 : Int32)), (.ref a)])) rfl (by rw [hml]; rfl) (argsL := [(.ref a), (.int (2 : Int32)), (.int F.toInt32), (.int C.toInt32)]) (rest := []) pd4 rfl rfl rfl (by show 2 * 0 + _ ≤ _; exact Nat.le_of_eq rfl) (hb hby at_101) (by decide) (by decide) ?_
      intro T48 v48 L48 X48 hQ48
      obtain ⟨rfl, N48q, e48⟩ := hQ48
      have N48 := Fr.app N46 N48q
      show own_Go p e s below _ _ _ T48 (mkF m 104 #[.val (.int p0), .val (.int p1), .val (.int p2), .val (.int p3), .val (.int p4), .val (.int p5), .val (.ref a), .val (.int C.toInt32), .val (.int F.toInt32), .unset, .unset, .unset] [(.int (own_b (own_in (2 : Int32) F.toInt32 C.toInt32 ∧ ¬ own_dg d2)))])
      by_cases c104_49 : (own_in (2 : Int32) F.toInt32 C.toInt32 ∧ ¬ own_dg d2)
      · refine own_st (fun _ k => XS.ifYes X48.here hx rfl (pc0 := 104) (pc' := 133) rfl (hb hby at_104) rfl (own_by c104_49).1 (by decide) (by decide) k) ?_
        show own_Go p e s below _ _ _ T48 (mkF m 133 #[.val (.int p0), .val (.int p1), .val (.int p2), .val (.int p3), .val (.int p4), .val (.int p5), .val (.ref a), .val (.int C.toInt32), .val (.int F.toInt32), .unset, .unset, .unset] [])
        refine own_st (fun _ k => XS.iconst X48.here hx rfl (hb hby at_133) k) ?_
        show own_Go p e s below _ _ _ T48 (mkF m 134 #[.val (.int p0), .val (.int p1), .val (.int p2), .val (.int p3), .val (.int p4), .val (.int p5), .val (.ref a), .val (.int C.toInt32), .val (.int F.toInt32), .unset, .unset, .unset] [(.int (1 : Int32))])
        refine own_st (fun _ k => XS.goto X48.here hx rfl (pc0 := 134) (pc' := 138) rfl (hb hby at_134) (by decide) (by decide) k) ?_
        show own_Go p e s below _ _ _ T48 (mkF m 138 #[.val (.int p0), .val (.int p1), .val (.int p2), .val (.int p3), .val (.int p4), .val (.int p5), .val (.ref a), .val (.int C.toInt32), .val (.int F.toInt32), .unset, .unset, .unset] [(.int (1 : Int32))])
        exact J138 T48 _ X48 N48 e48 _ (by rw [own_bt (Or.inr (Or.inr (Or.inl c104_49)))])
      · refine own_st (fun _ k => XS.ifNo X48.here hx rfl (hb hby at_104) rfl (own_bn c104_49).2 k) ?_
        show own_Go p e s below _ _ _ T48 (mkF m 107 #[.val (.int p0), .val (.int p1), .val (.int p2), .val (.int p3), .val (.int p4), .val (.int p5), .val (.ref a), .val (.int C.toInt32), .val (.int F.toInt32), .unset, .unset, .unset] [])
        refine own_st (fun _ k => XS.aload X48.here hx rfl (hb hby at_107) rfl rfl k) ?_
        show own_Go p e s below _ _ _ T48 (mkF m 109 #[.val (.int p0), .val (.int p1), .val (.int p2), .val (.int p3), .val (.int p4), .val (.int p5), .val (.ref a), .val (.int C.toInt32), .val (.int F.toInt32), .unset, .unset, .unset] [(.ref a)])
        refine own_st (fun _ k => XS.iconst X48.here hx rfl (hb hby at_109) k) ?_
        show own_Go p e s below _ _ _ T48 (mkF m 110 #[.val (.int p0), .val (.int p1), .val (.int p2), .val (.int p3), .val (.int p4), .val (.int p5), .val (.ref a), .val (.int C.toInt32), .val (.int F.toInt32), .unset, .unset, .unset] [(.int (3 : Int32)), (.ref a)])
        refine own_st (fun _ k => XS.iload X48.here hx rfl (hb hby at_110) rfl k) ?_
        show own_Go p e s below _ _ _ T48 (mkF m 112 #[.val (.int p0), .val (.int p1), .val (.int p2), .val (.int p3), .val (.int p4), .val (.int p5), .val (.ref a), .val (.int C.toInt32), .val (.int F.toInt32), .unset, .unset, .unset] [(.int F.toInt32), (.int (3 : Int32)), (.ref a)])
        refine own_st (fun _ k => XS.iload X48.here hx rfl (hb hby at_112) rfl k) ?_
        show own_Go p e s below _ _ _ T48 (mkF m 114 #[.val (.int p0), .val (.int p1), .val (.int p2), .val (.int p3), .val (.int p4), .val (.int p5), .val (.ref a), .val (.int C.toInt32), .val (.int F.toInt32), .unset, .unset, .unset] [(.int C.toInt32), (.int F.toInt32), (.int (3 : Int32)), (.ref a)])
        refine own_callS X48 hx hZ (y := (⟨"com/example/phonomark/phonomark/Iso2709RecordDigitsPinLaw", "bad", "([BIII)Z"⟩ : MethodName)) hown (hw _ (List.mem_of_getElem? (i := 6) rfl)) (hw _ (List.mem_of_getElem? (i := 7) rfl)) (hw _ (List.mem_of_getElem? (i := 3) rfl)) (hw _ (List.mem_of_getElem? (i := 8) rfl)) (by decide) e48 (rm2 l Z a0 hw [] a (3 : Int32) F.toInt32 C.toInt32 d3 k19 [(.int d0), (.int d1), (.int d2), (.int d3), (.int d4)] h34 n0 Z35 V_a (by decide) rfl) 0 (by decide) (by decide) (g := (mkF m 114 #[.val (.int p0), .val (.int p1), .val (.int p2), .val (.int p3), .val (.int p4), .val (.int p5), .val (.ref a), .val (.int C.toInt32), .val (.int F.toInt32), .unset, .unset, .unset] [(.int C.toInt32), (.int F.toInt32), (.int (3 : Int32)), (.ref a)])) rfl (by rw [hml]; rfl) (argsL := [(.ref a), (.int (3 : Int32)), (.int F.toInt32), (.int C.toInt32)]) (rest := []) pd4 rfl rfl rfl (by show 2 * 0 + _ ≤ _; exact Nat.le_of_eq rfl) (hb hby at_114) (by decide) (by decide) ?_
        intro T50 v50 L50 X50 hQ50
        obtain ⟨rfl, N50q, e50⟩ := hQ50
        have N50 := Fr.app N48 N50q
        show own_Go p e s below _ _ _ T50 (mkF m 117 #[.val (.int p0), .val (.int p1), .val (.int p2), .val (.int p3), .val (.int p4), .val (.int p5), .val (.ref a), .val (.int C.toInt32), .val (.int F.toInt32), .unset, .unset, .unset] [(.int (own_b (own_in (3 : Int32) F.toInt32 C.toInt32 ∧ ¬ own_dg d3)))])
        by_cases c117_51 : (own_in (3 : Int32) F.toInt32 C.toInt32 ∧ ¬ own_dg d3)
        · refine own_st (fun _ k => XS.ifYes X50.here hx rfl (pc0 := 117) (pc' := 133) rfl (hb hby at_117) rfl (own_by c117_51).1 (by decide) (by decide) k) ?_
          show own_Go p e s below _ _ _ T50 (mkF m 133 #[.val (.int p0), .val (.int p1), .val (.int p2), .val (.int p3), .val (.int p4), .val (.int p5), .val (.ref a), .val (.int C.toInt32), .val (.int F.toInt32), .unset, .unset, .unset] [])
          refine own_st (fun _ k => XS.iconst X50.here hx rfl (hb hby at_133) k) ?_
          show own_Go p e s below _ _ _ T50 (mkF m 134 #[.val (.int p0), .val (.int p1), .val (.int p2), .val (.int p3), .val (.int p4), .val (.int p5), .val (.ref a), .val (.int C.toInt32), .val (.int F.toInt32), .unset, .unset, .unset] [(.int (1 : Int32))])
          refine own_st (fun _ k => XS.goto X50.here hx rfl (pc0 := 134) (pc' := 138) rfl (hb hby at_134) (by decide) (by decide) k) ?_
          show own_Go p e s below _ _ _ T50 (mkF m 138 #[.val (.int p0), .val (.int p1), .val (.int p2), .val (.int p3), .val (.int p4), .val (.int p5), .val (.ref a), .val (.int C.toInt32), .val (.int F.toInt32), .unset, .unset, .unset] [(.int (1 : Int32))])
          exact J138 T50 _ X50 N50 e50 _ (by rw [own_bt (Or.inr (Or.inr (Or.inr (Or.inl c117_51))))])
        · refine own_st (fun _ k => XS.ifNo X50.here hx rfl (hb hby at_117) rfl (own_bn c117_51).2 k) ?_
          show own_Go p e s below _ _ _ T50 (mkF m 120 #[.val (.int p0), .val (.int p1), .val (.int p2), .val (.int p3), .val (.int p4), .val (.int p5), .val (.ref a), .val (.int C.toInt32), .val (.int F.toInt32), .unset, .unset, .unset] [])
          refine own_st (fun _ k => XS.aload X50.here hx rfl (hb hby at_120) rfl rfl k) ?_
          show own_Go p e s below _ _ _ T50 (mkF m 122 #[.val (.int p0), .val (.int p1), .val (.int p2), .val (.int p3), .val (.int p4), .val (.int p5), .val (.ref a), .val (.int C.toInt32), .val (.int F.toInt32), .unset, .unset, .unset] [(.ref a)])
          refine own_st (fun _ k => XS.iconst X50.here hx rfl (hb hby at_122) k) ?_
          show own_Go p e s below _ _ _ T50 (mkF m 123 #[.val (.int p0), .val (.int p1), .val (.int p2), .val (.int p3), .val (.int p4), .val (.int p5), .val (.ref a), .val (.int C.toInt32), .val (.int F.toInt32), .unset, .unset, .unset] [(.int (4 : Int32)), (.ref a)])
          refine own_st (fun _ k => XS.iload X50.here hx rfl (hb hby at_123) rfl k) ?_
          show own_Go p e s below _ _ _ T50 (mkF m 125 #[.val (.int p0), .val (.int p1), .val (.int p2), .val (.int p3), .val (.int p4), .val (.int p5), .val (.ref a), .val (.int C.toInt32), .val (.int F.toInt32), .unset, .unset, .unset] [(.int F.toInt32), (.int (4 : Int32)), (.ref a)])
          refine own_st (fun _ k => XS.iload X50.here hx rfl (hb hby at_125) rfl k) ?_
          show own_Go p e s below _ _ _ T50 (mkF m 127 #[.val (.int p0), .val (.int p1), .val (.int p2), .val (.int p3), .val (.int p4), .val (.int p5), .val (.ref a), .val (.int C.toInt32), .val (.int F.toInt32), .unset, .unset, .unset] [(.int C.toInt32), (.int F.toInt32), (.int (4 : Int32)), (.ref a)])
          refine own_callS X50 hx hZ (y := (⟨"com/example/phonomark/phonomark/Iso2709RecordDigitsPinLaw", "bad", "([BIII)Z"⟩ : MethodName)) hown (hw _ (List.mem_of_getElem? (i := 6) rfl)) (hw _ (List.mem_of_getElem? (i := 7) rfl)) (hw _ (List.mem_of_getElem? (i := 3) rfl)) (hw _ (List.mem_of_getElem? (i := 8) rfl)) (by decide) e50 (rm2 l Z a0 hw [] a (4 : Int32) F.toInt32 C.toInt32 d4 k19 [(.int d0), (.int d1), (.int d2), (.int d3), (.int d4)] h34 n0 Z35 V_a (by decide) rfl) 0 (by decide) (by decide) (g := (mkF m 127 #[.val (.int p0), .val (.int p1), .val (.int p2), .val (.int p3), .val (.int p4), .val (.int p5), .val (.ref a), .val (.int C.toInt32), .val (.int F.toInt32), .unset, .unset, .unset] [(.int C.toInt32), (.int F.toInt32), (.int (4 : Int32)), (.ref a)])) rfl (by rw [hml]; rfl) (argsL := [(.ref a), (.int (4 : Int32)), (.int F.toInt32), (.int C.toInt32)]) (rest := []) pd4 rfl rfl rfl (by show 2 * 0 + _ ≤ _; exact Nat.le_of_eq rfl) (hb hby at_127) (by decide) (by decide) ?_
          intro T52 v52 L52 X52 hQ52
          obtain ⟨rfl, N52q, e52⟩ := hQ52
          have N52 := Fr.app N50 N52q
          show own_Go p e s below _ _ _ T52 (mkF m 130 #[.val (.int p0), .val (.int p1), .val (.int p2), .val (.int p3), .val (.int p4), .val (.int p5), .val (.ref a), .val (.int C.toInt32), .val (.int F.toInt32), .unset, .unset, .unset] [(.int (own_b (own_in (4 : Int32) F.toInt32 C.toInt32 ∧ ¬ own_dg d4)))])
          by_cases c130_53 : (own_in (4 : Int32) F.toInt32 C.toInt32 ∧ ¬ own_dg d4)
          · refine own_st (fun _ k => XS.ifNo X52.here hx rfl (hb hby at_130) rfl (own_by c130_53).2 k) ?_
            show own_Go p e s below _ _ _ T52 (mkF m 133 #[.val (.int p0), .val (.int p1), .val (.int p2), .val (.int p3), .val (.int p4), .val (.int p5), .val (.ref a), .val (.int C.toInt32), .val (.int F.toInt32), .unset, .unset, .unset] [])
            refine own_st (fun _ k => XS.iconst X52.here hx rfl (hb hby at_133) k) ?_
            show own_Go p e s below _ _ _ T52 (mkF m 134 #[.val (.int p0), .val (.int p1), .val (.int p2), .val (.int p3), .val (.int p4), .val (.int p5), .val (.ref a), .val (.int C.toInt32), .val (.int F.toInt32), .unset, .unset, .unset] [(.int (1 : Int32))])
            refine own_st (fun _ k => XS.goto X52.here hx rfl (pc0 := 134) (pc' := 138) rfl (hb hby at_134) (by decide) (by decide) k) ?_
            show own_Go p e s below _ _ _ T52 (mkF m 138 #[.val (.int p0), .val (.int p1), .val (.int p2), .val (.int p3), .val (.int p4), .val (.int p5), .val (.ref a), .val (.int C.toInt32), .val (.int F.toInt32), .unset, .unset, .unset] [(.int (1 : Int32))])
            exact J138 T52 _ X52 N52 e52 _ (by rw [own_bt (Or.inr (Or.inr (Or.inr (Or.inr c130_53))))])
          · refine own_st (fun _ k => XS.ifYes X52.here hx rfl (pc0 := 130) (pc' := 137) rfl (hb hby at_130) rfl (own_bn c130_53).1 (by decide) (by decide) k) ?_
            show own_Go p e s below _ _ _ T52 (mkF m 137 #[.val (.int p0), .val (.int p1), .val (.int p2), .val (.int p3), .val (.int p4), .val (.int p5), .val (.ref a), .val (.int C.toInt32), .val (.int F.toInt32), .unset, .unset, .unset] [])
            refine own_st (fun _ k => XS.iconst X52.here hx rfl (hb hby at_137) k) ?_
            show own_Go p e s below _ _ _ T52 (mkF m 138 #[.val (.int p0), .val (.int p1), .val (.int p2), .val (.int p3), .val (.int p4), .val (.int p5), .val (.ref a), .val (.int C.toInt32), .val (.int F.toInt32), .unset, .unset, .unset] [(.int (0 : Int32))])
            exact J138 T52 _ X52 N52 e52 _ (by rw [own_bf (by simp only [c78_45, c91_47, c104_49, c117_51, c130_53, or_self, not_false_iff])])
set_option maxRecDepth 65536 in
set_option maxHeartbeats 40000000 in
theorem comes_1 {Post : Tables → Env → Array Value → State → Outcome → State → Prop} (hpost : ∀ tb e args s v u, (limb_1_1.after args s (.returned v) u = true ∧ limb_1_2.after args s (.returned v) u = true ∧ True) → FrameEnd s (.returned v) u (Jvm.fieldLocs frame_1_writes args s ++ Jvm.arrayLocs frame_1_arrays args s ++ Jvm.staticLocs frame_1_statics s) 16 128 → Post tb e args s (.returned v) u) :
    ArmFor flags0 classFile x code maxLocals ret World_1 tables_1 room_1 Calls_1 rest_1 Pre_1 Post := by
  intro l hfl _ _ p e ha hc hk s m args below hf hA hF happ hP
  obtain ⟨hcalls, hrest, hpre⟩ := hP
  obtain ⟨-, -, -, hnamed, -, -, -, hat⟩ := (Spec.applies_iff hf).mp happ
  obtain ⟨hg, hn⟩ := and_e (Cond.before_iff.mp (show (Jvm.Cond.and given_1 narrow_1).before args s = true from hpre))
  obtain ⟨h1, hr0⟩ := and_e hg
  obtain ⟨w0, w1, w2, w3, w4, w5, rfl⟩ : ∃ w0 w1 w2 w3 w4 w5 : Value, args = #[w0, w1, w2, w3, w4, w5] := by
    have hs : args.size = 6 := by simpa [Cond.value, given_1] using h1
    obtain ⟨L⟩ := args
    match L, hs with
    | [w0, w1, w2, w3, w4, w5], _ => exact ⟨w0, w1, w2, w3, w4, w5, rfl⟩
  have hw := fun d (hd : d ∈ tables_1) => atoms_spec (ws := Jvm.Cond.code x code maxLocals ret :: tables_1) hat d (List.mem_cons_of_mem _ hd)
  obtain ⟨ha0, hr1⟩ := and_e hr0
  obtain ⟨i0, e0⟩ := is_v ha0
  obtain rfl : w0 = (.int i0) := Option.some.inj e0
  obtain ⟨ha1, hr2⟩ := and_e hr1
  obtain ⟨i1, e1⟩ := is_v ha1
  obtain rfl : w1 = (.int i1) := Option.some.inj e1
  obtain ⟨ha2, hr3⟩ := and_e hr2
  obtain ⟨i2, e2⟩ := is_v ha2
  obtain rfl : w2 = (.int i2) := Option.some.inj e2
  obtain ⟨ha3, hr4⟩ := and_e hr3
  obtain ⟨i3, e3⟩ := is_v ha3
  obtain rfl : w3 = (.int i3) := Option.some.inj e3
  obtain ⟨ha4, hr5⟩ := and_e hr4
  obtain ⟨i4, e4⟩ := is_v ha4
  obtain rfl : w4 = (.int i4) := Option.some.inj e4
  obtain ⟨i5, e5⟩ := is_v hr5
  obtain rfl : w5 = (.int i5) := Option.some.inj e5
  obtain ⟨n, o, h1, h2, h3, _, L, rfl, ⟨rfl, N⟩, hq⟩ := rm0 l s _ hw tables_1 i0 i1 i2 i3 i4 i5 s.heap s.heap.size (Nat.le_refl _) p e ha hc hk s m _ below hf ((Spec.applies_iff_loose hf).mp happ).1 ⟨rfl, State.Warmed39.refl s, rfl⟩ trivial
  refine ⟨n, _, h1, h2, h3, hpost _ _ _ _ _ _ ⟨Cond.after_iff.mpr rfl, Cond.after_iff.mpr (eq_i res_at (Term.int_eval (1)) rfl), trivial⟩ ⟨hq.1, hq.2.1, (hq.2.2.sift fun y hy => Or.inr (N y hy)).mono (by decide) (by decide)⟩⟩
theorem main_1_1 : Claimed_1_1 := comes_1 fun _ _ _ _ _ _ h hF => ⟨h.1, hF⟩
theorem main_1_2 : Claimed_1_2 := comes_1 fun _ _ _ _ _ _ h hF => ⟨h.2.1, hF⟩
end Jvm.Pilot.@@N@@
namespace Jvm.Pilot.@@N@@
open Jvm Jvm.ClassFile Sem Op Lib Jvm.Free Jvm.Stand Jvm.Pilot.@@N@@.Jvm.D
/-! MADE BY PROGRAM (witnessworld.py) out of the Statement's table words and the real class files: 11 classes; the members and pool entries that the words name. The judged class is class 1, her method 1. -/
namespace start1
open Jvm.ClassFile
def u (s : String) : CpInfo := .utf8 (stringToUtf16 s)
/-- a pool by its gaps: so many unusable entries, then the entry; so many at the end -/
def gap : Nat → List CpInfo → List CpInfo
  | 0, r => r
  | n + 1, r => .unusable :: gap n r
def poolList (es : List (Nat × CpInfo)) (last : Nat) : List CpInfo := es.foldr (fun e r => gap e.1 (e.2 :: r)) (gap last [])
def pool (es : List (Nat × CpInfo)) (last : Nat) : Array CpInfo := ⟨poolList es last⟩
def fileOf (pool : Array CpInfo) (this : Nat) (attrs : Array Attribute := #[]) (ms : Array MethodInfo := #[]) (fl : Nat := 33) (sup : Nat := 0) (ifs : Array Nat := #[]) (fds : Array FieldInfo := #[]) : ClassFile where
  minorVersion := 0
  majorVersion := 65
  constantPool := pool
  accessFlags := fl
  thisClass := this
  superClass := sup
  interfaces := ifs
  fields := fds
  methods := ms
  attributes := attrs
def plain (name : String) (sup : Option ClassId) : Class where
  name := name
  kind := .ordinary
  loader := none
  accessFlags := 33
  super := sup
  interfaces := #[]
  cf := none
  fields := #[]
  methods := #[]
  instanceTypes := #[]
  staticTypes := #[]
  resolved := #[]
  callSites := []
  init := .initialized
  statics := none
  mirror := none

def pool0 : Array CpInfo := pool [(5, u "<init>"), (0, u "()V"), (1, .class_ 10), (1, u "java/lang/Object")] 113

def k0m0 : Method := { name := "<init>", desc := "()V", sig := { parameters := [], returnType := none }, accessFlags := 1, code := none }
/-- java/lang/Object -/
def k0 : Class := { plain "java/lang/Object" none with
  accessFlags := 33
  interfaces := #[]
  cf := some (fileOf pool0 8 #[] #[{ accessFlags := 1, nameIndex := 5, descriptorIndex := 6, attributes := #[] }] 33 0 #[] #[])
  fields := #[]
  methods := #[k0m0]
  instanceTypes := #[]
  staticTypes := #[]
  resolved := Array.replicate 124 none
  statics := none }

def pool1 : Array CpInfo := pool [(2, .class_ 4), (1, u "java/lang/Object"), (0, u "<init>"), (0, u "()V"), (0, .methodref 8 9), (0, .class_ 10), (0, .nameAndType 11 12), (0, u "com/example/phonomark/phonomark/Iso2709RecordDigitsPinLaw"), (0, u "draw"), (0, u "(I)B"), (0, .integer 2147483647), (0, .methodref 8 15), (0, .nameAndType 16 17), (0, u "bad"), (0, u "([BIII)Z"), (0, .methodref 8 19), (0, .nameAndType 20 21), (0, u "part"), (0, u "([BIII)I"), (0, .methodref 23 24), (0, .class_ 25), (0, .nameAndType 26 27), (0, u "com/example/phonomark/phonomark/Iso2709Record"), (0, u "digits"), (0, u "([BII)I"), (0, .methodref 8 29), (0, .nameAndType 30 31), (0, u "inRange"), (0, u "(III)Z"), (0, .methodref 8 33), (0, .nameAndType 34 35), (0, u "isDigit"), (0, u "(B)Z"), (0, .methodref 8 37), (0, .nameAndType 38 39), (0, u "pow10"), (0, u "(I)I"), (2, u "law"), (0, u "(IIIIII)Z")] 5

def k1m0 : Method := { name := "<init>", desc := "()V", sig := { parameters := [], returnType := none }, accessFlags := 1, code := none }
def k1c1 : Code := { maxStack := 5, maxLocals := 12, code := code, exceptionTable := #[], attributes := #[] }
def k1m1 : Method := { name := "law", desc := "(IIIIII)Z", sig := { parameters := [.int, .int, .int, .int, .int, .int], returnType := some .boolean }, accessFlags := 9, code := some k1c1 }
def k1c2 : Code := { maxStack := 3, maxLocals := 1, code := method_3_code, exceptionTable := #[], attributes := #[] }
def k1m2 : Method := { name := "draw", desc := "(I)B", sig := { parameters := [.int], returnType := some .byte }, accessFlags := 10, code := some k1c2 }
def k1c3 : Code := { maxStack := 3, maxLocals := 3, code := method_4_code, exceptionTable := #[], attributes := #[] }
def k1m3 : Method := { name := "inRange", desc := "(III)Z", sig := { parameters := [.int, .int, .int], returnType := some .boolean }, accessFlags := 10, code := some k1c3 }
def k1c4 : Code := { maxStack := 2, maxLocals := 1, code := method_5_code, exceptionTable := #[], attributes := #[] }
def k1m4 : Method := { name := "isDigit", desc := "(B)Z", sig := { parameters := [.byte], returnType := some .boolean }, accessFlags := 10, code := some k1c4 }
def k1c5 : Code := { maxStack := 3, maxLocals := 4, code := method_6_code, exceptionTable := #[], attributes := #[] }
def k1m5 : Method := { name := "bad", desc := "([BIII)Z", sig := { parameters := [(.array .byte), .int, .int, .int], returnType := some .boolean }, accessFlags := 10, code := some k1c5 }
def k1c6 : Code := { maxStack := 3, maxLocals := 4, code := method_7_code, exceptionTable := #[], attributes := #[] }
def k1m6 : Method := { name := "part", desc := "([BIII)I", sig := { parameters := [(.array .byte), .int, .int, .int], returnType := some .int }, accessFlags := 10, code := some k1c6 }
def k1c7 : Code := { maxStack := 2, maxLocals := 1, code := method_8_code, exceptionTable := #[], attributes := #[] }
def k1m7 : Method := { name := "pow10", desc := "(I)I", sig := { parameters := [.int], returnType := some .int }, accessFlags := 10, code := some k1c7 }
/-- com/example/phonomark/phonomark/Iso2709RecordDigitsPinLaw -/
def k1 : Class := { plain "com/example/phonomark/phonomark/Iso2709RecordDigitsPinLaw" (some 0) with
  accessFlags := 49
  interfaces := #[]
  cf := some (fileOf pool1 8 #[] #[{ accessFlags := 1, nameIndex := 5, descriptorIndex := 6, attributes := #[] }, { accessFlags := 9, nameIndex := 42, descriptorIndex := 43, attributes := #[] }, { accessFlags := 10, nameIndex := 11, descriptorIndex := 12, attributes := #[] }, { accessFlags := 10, nameIndex := 30, descriptorIndex := 31, attributes := #[] }, { accessFlags := 10, nameIndex := 34, descriptorIndex := 35, attributes := #[] }, { accessFlags := 10, nameIndex := 16, descriptorIndex := 17, attributes := #[] }, { accessFlags := 10, nameIndex := 20, descriptorIndex := 21, attributes := #[] }, { accessFlags := 10, nameIndex := 38, descriptorIndex := 39, attributes := #[] }] 49 2 #[] #[])
  fields := #[]
  methods := #[k1m0, k1m1, k1m2, k1m3, k1m4, k1m5, k1m6, k1m7]
  instanceTypes := #[]
  staticTypes := #[]
  resolved := Array.replicate 49 none
  statics := none }

def pool2 : Array CpInfo := pool [(1, .class_ 2), (0, u "com/example/phonomark/phonomark/FoundRecord"), (0, .class_ 4), (0, u "java/lang/Object"), (3, .class_ 9), (0, u "com/example/phonomark/phonomark/FoundRecord$Damaged")] 5

/-- com/example/phonomark/phonomark/FoundRecord -/
def k2 : Class := { plain "com/example/phonomark/phonomark/FoundRecord" (some 0) with
  accessFlags := 1536
  interfaces := #[]
  cf := some (fileOf pool2 1 #[.nestMembers #[8]] #[] 1536 3 #[] #[])
  fields := #[]
  methods := #[]
  instanceTypes := #[]
  staticTypes := #[]
  resolved := Array.replicate 15 none
  statics := none }

def pool3 : Array CpInfo := pool [(1, .class_ 2), (0, u "com/example/phonomark/phonomark/MarcRecord"), (0, .class_ 4), (0, u "java/lang/Object"), (0, .class_ 6), (0, u "com/example/phonomark/phonomark/FoundRecord"), (0, u "CONTROL_NUMBER"), (0, u "Ljava/lang/String;"), (10, .class_ 20), (0, u "com/example/phonomark/phonomark/MarcRecord$DataFields")] 7

/-- com/example/phonomark/phonomark/MarcRecord -/
def k3 : Class := { plain "com/example/phonomark/phonomark/MarcRecord" (some 0) with
  accessFlags := 1536
  interfaces := #[2]
  cf := some (fileOf pool3 1 #[.nestMembers #[19]] #[] 1536 3 #[5] #[{ accessFlags := 25, nameIndex := 7, descriptorIndex := 8, attributes := #[] }])
  fields := #[{ name := "CONTROL_NUMBER", type := (.object "java/lang/String"), accessFlags := 25, slot := 0, constantValue := 0 }]
  methods := #[]
  instanceTypes := #[]
  staticTypes := #[(.object "java/lang/String")]
  resolved := Array.replicate 28 none
  statics := none }

def pool4 : Array CpInfo := pool [(2, .class_ 4), (1, u "java/lang/Object"), (0, u "<init>"), (0, u "()V"), (0, .class_ 8), (0, u "com/example/phonomark/phonomark/Iso2709Record"), (2, u "tags"), (0, u "[I"), (2, u "starts"), (2, u "ends"), (0, .class_ 20), (0, u "com/example/phonomark/phonomark/Iso2709Record$Cursor"), (5, u "dataFields"), (0, u "Lcom/example/phonomark/phonomark/Iso2709Record$Cursor;"), (6, u "digits"), (0, u "([BII)I"), (5, u "offset"), (0, u "J"), (2, u "bytes"), (0, u "[B"), (2, u "from"), (0, u "I"), (2, u "length"), (2, u "fields"), (28, .class_ 86), (0, u "com/example/phonomark/phonomark/Iso2709Record$SubfieldValue"), (13, .class_ 101), (0, u "com/example/phonomark/phonomark/Iso2709Record$Splice"), (74, .class_ 177), (0, u "com/example/phonomark/phonomark/MarcRecord"), (45, u "LEADER_LENGTH"), (2, u "RECORD_LENGTH_AT"), (1, u "RECORD_LENGTH_DIGITS"), (1, u "DATA_START_AT"), (1, u "DATA_START_DIGITS"), (0, u "ENTRY_LENGTH"), (0, u "FIELD_LENGTH_AT"), (1, u "FIELD_LENGTH_DIGITS"), (1, u "FIELD_START_AT"), (1, u "FIELD_START_DIGITS"), (0, u "FIELD_TERMINATOR"), (0, u "B"), (1, u "SUBFIELD_DELIMITER"), (1, u "INDICATOR_LENGTH"), (1, u "REPLACEMENT"), (0, u "C"), (0, u "INITIAL_FIELDS")] 47

def k4m0 : Method := { name := "<init>", desc := "()V", sig := { parameters := [], returnType := none }, accessFlags := 0, code := none }
def k4c1 : Code := { maxStack := 3, maxLocals := 6, code := prog_20_method_20_code, exceptionTable := #[], attributes := #[] }
def k4m1 : Method := { name := "digits", desc := "([BII)I", sig := { parameters := [(.array .byte), .int, .int], returnType := some .int }, accessFlags := 8, code := some k4c1 }
/-- com/example/phonomark/phonomark/Iso2709Record -/
def k4 : Class := { plain "com/example/phonomark/phonomark/Iso2709Record" (some 0) with
  accessFlags := 48
  interfaces := #[3]
  cf := some (fileOf pool4 7 #[.nestMembers #[100, 85, 19]] #[{ accessFlags := 0, nameIndex := 5, descriptorIndex := 6, attributes := #[] }, { accessFlags := 8, nameIndex := 34, descriptorIndex := 35, attributes := #[] }] 48 2 #[176] #[{ accessFlags := 24, nameIndex := 223, descriptorIndex := 50, attributes := #[] }, { accessFlags := 24, nameIndex := 226, descriptorIndex := 50, attributes := #[] }, { accessFlags := 24, nameIndex := 228, descriptorIndex := 50, attributes := #[] }, { accessFlags := 24, nameIndex := 230, descriptorIndex := 50, attributes := #[] }, { accessFlags := 24, nameIndex := 232, descriptorIndex := 50, attributes := #[] }, { accessFlags := 24, nameIndex := 233, descriptorIndex := 50, attributes := #[] }, { accessFlags := 24, nameIndex := 234, descriptorIndex := 50, attributes := #[] }, { accessFlags := 24, nameIndex := 236, descriptorIndex := 50, attributes := #[] }, { accessFlags := 24, nameIndex := 238, descriptorIndex := 50, attributes := #[] }, { accessFlags := 24, nameIndex := 240, descriptorIndex := 50, attributes := #[] }, { accessFlags := 24, nameIndex := 241, descriptorIndex := 242, attributes := #[] }, { accessFlags := 26, nameIndex := 244, descriptorIndex := 242, attributes := #[] }, { accessFlags := 26, nameIndex := 246, descriptorIndex := 50, attributes := #[] }, { accessFlags := 26, nameIndex := 248, descriptorIndex := 249, attributes := #[] }, { accessFlags := 26, nameIndex := 250, descriptorIndex := 50, attributes := #[] }, { accessFlags := 2, nameIndex := 41, descriptorIndex := 42, attributes := #[] }, { accessFlags := 2, nameIndex := 45, descriptorIndex := 46, attributes := #[] }, { accessFlags := 2, nameIndex := 49, descriptorIndex := 50, attributes := #[] }, { accessFlags := 2, nameIndex := 53, descriptorIndex := 50, attributes := #[] }, { accessFlags := 2, nameIndex := 56, descriptorIndex := 50, attributes := #[] }, { accessFlags := 2, nameIndex := 11, descriptorIndex := 12, attributes := #[] }, { accessFlags := 2, nameIndex := 15, descriptorIndex := 12, attributes := #[] }, { accessFlags := 2, nameIndex := 18, descriptorIndex := 12, attributes := #[] }, { accessFlags := 18, nameIndex := 26, descriptorIndex := 27, attributes := #[] }])
  fields := #[{ name := "LEADER_LENGTH", type := .int, accessFlags := 24, slot := 0, constantValue := 0 }, { name := "RECORD_LENGTH_AT", type := .int, accessFlags := 24, slot := 1, constantValue := 0 }, { name := "RECORD_LENGTH_DIGITS", type := .int, accessFlags := 24, slot := 2, constantValue := 0 }, { name := "DATA_START_AT", type := .int, accessFlags := 24, slot := 3, constantValue := 0 }, { name := "DATA_START_DIGITS", type := .int, accessFlags := 24, slot := 4, constantValue := 0 }, { name := "ENTRY_LENGTH", type := .int, accessFlags := 24, slot := 5, constantValue := 0 }, { name := "FIELD_LENGTH_AT", type := .int, accessFlags := 24, slot := 6, constantValue := 0 }, { name := "FIELD_LENGTH_DIGITS", type := .int, accessFlags := 24, slot := 7, constantValue := 0 }, { name := "FIELD_START_AT", type := .int, accessFlags := 24, slot := 8, constantValue := 0 }, { name := "FIELD_START_DIGITS", type := .int, accessFlags := 24, slot := 9, constantValue := 0 }, { name := "FIELD_TERMINATOR", type := .byte, accessFlags := 24, slot := 10, constantValue := 0 }, { name := "SUBFIELD_DELIMITER", type := .byte, accessFlags := 26, slot := 11, constantValue := 0 }, { name := "INDICATOR_LENGTH", type := .int, accessFlags := 26, slot := 12, constantValue := 0 }, { name := "REPLACEMENT", type := .char, accessFlags := 26, slot := 13, constantValue := 0 }, { name := "INITIAL_FIELDS", type := .int, accessFlags := 26, slot := 14, constantValue := 0 }, { name := "offset", type := .long, accessFlags := 2, slot := 0, constantValue := 0 }, { name := "bytes", type := (.array .byte), accessFlags := 2, slot := 1, constantValue := 0 }, { name := "from", type := .int, accessFlags := 2, slot := 2, constantValue := 0 }, { name := "length", type := .int, accessFlags := 2, slot := 3, constantValue := 0 }, { name := "fields", type := .int, accessFlags := 2, slot := 4, constantValue := 0 }, { name := "tags", type := (.array .int), accessFlags := 2, slot := 5, constantValue := 0 }, { name := "starts", type := (.array .int), accessFlags := 2, slot := 6, constantValue := 0 }, { name := "ends", type := (.array .int), accessFlags := 2, slot := 7, constantValue := 0 }, { name := "dataFields", type := (.object "com/example/phonomark/phonomark/Iso2709Record$Cursor"), accessFlags := 18, slot := 8, constantValue := 0 }]
  methods := #[k4m0, k4m1]
  instanceTypes := #[.long, (.array .byte), .int, .int, .int, (.array .int), (.array .int), (.array .int), (.object "com/example/phonomark/phonomark/Iso2709Record$Cursor")]
  staticTypes := #[.int, .int, .int, .int, .int, .int, .int, .int, .int, .int, .byte, .byte, .int, .char, .int]
  resolved := Array.replicate 298 none
  statics := none }

def pool5 : Array CpInfo := pool [(1, u "java/lang/Cloneable"), (0, .class_ 1), (0, u "java/lang/Object"), (0, .class_ 3)] 3

/-- java/lang/Cloneable -/
def k5 : Class := { plain "java/lang/Cloneable" (some 0) with
  accessFlags := 1537
  interfaces := #[]
  cf := some (fileOf pool5 2 #[] #[] 1537 4 #[] #[])
  fields := #[]
  methods := #[]
  instanceTypes := #[]
  staticTypes := #[]
  resolved := Array.replicate 8 none
  statics := none }

def pool6 : Array CpInfo := pool [(1, u "java/io/Serializable"), (0, .class_ 1), (0, u "java/lang/Object"), (0, .class_ 3)] 3

/-- java/io/Serializable -/
def k6 : Class := { plain "java/io/Serializable" (some 0) with
  accessFlags := 1537
  interfaces := #[]
  cf := some (fileOf pool6 2 #[] #[] 1537 4 #[] #[])
  fields := #[]
  methods := #[]
  instanceTypes := #[]
  staticTypes := #[]
  resolved := Array.replicate 8 none
  statics := none }

/-- the primitive byte -/
def k7 : Class := { plain "byte" none with kind := .primitive 'B', accessFlags := 0x411 }
/-- [B -/
def k8 : Class := { plain "[B" (some 0) with kind := .array 7 .byte, interfaces := #[5, 6], accessFlags := 1041 }

/-- the primitive int -/
def k9 : Class := { plain "int" none with kind := .primitive 'I', accessFlags := 0x411 }
/-- [I -/
def k10 : Class := { plain "[I" (some 0) with kind := .array 9 .int, interfaces := #[5, 6], accessFlags := 1041 }

def heap : Heap := #[]
def classes : Array Class := #[k0, k1, k2, k3, k4, k5, k6, k7, k8, k9, k10]
def interned : List (Array UInt16 × Addr) := []
def slotsUsed : Nat := 0
def theMethod : MethodId := ⟨1, 1⟩
def args0 : Array Value := #[.int 5, .int 5, .int 5, .int 5, .int 5, .int 5]
def aboutOver (below : List Frame) : State where
  vm := { classes := classes, interned := interned.toArray }
  heap := heap
  slotsUsed := slotsUsed
  threads := #[{ frames := .invoking theMethod args0 :: below }]
def below0 : List Frame := [.native { method := ⟨0, 0⟩, args := #[] }]
def about1 : State := aboutOver below0
def p0 : Program := .bare "" "" ""
def e0 : Env := launch0.env 0 0 0
theorem w_frames : about1.frames = Frame.invoking theMethod args0 :: below0 := rfl
set_option maxRecDepth 65536 in
theorem w_args : argsFit about1.vm theMethod args0 = true := by decide +kernel
set_option maxRecDepth 65536 in
theorem w_heap : heapFits about1 = true := by decide +kernel
set_option maxRecDepth 65536 in
theorem w_runnable : about1.curStatus? = some .runnable := by decide +kernel
set_option maxRecDepth 65536 in
theorem w_alone : about1.alone = true := by decide +kernel
set_option maxRecDepth 65536 in
theorem w_named : about1.methodNamed? x = some theMethod := by decide +kernel
set_option maxRecDepth 65536 in
theorem w_hears : about1.hears theMethod below0 = true := by decide +kernel
set_option maxRecDepth 65536 in
theorem w_ripe : about1.ripe theMethod args0 below0 = true := by decide +kernel
theorem w_running : about1.status = .running := rfl
set_option maxRecDepth 65536 in
theorem w_room : about1.hasRoom e0.platform room_1 = true :=
  launch0.hasRoom_least _ room_1 (by decide +kernel) (by decide +kernel) (by decide +kernel) (by decide +kernel) (by decide +kernel) (by decide +kernel)
theorem allAtoms_all (ts : List Jvm.Cond) (a : Array Jvm.Value) (st : Jvm.State) : (allAtoms ts).before a st = ts.all (fun c => c.before a st) := by
  induction ts with
  | nil => rfl
  | cons c t ih =>
    show (Jvm.Cond.and c (allAtoms t)).before a st = _
    rw [Jvm.Cond.before_and, ih, List.all_cons]
def words1 : List Jvm.Cond := Jvm.Cond.code x code maxLocals ret :: tables_1
/-- a 'code' word, met by the world's own term for the bytes: nothing is compared byte by byte -/
theorem code_word {y : MethodName} {bytes : ByteArray} {mx : Nat} {rt : Option FieldType} {a : Array Value} {s : State} {m : MethodId} {meth : Method} {c : Code} (h1 : s.methodNamed? y = some m) (h2 : s.vm.method? m = some meth) (h3 : meth.code = some c) (h4 : c.code = bytes)
    (h5 : (c.maxLocals == mx && c.exceptionTable.isEmpty && decide (c.maxStack ≤ mostOperands) && decide (meth.sig.returnType = rt) && !meth.locks && decide (parseMethodDescriptor y.desc = some meth.sig)) = true) : (Jvm.Cond.code y bytes mx rt).before a s = true := by
  simp only [Bool.and_eq_true, beq_iff_eq, Bool.not_eq_true', decide_eq_true_eq] at h5
  obtain ⟨⟨⟨⟨⟨g1, g2⟩, g3⟩, g4⟩, g5⟩, g6⟩ := h5
  simp [Cond.before, Cond.holds, Cond.value, h1, h2, h3, h4, g1, g2, g3, g4, g5, g6]
def isCode : Jvm.Cond → Bool
  | .code _ _ _ _ => true
  | _ => false
theorem all_split {L : List Jvm.Cond} {P : Jvm.Cond → Bool} (h1 : L.all (fun c => isCode c || P c) = true) (h2 : ∀ c ∈ L.filter isCode, P c = true) : L.all P = true := by
  refine List.all_eq_true.mpr fun c hc => ?_
  have h := List.all_eq_true.mp h1 c hc
  rcases Bool.eq_false_or_eq_true (isCode c) with hi | hi
  · exact h2 c (List.mem_filter.mpr ⟨hc, hi⟩)
  · simpa [hi] using h
set_option maxRecDepth 65536 in
theorem w_c0 : (Jvm.Cond.code x code maxLocals ret).before args0 about1 = true := code_word (m := ⟨1, 1⟩) (meth := k1m1) (c := k1c1) (by decide +kernel) rfl rfl rfl (by decide +kernel)
set_option maxRecDepth 65536 in
theorem w_c1 : (Jvm.Cond.code ({ cls := "com/example/phonomark/phonomark/Iso2709RecordDigitsPinLaw", name := "draw", desc := "(I)B" } : Jvm.MethodName) method_3_code (1 : Nat) (Option.some Jvm.ClassFile.FieldType.byte)).before args0 about1 = true := code_word (m := ⟨1, 2⟩) (meth := k1m2) (c := k1c2) (by decide +kernel) rfl rfl rfl (by decide +kernel)
set_option maxRecDepth 65536 in
theorem w_c2 : (Jvm.Cond.code ({ cls := "com/example/phonomark/phonomark/Iso2709RecordDigitsPinLaw", name := "bad", desc := "([BIII)Z" } : Jvm.MethodName) method_6_code (4 : Nat) (Option.some Jvm.ClassFile.FieldType.boolean)).before args0 about1 = true := code_word (m := ⟨1, 5⟩) (meth := k1m5) (c := k1c5) (by decide +kernel) rfl rfl rfl (by decide +kernel)
set_option maxRecDepth 65536 in
theorem w_c3 : (Jvm.Cond.code ({ cls := "com/example/phonomark/phonomark/Iso2709RecordDigitsPinLaw", name := "inRange", desc := "(III)Z" } : Jvm.MethodName) method_4_code (3 : Nat) (Option.some Jvm.ClassFile.FieldType.boolean)).before args0 about1 = true := code_word (m := ⟨1, 3⟩) (meth := k1m3) (c := k1c3) (by decide +kernel) rfl rfl rfl (by decide +kernel)
set_option maxRecDepth 65536 in
theorem w_c4 : (Jvm.Cond.code ({ cls := "com/example/phonomark/phonomark/Iso2709RecordDigitsPinLaw", name := "part", desc := "([BIII)I" } : Jvm.MethodName) method_7_code (4 : Nat) (Option.some Jvm.ClassFile.FieldType.int)).before args0 about1 = true := code_word (m := ⟨1, 6⟩) (meth := k1m6) (c := k1c6) (by decide +kernel) rfl rfl rfl (by decide +kernel)
set_option maxRecDepth 65536 in
theorem w_c5 : (Jvm.Cond.code ({ cls := "com/example/phonomark/phonomark/Iso2709Record", name := "digits", desc := "([BII)I" } : Jvm.MethodName) prog_20_method_20_code (6 : Nat) (Option.some Jvm.ClassFile.FieldType.int)).before args0 about1 = true := code_word (m := ⟨4, 1⟩) (meth := k4m1) (c := k4c1) (by decide +kernel) rfl rfl rfl (by decide +kernel)
set_option maxRecDepth 65536 in
theorem w_c6 : (Jvm.Cond.code ({ cls := "com/example/phonomark/phonomark/Iso2709RecordDigitsPinLaw", name := "isDigit", desc := "(B)Z" } : Jvm.MethodName) method_5_code (1 : Nat) (Option.some Jvm.ClassFile.FieldType.boolean)).before args0 about1 = true := code_word (m := ⟨1, 4⟩) (meth := k1m4) (c := k1c4) (by decide +kernel) rfl rfl rfl (by decide +kernel)
set_option maxRecDepth 65536 in
theorem w_c7 : (Jvm.Cond.code ({ cls := "com/example/phonomark/phonomark/Iso2709RecordDigitsPinLaw", name := "pow10", desc := "(I)I" } : Jvm.MethodName) method_8_code (1 : Nat) (Option.some Jvm.ClassFile.FieldType.int)).before args0 about1 = true := code_word (m := ⟨1, 7⟩) (meth := k1m7) (c := k1c7) (by decide +kernel) rfl rfl rfl (by decide +kernel)
def codes1 : List Jvm.Cond := [Jvm.Cond.code x code maxLocals ret, Jvm.Cond.code ({ cls := "com/example/phonomark/phonomark/Iso2709RecordDigitsPinLaw", name := "draw", desc := "(I)B" } : Jvm.MethodName) method_3_code (1 : Nat) (Option.some Jvm.ClassFile.FieldType.byte), Jvm.Cond.code ({ cls := "com/example/phonomark/phonomark/Iso2709RecordDigitsPinLaw", name := "bad", desc := "([BIII)Z" } : Jvm.MethodName) method_6_code (4 : Nat) (Option.some Jvm.ClassFile.FieldType.boolean), Jvm.Cond.code ({ cls := "com/example/phonomark/phonomark/Iso2709RecordDigitsPinLaw", name := "inRange", desc := "(III)Z" } : Jvm.MethodName) method_4_code (3 : Nat) (Option.some Jvm.ClassFile.FieldType.boolean), Jvm.Cond.code ({ cls := "com/example/phonomark/phonomark/Iso2709RecordDigitsPinLaw", name := "part", desc := "([BIII)I" } : Jvm.MethodName) method_7_code (4 : Nat) (Option.some Jvm.ClassFile.FieldType.int), Jvm.Cond.code ({ cls := "com/example/phonomark/phonomark/Iso2709Record", name := "digits", desc := "([BII)I" } : Jvm.MethodName) prog_20_method_20_code (6 : Nat) (Option.some Jvm.ClassFile.FieldType.int), Jvm.Cond.code ({ cls := "com/example/phonomark/phonomark/Iso2709RecordDigitsPinLaw", name := "isDigit", desc := "(B)Z" } : Jvm.MethodName) method_5_code (1 : Nat) (Option.some Jvm.ClassFile.FieldType.boolean), Jvm.Cond.code ({ cls := "com/example/phonomark/phonomark/Iso2709RecordDigitsPinLaw", name := "pow10", desc := "(I)I" } : Jvm.MethodName) method_8_code (1 : Nat) (Option.some Jvm.ClassFile.FieldType.int)]
set_option maxRecDepth 65536 in
theorem codes_eq : words1.filter isCode = codes1 := rfl
theorem w_codes : ∀ c ∈ words1.filter isCode, c.before args0 about1 = true := by
  rw [codes_eq]
  intro c hc
  simp only [codes1, List.mem_cons, List.not_mem_nil, or_false] at hc
  rcases hc with rfl | rfl | rfl | rfl | rfl | rfl | rfl | rfl
  · exact w_c0
  · exact w_c1
  · exact w_c2
  · exact w_c3
  · exact w_c4
  · exact w_c5
  · exact w_c6
  · exact w_c7
set_option maxRecDepth 65536 in
theorem w_t1 : (words1.take 24).all (fun c => isCode c || c.before args0 about1) = true := by decide +kernel
set_option maxRecDepth 65536 in
theorem w_t2 : (words1.drop 24).all (fun c => isCode c || c.before args0 about1) = true := by decide +kernel
theorem w_tables : (allAtoms (Jvm.Cond.code x code maxLocals ret :: tables_1)).before args0 about1 = true := by
  rw [allAtoms_all]
  show words1.all (fun c => c.before args0 about1) = true
  refine all_split ?_ w_codes
  rw [← List.take_append_drop 24 words1, List.all_append, w_t1, w_t2]
  rfl
set_option maxRecDepth 65536 in
theorem w_case : (Jvm.Cond.and given_1 narrow_1).before args0 about1 = true := by decide +kernel
theorem w_applies : (headSpec (Jvm.Cond.code x code maxLocals ret :: tables_1) room_1).applies x e0.platform about1 = true :=
  (Spec.applies_iff w_frames).mpr ⟨w_running, w_runnable, w_alone, w_named, w_hears, w_ripe, w_room, w_tables⟩
theorem atStart : AtStart classFile x code maxLocals ret World_1 tables_1 room_1 Calls_1 rest_1 Pre_1 launch0 p0 e0 about1 theMethod args0 below0 :=
  ⟨lists_1, trivial, launch0.admits_env _ _ _, launch0.least_env, fairChoices_fair.cas, fairChoices_fair.clock, w_frames, w_args, w_heap, w_applies, trivial, trivial, w_case⟩
end start1
theorem witness_1 : WitnessClaimed_1 := ⟨start1.p0, start1.e0, start1.about1, start1.theMethod, start1.args0, start1.below0, start1.atStart⟩
end Jvm.Pilot.@@N@@
