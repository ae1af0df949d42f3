import JvmDerived
import JvmDerived.Pilot.@@N@@Statement
import JvmDerived.Pilot.@@N@@Code
set_option linter.unusedVariables false
set_option linter.unusedSimpArgs false
namespace Jvm.Pilot.@@N@@
open Jvm Jvm.ClassFile Sem Op Lib Jvm.Free Jvm.Stand Jvm.LawKit Jvm.RoadKit Bundle Jvm.Pilot.@@N@@.Jvm.D
/-! the walk in the form of what is still to be run: own_Go T g says that the run from the frame g on T ends as promised -/
section OwnKit
variable {p : Program} {l : Launch} {e : Env} {R : Room} {s : State} {m : MethodId} {args : Array Value} {below : List Frame} {meth : Method} {c : Code} {T : State} {locs : List Loc} {cells slots : Nat} {Z : State} {h : Heap} {a0 : Array Value} {Q : Option Value → Heap → List Loc → Prop} {cm sm : Nat}
def own_Go (p : Program) (e : Env) (s : State) (below : List Frame) (Q : Option Value → Heap → List Loc → Prop) (cm sm : Nat) (T : State) (g : JFrame) : Prop :=
  ∃ (U : State) (o : Outcome), Steps p.tables e below (T.setTop g) U ∧ U.status = .running ∧ Ended U below o ∧ ∃ v L, o = .returned v ∧ Q v U.heap L ∧ FrameEnd s o U L cm sm
theorem own_st {T' : State} {g g' : JFrame} (h : ∀ t, Steps p.tables e below (T'.setTop g') t → Steps p.tables e below (T.setTop g) t) (k : own_Go p e s below Q cm sm T' g') : own_Go p e s below Q cm sm T g := by
  obtain ⟨U, o, h1, h2⟩ := k
  exact ⟨U, o, h U h1, h2⟩
abbrev own_Met (l : Launch) (Z : State) (y : MethodName) (bytes : ByteArray) (ml : Nat) (ret : Option FieldType) (rm : Room) (ws : List Jvm.Cond) (as : Array Value) (h : Heap) (Q : Option Value → Heap → List Loc → Prop) (cm sm : Nat) : Prop :=
  MetFree l y (head1 (Jvm.Cond.code y bytes ml ret :: ws) rm) (fun a U => a = as ∧ Z.Warmed39 U.vm ∧ U.heap = h) (fun _ _ _ _ _ => True) (fun _ U o U' => ∃ v L, o = .returned v ∧ Q v U'.heap L ∧ FrameEnd U o U' L cm sm)
theorem own_enter {y : MethodName} {bytes : ByteArray} {ml : Nat} {ret : Option FieldType} {rm : Room} {ws : List Jvm.Cond} {as : Array Value} {Ls : Array Slot}
    (hp : plainFor y = true) (hef : ∀ m, entryFrame m as ml = mkF m 0 Ls [])
    (body : ∀ (p : Program) (e : Env) (s : State) (m : MethodId) (below : List Frame) (meth : Method) (c : Code) (T : State), p.tables.exec = Jvm.exec → c.code = bytes → c.maxLocals = ml → s.vm.findClass y.cls = some m.cls → meth.name = y.name → meth.sig.returnType = ret → meth.locks = false → Z.Warmed39 s.vm →
      Stand p l e rm s m as below meth c T [] 0 0 → T.heap = h → own_Go p e s below Q cm sm T (mkF m 0 Ls [])) :
    own_Met l Z y bytes ml ret rm ws as h Q cm sm := by
  refine MetFree.of_bodySF hp hisR ?_
  intro p e s m args below meth c s₁ Bd hml0 hP hK
  obtain ⟨rfl, hZ, hh⟩ := hP
  obtain ⟨U, o, h1, h2⟩ := body p e s m below meth c s₁ Bd.exec Bd.bytes hml0 (findClass_of_methodNamed Bd.named) (name_of_methodNamed Bd.named Bd.method).1 Bd.returns (BodyLoose.notSynchronized Bd) hZ (Stand.of_body Bd) (by rw [← hh, Bd.state]; rfl)
  exact ⟨U, o, castTop (hef m) h1, h2⟩
/-! returns -/
theorem own_retN (X : Stand p l e R s m args below meth c T locs cells slots) (hx : p.tables.exec = Jvm.exec) (hlk : meth.locks = false) {t : FieldType} (hret : meth.sig.returnType = some t) (ht : t = .boolean ∨ t = .byte ∨ t = .char ∨ t = .short) {pc : Nat} {Ls : Array Slot} {z z' : Int32} {rest : List Value}
    (hd : decode c.code pc = .ok (.ireturn, 1)) (hz : nar t z = z') (hc : cells ≤ cm) (hs : slots ≤ sm) (hQ : Q (some (.int z')) T.heap locs) : own_Go p e s below Q cm sm T (mkF m pc Ls (.int z :: rest)) := by
  subst hz
  obtain ⟨fs, hr, hrun, hended, hW, hsame⟩ := X.leave (v := some (.int (nar t z))) (fun h => by rw [hret] at h; cases h) hlk
  exact ⟨_, _, retN X hx hret ht hd hr, hrun, hended, _, _, rfl, hQ, ⟨_, rfl⟩, hW, hsame.mono hc hs⟩
theorem own_retI (X : Stand p l e R s m args below meth c T locs cells slots) (hx : p.tables.exec = Jvm.exec) (hlk : meth.locks = false) (hret : meth.sig.returnType = some .int) {pc : Nat} {Ls : Array Slot} {z : Int32} {rest : List Value}
    (hd : decode c.code pc = .ok (.ireturn, 1)) (hc : cells ≤ cm) (hs : slots ≤ sm) (hQ : Q (some (.int z)) T.heap locs) : own_Go p e s below Q cm sm T (mkF m pc Ls (.int z :: rest)) := by
  obtain ⟨fs, hr, hrun, hended, hW, hsame⟩ := X.leave (v := some (.int z)) (fun h => by rw [hret] at h; cases h) hlk
  exact ⟨_, _, retOut X hx hret rfl (Or.inl ⟨rfl, Or.inl rfl, _, rfl⟩) hd hr, hrun, hended, _, _, rfl, hQ, ⟨_, rfl⟩, hW, hsame.mono hc hs⟩
theorem own_retJ (X : Stand p l e R s m args below meth c T locs cells slots) (hx : p.tables.exec = Jvm.exec) (hlk : meth.locks = false) (hret : meth.sig.returnType = some .long) {pc : Nat} {Ls : Array Slot} {z : Int64} {rest : List Value}
    (hd : decode c.code pc = .ok (.lreturn, 1)) (hc : cells ≤ cm) (hs : slots ≤ sm) (hQ : Q (some (.long z)) T.heap locs) : own_Go p e s below Q cm sm T (mkF m pc Ls (.long z :: rest)) := by
  obtain ⟨fs, hr, hrun, hended, hW, hsame⟩ := X.leave (v := some (.long z)) (fun h => by rw [hret] at h; cases h) hlk
  exact ⟨_, _, retOut X hx hret rfl (Or.inr (Or.inl ⟨rfl, rfl, _, rfl⟩)) hd hr, hrun, hended, _, _, rfl, hQ, ⟨_, rfl⟩, hW, hsame.mono hc hs⟩
theorem own_retR (X : Stand p l e R s m args below meth c T locs cells slots) (hx : p.tables.exec = Jvm.exec) (hlk : meth.locks = false) {t : FieldType} (hret : meth.sig.returnType = some t) (ht : t.isReference = true) {pc : Nat} {Ls : Array Slot} {w : Value} (hw : w.isRef = true) (hn : narrow t w = w) {rest : List Value}
    (hd : decode c.code pc = .ok (.areturn, 1)) (hc : cells ≤ cm) (hs : slots ≤ sm) (hQ : Q (some w) T.heap locs) : own_Go p e s below Q cm sm T (mkF m pc Ls (w :: rest)) := by
  obtain ⟨fs, hr, hrun, hended, hW, hsame⟩ := X.leave (v := some w) (fun h => by rw [hret] at h; cases h) hlk
  exact ⟨_, _, retOut X hx hret hn (Or.inr (Or.inr (Or.inr (Or.inr ⟨rfl, ht, hw⟩)))) hd hr, hrun, hended, _, _, rfl, hQ, ⟨_, rfl⟩, hW, hsame.mono hc hs⟩
theorem own_ret0 (X : Stand p l e R s m args below meth c T locs cells slots) (hx : p.tables.exec = Jvm.exec) (hlk : meth.locks = false) (hret : meth.sig.returnType = none) {pc : Nat} {Ls : Array Slot}
    (hd : decode c.code pc = .ok (.return_, 1)) (hc : cells ≤ cm) (hs : slots ≤ sm) (hQ : Q none T.heap locs) : own_Go p e s below Q cm sm T (mkF m pc Ls []) := by
  obtain ⟨fs, hr, hrun, hended, hW, hsame⟩ := X.leave (v := none) (fun _ => rfl) hlk
  exact ⟨_, _, X.returnOut hx hret hd hr, hrun, hended, _, _, rfl, hQ, ⟨_, rfl⟩, hW, hsame.mono hc hs⟩
/-! calls by the callee's contract -/
theorem own_callS (X : Stand p l e R s m args below meth c T locs cells slots) (hx : p.tables.exec = Jvm.exec) (hZ : Z.Warmed39 s.vm) {own : String} {index : Nat} {y : MethodName} {bytes : ByteArray} {maxL : Nat} {ret : Option FieldType} (hown : s.vm.findClass own = some m.cls)
    (w1 : (Jvm.Cond.methodLink own index y).before a0 Z = true) (w2 : (Jvm.Cond.static y).before a0 Z = true) (w3 : (Jvm.Cond.initialized y.cls).before a0 Z = true) (w4 : (Jvm.Cond.code y bytes maxL ret).before a0 Z = true)
    (hy : y.cls ≠ "java/lang/invoke/MethodHandle" ∧ y.cls ≠ "java/lang/invoke/VarHandle") {rm : Room} {as : Array Value} {Qc : Option Value → Heap → List Loc → Prop} (eT : T.heap = h)
    (hM : own_Met l Z y bytes maxL ret rm [] as h Qc rm.cells rm.slots) (W : Nat) (hf : rm.frames + 1 ≤ R.frames) (hl : W + (maxL + 11) + rm.locals ≤ R.locals)
    {g : JFrame} (hg : g.method = m) (hsize : g.locals.size = c.maxLocals) {argsL rest : List Value} {ps : List FieldType} {r : Option FieldType} (hpd : parseMethodDescriptor y.desc = some ⟨ps, r⟩) (hlen : argsL.length = ps.length) (has : argsL.toArray = as)
    (hstack : g.stack = argsL.reverse ++ rest) (hW : 2 * g.monitorRoom + (rest.map fun v => v.category).sum ≤ W) (hdg : decode c.code g.pc = .ok (.invokestatic index, 3)) (hc : cells + rm.cells ≤ R.cells) (hs : slots + rm.slots ≤ R.slots)
    (k : ∀ (T' : State) (v : Option Value) (Lc : List Loc), Stand p l e R s m args below meth c T' (locs ++ Lc) (cells + rm.cells) (slots + rm.slots) → Qc v T'.heap Lc → own_Go p e s below Q cm sm T' { g with pc := g.pc + 3, stack := v.toList ++ rest }) :
    own_Go p e s below Q cm sm T g := by
  obtain ⟨v, _, ⟨T', L', k', n'⟩, -, X', ⟨Lc, hQ, l1, y1, z1⟩, st⟩ := Jvm.LawKit.callS X hx (y := y) hown (mvT hZ w1) (mvT hZ w2) (mvT hZ w3) (mvT hZ w4) hy (backOf (W := W) hM hZ w4 w3 hf hl) hg hsize (argsL := argsL) (rest := rest) (lenOf hpd hlen) hstack hW hdg (fun _ _ => ⟨has, eT, hc, hs⟩)
  dsimp only [Pt.U, Pt.locs, Pt.cells, Pt.slots] at X' l1 y1 z1 st hQ
  subst l1 y1 z1
  exact own_st st (k T' v Lc X' hQ)
theorem own_callN (X : Stand p l e R s m args below meth c T locs cells slots) (hx : p.tables.exec = Jvm.exec) (hZ : Z.Warmed39 s.vm) {own : String} {index : Nat} {y : MethodName} {bytes : ByteArray} {maxL : Nat} (hy1 : y.name = "<init>") (hown : s.vm.findClass own = some m.cls)
    (w1 : (Jvm.Cond.methodLink own index y).before a0 Z = true) (w2 : (Jvm.Cond.instanceMethod y).before a0 Z = true) (w3 : (Jvm.Cond.initialized y.cls).before a0 Z = true) (w4 : (Jvm.Cond.code y bytes maxL none).before a0 Z = true)
    (hy : y.cls ≠ "java/lang/invoke/MethodHandle" ∧ y.cls ≠ "java/lang/invoke/VarHandle") {rm : Room} {as : Array Value} {Qc : Option Value → Heap → List Loc → Prop} (eT : T.heap = h)
    (hM : own_Met l Z y bytes maxL none rm [] as h Qc rm.cells rm.slots) (W : Nat) (hf : rm.frames + 1 ≤ R.frames) (hl : W + (maxL + 11) + rm.locals ≤ R.locals)
    {g : JFrame} (hg : g.method = m) (hsize : g.locals.size = c.maxLocals) {a : Addr} {argsL rest : List Value} {ps : List FieldType} {r : Option FieldType} (hpd : parseMethodDescriptor y.desc = some ⟨ps, r⟩) (hlen : argsL.length = ps.length) (has : (Value.ref a :: argsL).toArray = as)
    (hstack : g.stack = argsL.reverse ++ .ref a :: rest) (hW : 2 * g.monitorRoom + (rest.map fun v => v.category).sum ≤ W) (hdg : decode c.code g.pc = .ok (.invokespecial index, 3)) (hc : cells + rm.cells ≤ R.cells) (hs : slots + rm.slots ≤ R.slots)
    (k : ∀ (T' : State) (v : Option Value) (Lc : List Loc), Stand p l e R s m args below meth c T' (locs ++ Lc) (cells + rm.cells) (slots + rm.slots) → Qc v T'.heap Lc → own_Go p e s below Q cm sm T' { g with pc := g.pc + 3, stack := v.toList ++ rest }) :
    own_Go p e s below Q cm sm T g := by
  obtain ⟨v, _, ⟨T', L', k', n'⟩, -, X', ⟨Lc, hQ, l1, y1, z1⟩, st⟩ := X.specialBack hx (y := y) hy1 hown (mvT hZ w1) (mvT hZ w2) (mvT hZ w4) hy (backOf (W := W) hM hZ w4 w3 hf hl) hg hsize (Steps.refl _) (a := a) (argsL := argsL) (rest := rest) (lenOf hpd hlen) hstack hW hdg (fun _ _ => ⟨has, eT, hc, hs⟩)
  dsimp only [Pt.U, Pt.locs, Pt.cells, Pt.slots] at X' l1 y1 z1 st hQ
  subst l1 y1 z1
  exact own_st (fun _ q => st.trans q) (k T' v Lc X' hQ)
theorem own_callV (X : Stand p l e R s m args below meth c T locs cells slots) (hx : p.tables.exec = Jvm.exec) (hZ : Z.Warmed39 s.vm) {own C : String} {index : Nat} {y : MethodName} {bytes : ByteArray} {maxL : Nat} {ret : Option FieldType} (hown : s.vm.findClass own = some m.cls)
    (w1 : (Jvm.Cond.methodLink own index y).before a0 Z = true) (w2 : (Jvm.Cond.declares y).before a0 Z = true) (w5 : (Jvm.Cond.selects C y y).before a0 Z = true) (w6 : (Jvm.Cond.instanceMethod y).before a0 Z = true) (w3 : (Jvm.Cond.initialized y.cls).before a0 Z = true) (w4 : (Jvm.Cond.code y bytes maxL ret).before a0 Z = true)
    (hy : y.cls ≠ "java/lang/invoke/MethodHandle" ∧ y.cls ≠ "java/lang/invoke/VarHandle") {rm : Room} {as : Array Value} {Qc : Option Value → Heap → List Loc → Prop} (eT : T.heap = h)
    (hM : own_Met l Z y bytes maxL ret rm [] as h Qc rm.cells rm.slots) (W : Nat) (hf : rm.frames + 1 ≤ R.frames) (hl : W + (maxL + 11) + rm.locals ≤ R.locals) {a : Addr} (E : Exa Z h a C)
    {g : JFrame} (hg : g.method = m) (hsize : g.locals.size = c.maxLocals) {argsL rest : List Value} {ps : List FieldType} {r : Option FieldType} (hpd : parseMethodDescriptor y.desc = some ⟨ps, r⟩) (hlen : argsL.length = ps.length) (has : (Value.ref a :: argsL).toArray = as)
    (hstack : g.stack = argsL.reverse ++ .ref a :: rest) (hW : 2 * g.monitorRoom + (rest.map fun v => v.category).sum ≤ W) (hdg : decode c.code g.pc = .ok (.invokevirtual index, 3)) (hc : cells + rm.cells ≤ R.cells) (hs : slots + rm.slots ≤ R.slots)
    (k : ∀ (T' : State) (v : Option Value) (Lc : List Loc), Stand p l e R s m args below meth c T' (locs ++ Lc) (cells + rm.cells) (slots + rm.slots) → Qc v T'.heap Lc → own_Go p e s below Q cm sm T' { g with pc := g.pc + 3, stack := v.toList ++ rest }) :
    own_Go p e s below Q cm sm T g := by
  obtain ⟨cq, kq, qa, qb, qc⟩ := isOf hZ eT E
  obtain ⟨v, _, ⟨T', L', k', n'⟩, -, X', ⟨Lc, hQ, l1, y1, z1⟩, st⟩ := X.virtualBack hx (y := y) (z := y) hown (mvT hZ w1) (mvT hZ w2) (notFace_of_selects (args := #[]) (mvT hZ w5)) (mvT hZ w5) (mvT hZ w6) hy (backOf (W := W) hM hZ w4 w3 hf hl) qa qc hg hsize (Steps.refl _) (argsL := argsL) (rest := rest) (lenOf hpd hlen) hstack hW hdg (fun _ _ => ⟨has, eT, hc, hs⟩)
  dsimp only [Pt.U, Pt.locs, Pt.cells, Pt.slots] at X' l1 y1 z1 st hQ
  subst l1 y1 z1
  exact own_st (fun _ q => st.trans q) (k T' v Lc X' hQ)
/-! arrays by the list of their values -/
theorem own_ix {n j : Int32} {vs : List Value} {d : Value} {a : Addr} {k : ClassId} {ty : FieldType} (V : Arv Z h a k ty n vs d) (hj : ¬ j < 0 ∧ j < n) : ∃ cl : Cell, Arr Z h a cl ty ∧ ¬ (j < 0 ∨ cl.slots.size ≤ j.toNatClampNeg) ∧ cl.slots[j.toNatClampNeg]? = some (vs.getD j.toNatClampNeg d) := by
  obtain ⟨cl, A, -, S, N, H, -⟩ := V
  have q := inb_of S hj
  exact ⟨cl, A, q, H _ (Nat.lt_of_not_le fun y => q (Or.inr y))⟩
theorem own_len (X : Stand p l e R s m args below meth c T locs cells slots) (hx : p.tables.exec = Jvm.exec) (hZ : Z.Warmed39 s.vm) (eT : T.heap = h) {a : Addr} {k : ClassId} {ty : FieldType} {n : Int32} {vs : List Value} {d : Value} (V : Arv Z h a k ty n vs d)
    {g : JFrame} (hg : g.method = m) {rest : List Value} (hs : g.stack = .ref a :: rest) (hd : decode c.code g.pc = .ok (.arraylength, 1)) :
    ∀ t, Steps p.tables e below (T.setTop { g with pc := g.pc + 1, stack := .int n :: rest }) t → Steps p.tables e below (T.setTop g) t := by
  obtain ⟨cl, A, -, S, N, -, -⟩ := V
  intro t k
  refine X.arraylength hx (by rw [eT]; exact A.1) (State.isArrayOf_alike hZ.alike A.2.1) hg hs hd t ?_
  rw [len_of S N]; exact k
theorem own_ldI (X : Stand p l e R s m args below meth c T locs cells slots) (hx : p.tables.exec = Jvm.exec) (hZ : Z.Warmed39 s.vm) (eT : T.heap = h) {a : Addr} {k : ClassId} {n : Int32} {vs : List Value} {d : Value} (V : Arv Z h a k .int n vs d) {j x : Int32} (hj : ¬ j < 0 ∧ j < n) (hv : vs.getD j.toNatClampNeg d = .int x)
    {g : JFrame} (hg : g.method = m) {rest : List Value} (hs : g.stack = .int j :: .ref a :: rest) (hd : decode c.code g.pc = .ok (.iaload, 1)) :
    ∀ t, Steps p.tables e below (T.setTop { g with pc := g.pc + 1, stack := .int x :: rest }) t → Steps p.tables e below (T.setTop g) t := by
  obtain ⟨cl, A, q, H⟩ := own_ix V hj
  exact X.iaload hx (j := j) (v := .int x) (by rw [eT]; exact A.1) (State.isArrayOf_alike hZ.alike A.2.1) A.2.2 q (hv ▸ H) hg hs hd
theorem own_ldB (X : Stand p l e R s m args below meth c T locs cells slots) (hx : p.tables.exec = Jvm.exec) (hZ : Z.Warmed39 s.vm) (eT : T.heap = h) {a : Addr} {k : ClassId} {n : Int32} {vs : List Value} {d : Value} (V : Arv Z h a k .byte n vs d) {j x : Int32} (hj : ¬ j < 0 ∧ j < n) (hv : vs.getD j.toNatClampNeg d = .int x)
    {g : JFrame} (hg : g.method = m) {rest : List Value} (hs : g.stack = .int j :: .ref a :: rest) (hd : decode c.code g.pc = .ok (.baload, 1)) :
    ∀ t, Steps p.tables e below (T.setTop { g with pc := g.pc + 1, stack := .int x :: rest }) t → Steps p.tables e below (T.setTop g) t := by
  obtain ⟨cl, A, q, H⟩ := own_ix V hj
  exact X.baloadBytes hx (j := j) (v := .int x) (by rw [eT]; exact A.1) (State.isArrayOf_alike hZ.alike A.2.1) A.2.2 q (hv ▸ H) hg hs hd
theorem own_ldJ (X : Stand p l e R s m args below meth c T locs cells slots) (hx : p.tables.exec = Jvm.exec) (hZ : Z.Warmed39 s.vm) (eT : T.heap = h) {a : Addr} {k : ClassId} {n : Int32} {vs : List Value} {d : Value} (V : Arv Z h a k .long n vs d) {j : Int32} {x : Int64} (hj : ¬ j < 0 ∧ j < n) (hv : vs.getD j.toNatClampNeg d = .long x)
    {g : JFrame} (hg : g.method = m) {rest : List Value} (hs : g.stack = .int j :: .ref a :: rest) (hd : decode c.code g.pc = .ok (.laload, 1)) :
    ∀ t, Steps p.tables e below (T.setTop { g with pc := g.pc + 1, stack := .long x :: rest }) t → Steps p.tables e below (T.setTop g) t := by
  obtain ⟨cl, A, q, H⟩ := own_ix V hj
  exact X.laload hx (j := j) (v := .long x) (by rw [eT]; exact A.1) (State.isArrayOf_alike hZ.alike A.2.1) A.2.2 q (hv ▸ H) hg hs hd
theorem own_stI (X : Stand p l e R s m args below meth c T locs cells slots) (hx : p.tables.exec = Jvm.exec) (hZ : Z.Warmed39 s.vm) (eT : T.heap = h) {a : Addr} {k : ClassId} {n : Int32} {vs : List Value} {d : Value} (V : Arv Z h a k .int n vs d) {j x : Int32} (hj : ¬ j < 0 ∧ j < n) (hl : j.toNatClampNeg < vs.length)
    {g : JFrame} (hg : g.method = m) {rest : List Value} (hs : g.stack = .int x :: .int j :: .ref a :: rest) (hd : decode c.code g.pc = .ok (.iastore, 1)) :
    ∃ T' h', Stand p l e R s m args below meth c T' (locs ++ [⟨a, j.toNatClampNeg⟩]) cells slots ∧ T'.heap = h' ∧ Wr h h' a j.toNatClampNeg (.int x) ∧ Arv Z h' a k .int n (vs.set j.toNatClampNeg (.int x)) d ∧ ∀ t, Steps p.tables e below (T'.setTop { g with pc := g.pc + 1, stack := rest }) t → Steps p.tables e below (T.setTop g) t := by
  obtain ⟨cl, A, q1, S, N, H, G⟩ := V
  obtain ⟨T', h', X', e', W, st⟩ := stI X hx hZ eT A (j := j) (inb_of S hj) hg hs hd
  exact ⟨T', h', X', e', W, Arv.set A q1 S N H G rfl W _ rfl hl, st⟩
theorem own_stJ (X : Stand p l e R s m args below meth c T locs cells slots) (hx : p.tables.exec = Jvm.exec) (hZ : Z.Warmed39 s.vm) (eT : T.heap = h) {a : Addr} {k : ClassId} {n : Int32} {vs : List Value} {d : Value} (V : Arv Z h a k .long n vs d) {j : Int32} {x : Int64} (hj : ¬ j < 0 ∧ j < n) (hl : j.toNatClampNeg < vs.length)
    {g : JFrame} (hg : g.method = m) {rest : List Value} (hs : g.stack = .long x :: .int j :: .ref a :: rest) (hd : decode c.code g.pc = .ok (.lastore, 1)) :
    ∃ T' h', Stand p l e R s m args below meth c T' (locs ++ [⟨a, j.toNatClampNeg⟩]) cells slots ∧ T'.heap = h' ∧ Wr h h' a j.toNatClampNeg (.long x) ∧ Arv Z h' a k .long n (vs.set j.toNatClampNeg (.long x)) d ∧ ∀ t, Steps p.tables e below (T'.setTop { g with pc := g.pc + 1, stack := rest }) t → Steps p.tables e below (T.setTop g) t := by
  obtain ⟨cl, A, q1, S, N, H, G⟩ := V
  obtain ⟨T', h', X', e', W, st⟩ := stJ X hx hZ eT A (j := j) (inb_of S hj) hg hs hd
  exact ⟨T', h', X', e', W, Arv.set A q1 S N H G rfl W _ rfl hl, st⟩
theorem own_stB (X : Stand p l e R s m args below meth c T locs cells slots) (hx : p.tables.exec = Jvm.exec) (hZ : Z.Warmed39 s.vm) (eT : T.heap = h) {a : Addr} {k : ClassId} {n : Int32} {vs : List Value} {d : Value} (V : Arv Z h a k .byte n vs d) {j x x' : Int32} (hj : ¬ j < 0 ∧ j < n) (hl : j.toNatClampNeg < vs.length) (hn : x.toInt8.toInt32 = x')
    {g : JFrame} (hg : g.method = m) {rest : List Value} (hs : g.stack = .int x :: .int j :: .ref a :: rest) (hd : decode c.code g.pc = .ok (.bastore, 1)) :
    ∃ T' h', Stand p l e R s m args below meth c T' (locs ++ [⟨a, j.toNatClampNeg⟩]) cells slots ∧ T'.heap = h' ∧ Wr h h' a j.toNatClampNeg (.int x') ∧ Arv Z h' a k .byte n (vs.set j.toNatClampNeg (.int x')) d ∧ ∀ t, Steps p.tables e below (T'.setTop { g with pc := g.pc + 1, stack := rest }) t → Steps p.tables e below (T.setTop g) t := by
  subst hn
  obtain ⟨cl, A, q1, S, N, H, G⟩ := V
  obtain ⟨T', h', X', e', W, st⟩ := stB X hx hZ eT A (j := j) (inb_of S hj) hg hs hd
  exact ⟨T', h', X', e', W, Arv.set A q1 S N H G (fits_nar_byte _) W _ rfl hl, st⟩
theorem own_ldR (X : Stand p l e R s m args below meth c T locs cells slots) (hx : p.tables.exec = Jvm.exec) (hZ : Z.Warmed39 s.vm) (eT : T.heap = h) {a : Addr} {k : ClassId} {ty : FieldType} {n : Int32} {vs : List Value} {d : Value} (V : Arv Z h a k ty n vs d) (hty : ty.isReference = true) {j : Int32} {v : Value} (hj : ¬ j < 0 ∧ j < n) (hv : vs.getD j.toNatClampNeg d = v)
    {g : JFrame} (hg : g.method = m) {rest : List Value} (hs : g.stack = .int j :: .ref a :: rest) (hd : decode c.code g.pc = .ok (.aaload, 1)) :
    ∀ t, Steps p.tables e below (T.setTop { g with pc := g.pc + 1, stack := v :: rest }) t → Steps p.tables e below (T.setTop g) t := by
  obtain ⟨cl, A, q, H⟩ := own_ix V hj
  exact X.aaload hx (j := j) (v := v) (by rw [eT]; exact A.1) (State.isArrayOf_alike hZ.alike A.2.1) hty A.2.2 q (hv ▸ H) hg hs hd
theorem own_stR (X : Stand p l e R s m args below meth c T locs cells slots) (hx : p.tables.exec = Jvm.exec) (hZ : Z.Warmed39 s.vm) (eT : T.heap = h) {a : Addr} {k : ClassId} {ty : FieldType} {n : Int32} {vs : List Value} {d : Value} (V : Arv Z h a k ty n vs d) (hty : ty.isReference = true) {v : Value} (F : ∀ cl : Cell, Arr Z h a cl ty → cl.cls = k → Sto Z h a v) (hf : fits ty v = true) {j : Int32} (hj : ¬ j < 0 ∧ j < n) (hl : j.toNatClampNeg < vs.length)
    {g : JFrame} (hg : g.method = m) {rest : List Value} (hs : g.stack = v :: .int j :: .ref a :: rest) (hd : decode c.code g.pc = .ok (.aastore, 1)) :
    ∃ T' h', Stand p l e R s m args below meth c T' (locs ++ [⟨a, j.toNatClampNeg⟩]) cells slots ∧ T'.heap = h' ∧ Wr h h' a j.toNatClampNeg v ∧ Arv Z h' a k ty n (vs.set j.toNatClampNeg v) d ∧ ∀ t, Steps p.tables e below (T'.setTop { g with pc := g.pc + 1, stack := rest }) t → Steps p.tables e below (T.setTop g) t := by
  obtain ⟨cl, A, q1, S, N, H, G⟩ := V
  obtain ⟨T', h', X', e', W, st⟩ := stR X hx hZ eT A (j := j) (inb_of S hj) hty (F cl A q1) hg hs hd
  exact ⟨T', h', X', e', W, Arv.set A q1 S N H G hf W _ rfl hl, st⟩
/-! booleans -/
def own_b (P : Prop) [Decidable P] : Int32 := if P then 1 else 0
theorem own_bt {P : Prop} [Decidable P] (q : P) : own_b P = 1 := if_pos q
theorem own_bf {P : Prop} [Decidable P] (q : ¬ P) : own_b P = 0 := if_neg q
theorem own_bnar {P : Prop} [Decidable P] : nar .boolean (own_b P) = own_b P := by
  by_cases q : P
  · rw [own_bt q]; decide
  · rw [own_bf q]; decide
theorem own_bnw {P : Prop} [Decidable P] : narrow .boolean (.int (own_b P)) = .int (own_b P) := congrArg Value.int (own_bnar (P := P))
theorem own_by {P : Prop} [Decidable P] (q : P) : ifCond.holds .ne (own_b P) = true ∧ ifCond.holds .eq (own_b P) = false := by rw [own_bt q]; decide
theorem own_bn {P : Prop} [Decidable P] (q : ¬ P) : ifCond.holds .eq (own_b P) = true ∧ ifCond.holds .ne (own_b P) = false := by rw [own_bf q]; decide
theorem own_beq {P P' : Prop} [Decidable P] [Decidable P'] (q : P ↔ P') : own_b P = own_b P' := by
  by_cases r : P
  · rw [own_bt r, own_bt (q.mp r)]
  · rw [own_bf r, own_bf fun x => r (q.mpr x)]
end OwnKit

theorem own_it {n : Nat} (h : n < 2 ^ 31) : n.toInt32.toInt = n := len_toInt h
def own_h (v : Int64) : Nat := (((((v * (-7046029254386353131 : Int64)).toUInt64 >>> ((32 : Int32) &&& 0x3f).toInt64.toUInt64).toInt64).toInt32) &&& (15 : Int32)).toNatClampNeg
theorem own_and15 (y : Int32) : (y &&& (15 : Int32)) = (y &&& (15 : Int32)).toNatClampNeg.toInt32 ∧ (y &&& (15 : Int32)).toNatClampNeg < 16 := by
  have m := c_mask y 15 4 (by decide) (by decide)
  have b := back32 (n := y &&& (15 : Int32)) (by rw [Int32.lt_iff_toInt_lt, show (0 : Int32).toInt = 0 from by decide]; omega)
  refine ⟨b.1.symm, ?_⟩
  have := own_it b.2
  rw [b.1] at this
  omega
theorem own_hh (v : Int64) : (((((v * (-7046029254386353131 : Int64)).toUInt64 >>> ((32 : Int32) &&& 0x3f).toInt64.toUInt64).toInt64).toInt32) &&& (15 : Int32)) = (own_h v).toInt32 ∧ own_h v < 16 := own_and15 _
theorem own_nx {s : Nat} (h : s < 16) : ((s.toInt32 + (1 : Int32)) &&& (15 : Int32)) = ((s + 1) % 16).toInt32 := by
  have m := c_mask (s.toInt32 + (1 : Int32)) 15 4 (by decide) (by decide)
  have a := c_iadd s.toInt32 1
  have l : (1 : Int32).toInt = 1 := by decide
  have b := own_it (n := s) (by omega)
  have d := own_it (n := (s + 1) % 16) (by omega)
  rw [← Int32.toInt_inj]
  omega
theorem own_sx {s : Nat} (h : s < 16) : (¬ s.toInt32 < 0 ∧ s.toInt32 < (16 : Int32)) ∧ s.toInt32.toNatClampNeg = s := by
  have b := own_it (n := s) (by omega)
  have l : (16 : Int32).toInt = 16 := by decide
  have z : (0 : Int32).toInt = 0 := by decide
  refine ⟨⟨?_, ?_⟩, ?_⟩
  · rw [Int32.lt_iff_toInt_lt]; omega
  · rw [Int32.lt_iff_toInt_lt]; omega
  · rw [Int32.toNatClampNeg, b]; rfl
theorem own_gd (T : List Int64) (i : Nat) : (T.map Value.long).getD i (.long 0) = .long (T.getD i 0) := by
  induction T generalizing i with
  | nil => rfl
  | cons d ds ih => cases i with
    | zero => rfl
    | succ i => exact ih i
theorem own_mset (T : List Int64) (i : Nat) (v : Int64) : (T.map Value.long).set i (.long v) = (T.set i v).map Value.long := by
  induction T generalizing i with
  | nil => rfl
  | cons d ds ih => cases i with
    | zero => rfl
    | succ i => exact congrArg (List.cons _) (ih i)
theorem own_gset (T : List Int64) (p i : Nat) (v : Int64) (h : p < T.length) : (T.set p v).getD i 0 = if i = p then v else T.getD i 0 := by
  induction T generalizing p i with
  | nil => exact absurd h (by simp)
  | cons d ds ih => cases p with
    | zero => cases i with
      | zero => rfl
      | succ i => rfl
    | succ p => cases i with
      | zero => rfl
      | succ i =>
        have := ih p i (by simpa using h)
        simpa using this
def own_pl (T : List Int64) (v : Int64) : Nat → Nat → Option Nat
  | 0, _ => none
  | f + 1, s => if T.getD s 0 = 0 ∨ T.getD s 0 = v then some s else own_pl T v f ((s + 1) % 16)
theorem own_pl_hit {T : List Int64} {v : Int64} : ∀ {f s r : Nat}, own_pl T v f s = some r → s < 16 → r < 16 ∧ (T.getD r 0 = 0 ∨ T.getD r 0 = v)
  | 0, _, _, h, _ => by simp [own_pl] at h
  | f + 1, s, r, h, hs => by
    simp only [own_pl] at h
    by_cases q : T.getD s 0 = 0 ∨ T.getD s 0 = v
    · rw [if_pos q] at h
      cases h
      exact ⟨hs, q⟩
    · rw [if_neg q] at h
      exact own_pl_hit h (by omega)
theorem own_pl_set {T : List Int64} {v w : Int64} {p : Nat} (hp : p < T.length) (h0 : T.getD p 0 = 0) (hv : v ≠ 0) : ∀ {f s r : Nat}, own_pl T v f s = some r → T.getD r 0 = v → own_pl (T.set p w) v f s = some r
  | 0, _, _, h, _ => by simp [own_pl] at h
  | f + 1, s, r, h, hr => by
    simp only [own_pl] at h ⊢
    rw [own_gset _ _ _ _ hp]
    by_cases q : T.getD s 0 = 0 ∨ T.getD s 0 = v
    · rw [if_pos q] at h
      cases h
      have ns : s ≠ p := fun e => hv (by rw [← hr, e, h0])
      rw [if_neg ns, if_pos q]
    · rw [if_neg q] at h
      have ns : s ≠ p := fun e => q (Or.inl (by rw [e, h0]))
      rw [if_neg ns, if_neg q]
      exact own_pl_set hp h0 hv h hr
theorem own_pl_self {T : List Int64} {w : Int64} {p : Nat} (hp : p < T.length) (h0 : T.getD p 0 = 0) : ∀ {f s : Nat}, own_pl T w f s = some p → own_pl (T.set p w) w f s = some p
  | 0, _, h => by simp [own_pl] at h
  | f + 1, s, h => by
    simp only [own_pl] at h ⊢
    rw [own_gset _ _ _ _ hp]
    by_cases q : T.getD s 0 = 0 ∨ T.getD s 0 = w
    · rw [if_pos q] at h
      cases h
      rw [if_pos rfl, if_pos (Or.inr rfl)]
    · rw [if_neg q] at h
      have ns : s ≠ p := fun e => q (Or.inl (by rw [e, h0]))
      rw [if_neg ns, if_neg q]
      exact own_pl_self hp h0 h
def own_Sup (T : List Int64) (q : Nat) : Prop := ∃ ps : List Nat, ps.length ≤ q ∧ ∀ i, T.getD i 0 ≠ 0 → i ∈ ps
theorem own_pl_some {T : List Int64} {v : Int64} {q s : Nat} (h : own_Sup T q) (hq : q ≤ 3) (hs : s < 16) : ∃ r, own_pl T v 4 s = some r := by
  obtain ⟨ps, hl, hp⟩ := h
  by_cases z0 : T.getD s 0 = 0
  · exact ⟨_, by simp only [own_pl]; rw [if_pos (Or.inl z0)]⟩
  by_cases z1 : T.getD ((s + 1) % 16) 0 = 0
  · by_cases y0 : T.getD s 0 = v
    · exact ⟨_, by simp only [own_pl]; rw [if_pos (Or.inr y0)]⟩
    · exact ⟨_, by simp only [own_pl]; rw [if_neg (fun q => q.elim z0 y0), if_pos (Or.inl z1)]⟩
  by_cases z2 : T.getD (((s + 1) % 16 + 1) % 16) 0 = 0
  · by_cases y0 : T.getD s 0 = v
    · exact ⟨_, by simp only [own_pl]; rw [if_pos (Or.inr y0)]⟩
    · by_cases y1 : T.getD ((s + 1) % 16) 0 = v
      · exact ⟨_, by simp only [own_pl]; rw [if_neg (fun q => q.elim z0 y0), if_pos (Or.inr y1)]⟩
      · exact ⟨_, by simp only [own_pl]; rw [if_neg (fun q => q.elim z0 y0), if_neg (fun q => q.elim z1 y1), if_pos (Or.inl z2)]⟩
  by_cases z3 : T.getD ((((s + 1) % 16 + 1) % 16 + 1) % 16) 0 = 0
  · by_cases y0 : T.getD s 0 = v
    · exact ⟨_, by simp only [own_pl]; rw [if_pos (Or.inr y0)]⟩
    · by_cases y1 : T.getD ((s + 1) % 16) 0 = v
      · exact ⟨_, by simp only [own_pl]; rw [if_neg (fun q => q.elim z0 y0), if_pos (Or.inr y1)]⟩
      · by_cases y2 : T.getD (((s + 1) % 16 + 1) % 16) 0 = v
        · exact ⟨_, by simp only [own_pl]; rw [if_neg (fun q => q.elim z0 y0), if_neg (fun q => q.elim z1 y1), if_pos (Or.inr y2)]⟩
        · exact ⟨_, by simp only [own_pl]; rw [if_neg (fun q => q.elim z0 y0), if_neg (fun q => q.elim z1 y1), if_neg (fun q => q.elim z2 y2), if_pos (Or.inl z3)]⟩
  exfalso
  have a0 := hp _ z0
  have a1 := hp _ z1
  have a2 := hp _ z2
  have a3 := hp _ z3
  match ps, hl with
  | [], _ => exact absurd a0 (by simp)
  | [x], _ => simp only [List.mem_cons, List.not_mem_nil, or_false] at a0 a1; omega
  | [x, y], _ => simp only [List.mem_cons, List.not_mem_nil, or_false] at a0 a1 a2; omega
  | [x, y, w], _ => simp only [List.mem_cons, List.not_mem_nil, or_false] at a0 a1 a2 a3; omega
  | _ :: _ :: _ :: _ :: _, hl => simp only [List.length_cons] at hl; omega
def own_Inv (T : List Int64) (S : Int64 → Prop) (cnt z : Int32) (n : Nat) : Prop :=
  T.length = 16 ∧ (∃ q : Nat, q ≤ n ∧ cnt = q.toInt32 ∧ own_Sup T q) ∧ (∀ v, v ≠ 0 → ((∃ i, T.getD i 0 = v) ↔ S v)) ∧ (∀ v, v ≠ 0 → S v → ∃ s, own_pl T v 4 (own_h v) = some s ∧ T.getD s 0 = v) ∧ ((z = 1 ∧ S 0) ∨ (z = 0 ∧ ¬ S 0))
theorem own_I_zero {T : List Int64} {S : Int64 → Prop} {cnt z : Int32} {n : Nat} {v : Int64} (I : own_Inv T S cnt z n) (hv : v = 0) : own_Inv T (fun x => S x ∨ x = v) cnt 1 (n + 1) := by
  obtain ⟨h1, ⟨q, h2, h3, h4⟩, h5, h6, h7⟩ := I
  subst hv
  refine ⟨h1, ⟨q, by omega, h3, h4⟩, fun w hw => (h5 w hw).trans ⟨Or.inl, fun e => e.resolve_right hw⟩, fun w hw e => h6 w hw (e.resolve_right hw), Or.inl ⟨rfl, Or.inr rfl⟩⟩
theorem own_I_same {T : List Int64} {S : Int64 → Prop} {cnt z : Int32} {n s : Nat} {v : Int64} (I : own_Inv T S cnt z n) (hv : v ≠ 0) (hs : T.getD s 0 = v) : own_Inv T (fun x => S x ∨ x = v) cnt z (n + 1) := by
  obtain ⟨h1, ⟨q, h2, h3, h4⟩, h5, h6, h7⟩ := I
  have hS : S v := (h5 v hv).mp ⟨s, hs⟩
  have e : ∀ x, (S x ∨ x = v) ↔ S x := fun x => ⟨fun y => y.elim id fun y => y ▸ hS, Or.inl⟩
  refine ⟨h1, ⟨q, by omega, h3, h4⟩, fun w hw => (h5 w hw).trans (e w).symm, fun w hw y => h6 w hw ((e w).mp y), h7.imp (fun y => ⟨y.1, Or.inl y.2⟩) (fun y => ⟨y.1, fun x => y.2 ((e 0).mp x)⟩)⟩
theorem own_I_new {T : List Int64} {S : Int64 → Prop} {cnt z : Int32} {n s : Nat} {v : Int64} (I : own_Inv T S cnt z n) (hn : n ≤ 2) (hv : v ≠ 0) (hp : own_pl T v 4 (own_h v) = some s) (hs : ¬ T.getD s 0 = v) : own_Inv (T.set s v) (fun x => S x ∨ x = v) (cnt + 1) z (n + 1) := by
  obtain ⟨h1, ⟨q, h2, h3, ps, h4, h4'⟩, h5, h6, h7⟩ := I
  obtain ⟨g1, g2⟩ := own_pl_hit hp (own_hh v).2
  have g0 : T.getD s 0 = 0 := g2.resolve_right hs
  have gl : s < T.length := by omega
  have nS : ¬ S v := fun y => by
    obtain ⟨r, e1, e2⟩ := h6 v hv y
    rw [hp] at e1
    cases e1
    exact hs e2
  refine ⟨by simpa using h1, ⟨q + 1, by omega, ?_, s :: ps, by simpa using h4, fun i hi => ?_⟩, fun w hw => ⟨fun ⟨i, hi⟩ => ?_, fun y => ?_⟩, fun w hw y => ?_, ?_⟩
  · rw [h3, ← Int32.toInt_inj]
    have a := c_iadd q.toInt32 1
    have b := own_it (n := q) (by omega)
    have d := own_it (n := q + 1) (by omega)
    have l : (1 : Int32).toInt = 1 := by decide
    have r := rng32 (q.toInt32 + 1)
    omega
  · rw [own_gset _ _ _ _ gl] at hi
    by_cases e : i = s
    · subst e; exact List.mem_cons_self ..
    · rw [if_neg e] at hi; exact List.mem_cons_of_mem _ (h4' i hi)
  · rw [own_gset _ _ _ _ gl] at hi
    by_cases e : i = s
    · rw [if_pos e] at hi; exact Or.inr hi.symm
    · rw [if_neg e] at hi; exact Or.inl ((h5 w hw).mp ⟨i, hi⟩)
  · rcases y with y | y
    · obtain ⟨i, hi⟩ := (h5 w hw).mpr y
      refine ⟨i, ?_⟩
      rw [own_gset _ _ _ _ gl, if_neg (fun e => hw (by rw [← hi, e, g0]))]
      exact hi
    · exact ⟨s, by rw [own_gset _ _ _ _ gl, if_pos rfl, y]⟩
  · rcases y with y | y
    · obtain ⟨r, e1, e2⟩ := h6 w hw y
      exact ⟨r, own_pl_set gl g0 hw e1 e2, by rw [own_gset _ _ _ _ gl, if_neg (fun e => hw (by rw [← e2, e, g0]))]; exact e2⟩
    · subst y
      exact ⟨s, own_pl_self gl g0 hp, by rw [own_gset _ _ _ _ gl, if_pos rfl]⟩
  · exact h7.imp (fun y => ⟨y.1, Or.inl y.2⟩) (fun y => ⟨y.1, fun x => x.elim y.2 fun e => hv e.symm⟩)
theorem own_I_empty {T : List Int64} (h1 : T.length = 16) (h : ∀ i, T.getD i 0 = 0) : own_Inv T (fun _ => False) 0 0 0 :=
  ⟨h1, ⟨0, Nat.le_refl _, rfl, [], Nat.le_refl _, fun i hi => absurd (h i) hi⟩, fun v hv => ⟨fun ⟨i, hi⟩ => hv (by rw [← hi, h]), False.elim⟩, fun _ _ y => y.elim, Or.inr ⟨rfl, id⟩⟩
theorem own_repN (n i : Nat) : (List.replicate n (0 : Int64)).getD i 0 = 0 := by
  induction n generalizing i with
  | zero => rfl
  | succ n ih => cases i with
    | zero => rfl
    | succ i => exact ih i
theorem own_rep (i : Nat) : (List.replicate 16 (0 : Int64)).getD i 0 = 0 := own_repN 16 i
def own_Set (Z : State) (n0 : Nat) (h : Heap) (b : Addr) (S : Int64 → Prop) (n : Nat) : Prop :=
  ∃ (tb : Addr) (k : ClassId) (T : List Int64) (cnt z : Int32), Exa Z h b "com/example/phonomark/phonomark/LongSet" ∧ Fld Z h b "com/example/phonomark/phonomark/LongSet" "table" "[J" (.ref tb) ∧ Fld Z h b "com/example/phonomark/phonomark/LongSet" "count" "I" (.int cnt) ∧ Fld Z h b "com/example/phonomark/phonomark/LongSet" "holdsZero" "Z" (.int z) ∧ Arv Z h tb k .long (16 : Int32) (T.map Value.long) (.long (0 : Int64)) ∧ n0 ≤ b ∧ n0 ≤ tb ∧ b ≠ tb ∧ own_Inv T S cnt z n
theorem own_SetE {Z : State} {n0 : Nat} {h : Heap} {b : Addr} {S : Int64 → Prop} {n : Nat} (H : own_Set Z n0 h b S n) : Exa Z h b "com/example/phonomark/phonomark/LongSet" ∧ n0 ≤ h.size := by
  obtain ⟨tb, k, T, cnt, z, E, -, -, -, -, g, -⟩ := H
  exact ⟨E, Nat.le_trans g (Nat.le_of_lt E.lt)⟩
theorem own_SetC {Z : State} {n0 : Nat} {h : Heap} {b : Addr} {S S' : Int64 → Prop} {n n' : Nat} (H : own_Set Z n0 h b S n) (hn : n ≤ n') (hS : ∀ x, S x ↔ S' x) : own_Set Z n0 h b S' n' := by
  obtain rfl : S = S' := funext fun x => propext (hS x)
  obtain ⟨tb, k, T, cnt, z, E, F1, F2, F3, V, g, g', ne, h1, ⟨q, h2, h3⟩, r⟩ := H
  exact ⟨tb, k, T, cnt, z, E, F1, F2, F3, V, g, g', ne, h1, ⟨q, by omega, h3⟩, r⟩
theorem own_cnt {T : List Int64} {S : Int64 → Prop} {cnt z : Int32} {n : Nat} (I : own_Inv T S cnt z n) (hn : n ≤ 2) : ¬ (16 : Int32) < (cnt + 1) * 2 := by
  obtain ⟨-, ⟨q, h2, h3, -⟩, -⟩ := I
  have : q = 0 ∨ q = 1 ∨ q = 2 := by omega
  rw [h3]
  rcases this with rfl | rfl | rfl <;> decide
theorem own_cnt0 {T : List Int64} {S : Int64 → Prop} {cnt z : Int32} {n : Nat} (I : own_Inv T S cnt z n) (hn : n ≤ 3) (hc : ¬ 0 < cnt) : ∀ i, T.getD i 0 = 0 := by
  obtain ⟨-, ⟨q, h2, h3, ps, h4, h5⟩, -⟩ := I
  have hq : q = 0 := by
    rw [h3, Int32.lt_iff_toInt_lt, own_it (by omega), show (0 : Int32).toInt = 0 from by decide] at hc
    omega
  subst hq
  intro i
  cases ps with
  | nil =>
    by_cases e : T.getD i 0 = 0
    · exact e
    · exact absurd (h5 i e) (by simp)
  | cons _ _ => simp at h4
theorem own_z01 {T : List Int64} {S : Int64 → Prop} {cnt z : Int32} {n : Nat} (I : own_Inv T S cnt z n) : nar .boolean z = z := by
  rcases I.2.2.2.2 with ⟨rfl, -⟩ | ⟨rfl, -⟩ <;> decide
theorem own_16 {T : List Int64} (h : T.length = 16) : ∃ t0 t1 t2 t3 t4 t5 t6 t7 t8 t9 t10 t11 t12 t13 t14 t15 : Int64, T = [t0, t1, t2, t3, t4, t5, t6, t7, t8, t9, t10, t11, t12, t13, t14, t15] := by
  match T, h with
  | [t0, t1, t2, t3, t4, t5, t6, t7, t8, t9, t10, t11, t12, t13, t14, t15], _ => exact ⟨t0, t1, t2, t3, t4, t5, t6, t7, t8, t9, t10, t11, t12, t13, t14, t15, rfl⟩
theorem own_r {r : Int32} {P Q : Prop} [Decidable Q] (h : (r = 1 ∧ P) ∨ (r = 0 ∧ ¬ P)) (e : P ↔ Q) : r = own_b Q := by
  rcases h with ⟨rfl, q⟩ | ⟨rfl, q⟩
  · rw [own_bt (e.mp q)]
  · rw [own_bf fun y => q (e.mpr y)]
theorem d1_0 : decode prog_28_method_1_code 0 = .ok (.aload_n 0, 1) := by decide +kernel
theorem d1_1 : decode prog_28_method_1_code 1 = .ok (.invokespecial 1, 3) := by decide +kernel
theorem d1_4 : decode prog_28_method_1_code 4 = .ok (.aload_n 0, 1) := by decide +kernel
theorem d1_5 : decode prog_28_method_1_code 5 = .ok (.bipush 16, 2) := by decide +kernel
theorem d1_7 : decode prog_28_method_1_code 7 = .ok (.newarray .long, 2) := by decide +kernel
theorem d1_9 : decode prog_28_method_1_code 9 = .ok (.putfield 9, 3) := by decide +kernel
theorem d1_12 : decode prog_28_method_1_code 12 = .ok (.return_, 1) := by decide +kernel
theorem pf1 : plainFor (⟨"com/example/phonomark/phonomark/LongSet", "<init>", "()V"⟩ : MethodName) = true := by first | (exact plainFor_of_name (by first | (simp [plainName, overriddenIn]; done) | decide +kernel)) | decide +kernel
theorem d3_0 : decode prog_28_method_2_code 0 = .ok (.lload_n 1, 1) := by decide +kernel
theorem d3_1 : decode prog_28_method_2_code 1 = .ok (.lconst 0, 1) := by decide +kernel
theorem d3_2 : decode prog_28_method_2_code 2 = .ok (.lcmp, 1) := by decide +kernel
theorem d3_3 : decode prog_28_method_2_code 3 = .ok (.ifCond .ne 9, 3) := by decide +kernel
theorem d3_6 : decode prog_28_method_2_code 6 = .ok (.aload_n 0, 1) := by decide +kernel
theorem d3_7 : decode prog_28_method_2_code 7 = .ok (.iconst 1, 1) := by decide +kernel
theorem d3_8 : decode prog_28_method_2_code 8 = .ok (.putfield 13, 3) := by decide +kernel
theorem d3_11 : decode prog_28_method_2_code 11 = .ok (.return_, 1) := by decide +kernel
theorem d3_12 : decode prog_28_method_2_code 12 = .ok (.aload_n 0, 1) := by decide +kernel
theorem d3_13 : decode prog_28_method_2_code 13 = .ok (.getfield 9, 3) := by decide +kernel
theorem d3_16 : decode prog_28_method_2_code 16 = .ok (.lload_n 1, 1) := by decide +kernel
theorem d3_17 : decode prog_28_method_2_code 17 = .ok (.invokestatic 17, 3) := by decide +kernel
theorem d3_20 : decode prog_28_method_2_code 20 = .ok (.istore_n 3, 1) := by decide +kernel
theorem d3_21 : decode prog_28_method_2_code 21 = .ok (.aload_n 0, 1) := by decide +kernel
theorem d3_22 : decode prog_28_method_2_code 22 = .ok (.getfield 9, 3) := by decide +kernel
theorem d3_25 : decode prog_28_method_2_code 25 = .ok (.iload_n 3, 1) := by decide +kernel
theorem d3_26 : decode prog_28_method_2_code 26 = .ok (.laload, 1) := by decide +kernel
theorem d3_27 : decode prog_28_method_2_code 27 = .ok (.lload_n 1, 1) := by decide +kernel
theorem d3_28 : decode prog_28_method_2_code 28 = .ok (.lcmp, 1) := by decide +kernel
theorem d3_29 : decode prog_28_method_2_code 29 = .ok (.ifCond .ne 4, 3) := by decide +kernel
theorem d3_32 : decode prog_28_method_2_code 32 = .ok (.return_, 1) := by decide +kernel
theorem d3_33 : decode prog_28_method_2_code 33 = .ok (.aload_n 0, 1) := by decide +kernel
theorem d3_34 : decode prog_28_method_2_code 34 = .ok (.getfield 9, 3) := by decide +kernel
theorem d3_37 : decode prog_28_method_2_code 37 = .ok (.iload_n 3, 1) := by decide +kernel
theorem d3_38 : decode prog_28_method_2_code 38 = .ok (.lload_n 1, 1) := by decide +kernel
theorem d3_39 : decode prog_28_method_2_code 39 = .ok (.lastore, 1) := by decide +kernel
theorem d3_40 : decode prog_28_method_2_code 40 = .ok (.aload_n 0, 1) := by decide +kernel
theorem d3_41 : decode prog_28_method_2_code 41 = .ok (.dup, 1) := by decide +kernel
theorem d3_42 : decode prog_28_method_2_code 42 = .ok (.getfield 21, 3) := by decide +kernel
theorem d3_45 : decode prog_28_method_2_code 45 = .ok (.iconst 1, 1) := by decide +kernel
theorem d3_46 : decode prog_28_method_2_code 46 = .ok (.iadd, 1) := by decide +kernel
theorem d3_47 : decode prog_28_method_2_code 47 = .ok (.putfield 21, 3) := by decide +kernel
theorem d3_50 : decode prog_28_method_2_code 50 = .ok (.aload_n 0, 1) := by decide +kernel
theorem d3_51 : decode prog_28_method_2_code 51 = .ok (.getfield 21, 3) := by decide +kernel
theorem d3_54 : decode prog_28_method_2_code 54 = .ok (.iconst 2, 1) := by decide +kernel
theorem d3_55 : decode prog_28_method_2_code 55 = .ok (.imul, 1) := by decide +kernel
theorem d3_56 : decode prog_28_method_2_code 56 = .ok (.aload_n 0, 1) := by decide +kernel
theorem d3_57 : decode prog_28_method_2_code 57 = .ok (.getfield 9, 3) := by decide +kernel
theorem d3_60 : decode prog_28_method_2_code 60 = .ok (.arraylength, 1) := by decide +kernel
theorem d3_61 : decode prog_28_method_2_code 61 = .ok (.if_icmp .le 7, 3) := by decide +kernel
theorem d3_64 : decode prog_28_method_2_code 64 = .ok (.aload_n 0, 1) := by decide +kernel
theorem d3_65 : decode prog_28_method_2_code 65 = .ok (.invokevirtual 25, 3) := by decide +kernel
theorem d3_68 : decode prog_28_method_2_code 68 = .ok (.return_, 1) := by decide +kernel
theorem pf3 : plainFor (⟨"com/example/phonomark/phonomark/LongSet", "add", "(J)V"⟩ : MethodName) = true := by first | (exact plainFor_of_name (by first | (simp [plainName, overriddenIn]; done) | decide +kernel)) | decide +kernel
theorem d4_0 : decode prog_28_method_6_code 0 = .ok (.aload_n 0, 1) := by decide +kernel
theorem d4_1 : decode prog_28_method_6_code 1 = .ok (.arraylength, 1) := by decide +kernel
theorem d4_2 : decode prog_28_method_6_code 2 = .ok (.iconst 1, 1) := by decide +kernel
theorem d4_3 : decode prog_28_method_6_code 3 = .ok (.isub, 1) := by decide +kernel
theorem d4_4 : decode prog_28_method_6_code 4 = .ok (.istore_n 3, 1) := by decide +kernel
theorem d4_5 : decode prog_28_method_6_code 5 = .ok (.lload_n 1, 1) := by decide +kernel
theorem d4_6 : decode prog_28_method_6_code 6 = .ok (.ldc2_w 34, 3) := by decide +kernel
theorem d4_9 : decode prog_28_method_6_code 9 = .ok (.lmul, 1) := by decide +kernel
theorem d4_10 : decode prog_28_method_6_code 10 = .ok (.bipush 32, 2) := by decide +kernel
theorem d4_12 : decode prog_28_method_6_code 12 = .ok (.lushr, 1) := by decide +kernel
theorem d4_13 : decode prog_28_method_6_code 13 = .ok (.l2i, 1) := by decide +kernel
theorem d4_14 : decode prog_28_method_6_code 14 = .ok (.iload_n 3, 1) := by decide +kernel
theorem d4_15 : decode prog_28_method_6_code 15 = .ok (.iand, 1) := by decide +kernel
theorem d4_16 : decode prog_28_method_6_code 16 = .ok (.istore 4, 2) := by decide +kernel
theorem d4_18 : decode prog_28_method_6_code 18 = .ok (.aload_n 0, 1) := by decide +kernel
theorem d4_19 : decode prog_28_method_6_code 19 = .ok (.iload 4, 2) := by decide +kernel
theorem d4_21 : decode prog_28_method_6_code 21 = .ok (.laload, 1) := by decide +kernel
theorem d4_22 : decode prog_28_method_6_code 22 = .ok (.lconst 0, 1) := by decide +kernel
theorem d4_23 : decode prog_28_method_6_code 23 = .ok (.lcmp, 1) := by decide +kernel
theorem d4_24 : decode prog_28_method_6_code 24 = .ok (.ifCond .eq 23, 3) := by decide +kernel
theorem d4_27 : decode prog_28_method_6_code 27 = .ok (.aload_n 0, 1) := by decide +kernel
theorem d4_28 : decode prog_28_method_6_code 28 = .ok (.iload 4, 2) := by decide +kernel
theorem d4_30 : decode prog_28_method_6_code 30 = .ok (.laload, 1) := by decide +kernel
theorem d4_31 : decode prog_28_method_6_code 31 = .ok (.lload_n 1, 1) := by decide +kernel
theorem d4_32 : decode prog_28_method_6_code 32 = .ok (.lcmp, 1) := by decide +kernel
theorem d4_33 : decode prog_28_method_6_code 33 = .ok (.ifCond .eq 14, 3) := by decide +kernel
theorem d4_36 : decode prog_28_method_6_code 36 = .ok (.iload 4, 2) := by decide +kernel
theorem d4_38 : decode prog_28_method_6_code 38 = .ok (.iconst 1, 1) := by decide +kernel
theorem d4_39 : decode prog_28_method_6_code 39 = .ok (.iadd, 1) := by decide +kernel
theorem d4_40 : decode prog_28_method_6_code 40 = .ok (.iload_n 3, 1) := by decide +kernel
theorem d4_41 : decode prog_28_method_6_code 41 = .ok (.iand, 1) := by decide +kernel
theorem d4_42 : decode prog_28_method_6_code 42 = .ok (.istore 4, 2) := by decide +kernel
theorem d4_44 : decode prog_28_method_6_code 44 = .ok (.goto (-26), 3) := by decide +kernel
theorem d4_47 : decode prog_28_method_6_code 47 = .ok (.iload 4, 2) := by decide +kernel
theorem d4_49 : decode prog_28_method_6_code 49 = .ok (.ireturn, 1) := by decide +kernel
theorem pf4 : plainFor (⟨"com/example/phonomark/phonomark/LongSet", "place", "([JJ)I"⟩ : MethodName) = true := by first | (exact plainFor_of_name (by first | (simp [plainName, overriddenIn]; done) | decide +kernel)) | decide +kernel
theorem d5_0 : decode prog_28_method_4_code 0 = .ok (.aload_n 0, 1) := by decide +kernel
theorem d5_1 : decode prog_28_method_4_code 1 = .ok (.getfield 9, 3) := by decide +kernel
theorem d5_4 : decode prog_28_method_4_code 4 = .ok (.arraylength, 1) := by decide +kernel
theorem d5_5 : decode prog_28_method_4_code 5 = .ok (.bipush 16, 2) := by decide +kernel
theorem d5_7 : decode prog_28_method_4_code 7 = .ok (.if_icmp .le 14, 3) := by decide +kernel
theorem d5_10 : decode prog_28_method_4_code 10 = .ok (.aload_n 0, 1) := by decide +kernel
theorem d5_11 : decode prog_28_method_4_code 11 = .ok (.bipush 16, 2) := by decide +kernel
theorem d5_13 : decode prog_28_method_4_code 13 = .ok (.newarray .long, 2) := by decide +kernel
theorem d5_15 : decode prog_28_method_4_code 15 = .ok (.putfield 9, 3) := by decide +kernel
theorem d5_18 : decode prog_28_method_4_code 18 = .ok (.goto 18, 3) := by decide +kernel
theorem d5_21 : decode prog_28_method_4_code 21 = .ok (.aload_n 0, 1) := by decide +kernel
theorem d5_22 : decode prog_28_method_4_code 22 = .ok (.getfield 21, 3) := by decide +kernel
theorem d5_25 : decode prog_28_method_4_code 25 = .ok (.ifCond .le 11, 3) := by decide +kernel
theorem d5_28 : decode prog_28_method_4_code 28 = .ok (.aload_n 0, 1) := by decide +kernel
theorem d5_29 : decode prog_28_method_4_code 29 = .ok (.getfield 9, 3) := by decide +kernel
theorem d5_32 : decode prog_28_method_4_code 32 = .ok (.lconst 0, 1) := by decide +kernel
theorem d5_33 : decode prog_28_method_4_code 33 = .ok (.invokestatic 28, 3) := by decide +kernel
theorem d5_36 : decode prog_28_method_4_code 36 = .ok (.aload_n 0, 1) := by decide +kernel
theorem d5_37 : decode prog_28_method_4_code 37 = .ok (.iconst 0, 1) := by decide +kernel
theorem d5_38 : decode prog_28_method_4_code 38 = .ok (.putfield 21, 3) := by decide +kernel
theorem d5_41 : decode prog_28_method_4_code 41 = .ok (.aload_n 0, 1) := by decide +kernel
theorem d5_42 : decode prog_28_method_4_code 42 = .ok (.iconst 0, 1) := by decide +kernel
theorem d5_43 : decode prog_28_method_4_code 43 = .ok (.putfield 13, 3) := by decide +kernel
theorem d5_46 : decode prog_28_method_4_code 46 = .ok (.return_, 1) := by decide +kernel
theorem pf5 : plainFor (⟨"com/example/phonomark/phonomark/LongSet", "clear", "()V"⟩ : MethodName) = true := by first | (exact plainFor_of_name (by first | (simp [plainName, overriddenIn]; done) | decide +kernel)) | decide +kernel
theorem d6_0 : decode jdk_65_method_101_code 0 = .ok (.iconst 0, 1) := by decide +kernel
theorem d6_1 : decode jdk_65_method_101_code 1 = .ok (.istore_n 3, 1) := by decide +kernel
theorem d6_2 : decode jdk_65_method_101_code 2 = .ok (.aload_n 0, 1) := by decide +kernel
theorem d6_3 : decode jdk_65_method_101_code 3 = .ok (.arraylength, 1) := by decide +kernel
theorem d6_4 : decode jdk_65_method_101_code 4 = .ok (.istore 4, 2) := by decide +kernel
theorem d6_6 : decode jdk_65_method_101_code 6 = .ok (.iload_n 3, 1) := by decide +kernel
theorem d6_7 : decode jdk_65_method_101_code 7 = .ok (.iload 4, 2) := by decide +kernel
theorem d6_9 : decode jdk_65_method_101_code 9 = .ok (.if_icmp .ge 13, 3) := by decide +kernel
theorem d6_12 : decode jdk_65_method_101_code 12 = .ok (.aload_n 0, 1) := by decide +kernel
theorem d6_13 : decode jdk_65_method_101_code 13 = .ok (.iload_n 3, 1) := by decide +kernel
theorem d6_14 : decode jdk_65_method_101_code 14 = .ok (.lload_n 1, 1) := by decide +kernel
theorem d6_15 : decode jdk_65_method_101_code 15 = .ok (.lastore, 1) := by decide +kernel
theorem d6_16 : decode jdk_65_method_101_code 16 = .ok (.iinc 3 1, 3) := by decide +kernel
theorem d6_19 : decode jdk_65_method_101_code 19 = .ok (.goto (-13), 3) := by decide +kernel
theorem d6_22 : decode jdk_65_method_101_code 22 = .ok (.return_, 1) := by decide +kernel
theorem pf6 : plainFor (⟨"java/util/Arrays", "fill", "([JJ)V"⟩ : MethodName) = true := by first | (exact plainFor_of_name (by first | (simp [plainName, overriddenIn]; done) | decide +kernel)) | decide +kernel
theorem d7_0 : decode prog_28_method_3_code 0 = .ok (.lload_n 1, 1) := by decide +kernel
theorem d7_1 : decode prog_28_method_3_code 1 = .ok (.lconst 0, 1) := by decide +kernel
theorem d7_2 : decode prog_28_method_3_code 2 = .ok (.lcmp, 1) := by decide +kernel
theorem d7_3 : decode prog_28_method_3_code 3 = .ok (.ifCond .ne 10, 3) := by decide +kernel
theorem d7_6 : decode prog_28_method_3_code 6 = .ok (.aload_n 0, 1) := by decide +kernel
theorem d7_7 : decode prog_28_method_3_code 7 = .ok (.getfield 13, 3) := by decide +kernel
theorem d7_10 : decode prog_28_method_3_code 10 = .ok (.goto 26, 3) := by decide +kernel
theorem d7_13 : decode prog_28_method_3_code 13 = .ok (.aload_n 0, 1) := by decide +kernel
theorem d7_14 : decode prog_28_method_3_code 14 = .ok (.getfield 9, 3) := by decide +kernel
theorem d7_17 : decode prog_28_method_3_code 17 = .ok (.aload_n 0, 1) := by decide +kernel
theorem d7_18 : decode prog_28_method_3_code 18 = .ok (.getfield 9, 3) := by decide +kernel
theorem d7_21 : decode prog_28_method_3_code 21 = .ok (.lload_n 1, 1) := by decide +kernel
theorem d7_22 : decode prog_28_method_3_code 22 = .ok (.invokestatic 17, 3) := by decide +kernel
theorem d7_25 : decode prog_28_method_3_code 25 = .ok (.laload, 1) := by decide +kernel
theorem d7_26 : decode prog_28_method_3_code 26 = .ok (.lload_n 1, 1) := by decide +kernel
theorem d7_27 : decode prog_28_method_3_code 27 = .ok (.lcmp, 1) := by decide +kernel
theorem d7_28 : decode prog_28_method_3_code 28 = .ok (.ifCond .ne 7, 3) := by decide +kernel
theorem d7_31 : decode prog_28_method_3_code 31 = .ok (.iconst 1, 1) := by decide +kernel
theorem d7_32 : decode prog_28_method_3_code 32 = .ok (.goto 4, 3) := by decide +kernel
theorem d7_35 : decode prog_28_method_3_code 35 = .ok (.iconst 0, 1) := by decide +kernel
theorem d7_36 : decode prog_28_method_3_code 36 = .ok (.ireturn, 1) := by decide +kernel
theorem pf7 : plainFor (⟨"com/example/phonomark/phonomark/LongSet", "contains", "(J)Z"⟩ : MethodName) = true := by first | (exact plainFor_of_name (by first | (simp [plainName, overriddenIn]; done) | decide +kernel)) | decide +kernel
theorem d8_0 : decode method_3_code 0 = .ok (.iload 8, 2) := by decide +kernel
theorem d8_2 : decode method_3_code 2 = .ok (.ifCond .eq 9, 3) := by decide +kernel
theorem d8_5 : decode method_3_code 5 = .ok (.lload_n 0, 1) := by decide +kernel
theorem d8_6 : decode method_3_code 6 = .ok (.lload_n 2, 1) := by decide +kernel
theorem d8_7 : decode method_3_code 7 = .ok (.lcmp, 1) := by decide +kernel
theorem d8_8 : decode method_3_code 8 = .ok (.ifCond .eq 27, 3) := by decide +kernel
theorem d8_11 : decode method_3_code 11 = .ok (.iload 9, 2) := by decide +kernel
theorem d8_13 : decode method_3_code 13 = .ok (.ifCond .eq 10, 3) := by decide +kernel
theorem d8_16 : decode method_3_code 16 = .ok (.lload_n 0, 1) := by decide +kernel
theorem d8_17 : decode method_3_code 17 = .ok (.lload 4, 2) := by decide +kernel
theorem d8_19 : decode method_3_code 19 = .ok (.lcmp, 1) := by decide +kernel
theorem d8_20 : decode method_3_code 20 = .ok (.ifCond .eq 15, 3) := by decide +kernel
theorem d8_23 : decode method_3_code 23 = .ok (.iload 10, 2) := by decide +kernel
theorem d8_25 : decode method_3_code 25 = .ok (.ifCond .eq 14, 3) := by decide +kernel
theorem d8_28 : decode method_3_code 28 = .ok (.lload_n 0, 1) := by decide +kernel
theorem d8_29 : decode method_3_code 29 = .ok (.lload 6, 2) := by decide +kernel
theorem d8_31 : decode method_3_code 31 = .ok (.lcmp, 1) := by decide +kernel
theorem d8_32 : decode method_3_code 32 = .ok (.ifCond .ne 7, 3) := by decide +kernel
theorem d8_35 : decode method_3_code 35 = .ok (.iconst 1, 1) := by decide +kernel
theorem d8_36 : decode method_3_code 36 = .ok (.goto 4, 3) := by decide +kernel
theorem d8_39 : decode method_3_code 39 = .ok (.iconst 0, 1) := by decide +kernel
theorem d8_40 : decode method_3_code 40 = .ok (.ireturn, 1) := by decide +kernel
theorem pf8 : plainFor (⟨"com/example/phonomark/phonomark/LongSetContainsPinLaw", "expected", "(JJJJZZZ)Z"⟩ : MethodName) = true := by first | (exact plainFor_of_name (by first | (simp [plainName, overriddenIn]; done) | decide +kernel)) | decide +kernel
theorem pf0 : plainFor x = true := plainFor_of_name (by first | (simp [x, plainName, overriddenIn]; done) | decide +kernel)
theorem pd0 : parseMethodDescriptor "()V" = some ⟨[], none⟩ := by decide +kernel
theorem pd1 : parseMethodDescriptor "(J)V" = some ⟨[.long], none⟩ := by decide +kernel
theorem pd2 : parseMethodDescriptor "([JJ)I" = some ⟨[(.array .long), .long], some .int⟩ := by decide +kernel
theorem pd3 : parseMethodDescriptor "([JJ)V" = some ⟨[(.array .long), .long], none⟩ := by decide +kernel
theorem pd4 : parseMethodDescriptor "(J)Z" = some ⟨[.long], some .boolean⟩ := by decide +kernel
theorem pd5 : parseMethodDescriptor "(JJJJZZZ)Z" = some ⟨[.long, .long, .long, .long, .boolean, .boolean, .boolean], some .boolean⟩ := by decide +kernel
theorem ef_rm1 (m : MethodId) (z0 : Addr) : entryFrame m #[(.ref z0)] 1 = mkF m 0 #[.val (.ref z0)] [] := by first | (simp [entryFrame, mkF, argsToLocals, Value.category]; done) | rfl
set_option maxRecDepth 65536 in
set_option maxHeartbeats 40000000 in
theorem rm1 (l : Launch) (Z : State) (a0 : Array Value) (hw : ∀ d ∈ tables_1, d.before a0 Z = true) (ws : List Jvm.Cond) (a : Addr) (h0 : Heap) (n0 : Nat) (Z0 : n0 ≤ h0.size) (E_a : Exa Z h0 a "com/example/phonomark/phonomark/LongSet") (F_table_a : Fld Z h0 a "com/example/phonomark/phonomark/LongSet" "table" "[J" .null) (F_count_a : Fld Z h0 a "com/example/phonomark/phonomark/LongSet" "count" "I" (.int (0 : Int32))) (F_holdsZero_a : Fld Z h0 a "com/example/phonomark/phonomark/LongSet" "holdsZero" "Z" (.int (0 : Int32))) (g_a : n0 ≤ a) :
    own_Met l Z (⟨"com/example/phonomark/phonomark/LongSet", "<init>", "()V"⟩ : MethodName) prog_28_method_1_code 1 none ({ frames := 1, cells := 1, slots := 16, locals := 12 } : Room) ws #[(.ref a)] h0 (fun v h L => v = none ∧ Fr n0 L ∧ own_Set Z n0 h a (fun _ => False) 0) 1 16 := by
  refine own_enter pf1 (fun m => ef_rm1 m a) ?_
  intro p e s m below meth c T0 hx hby hml hown hnm hret hlk hZ X0 e0
  have N0 := Fr.nil n0
  show own_Go p e s below _ _ _ T0 (mkF m 0 #[.val (.ref a)] [])
  refine own_st (fun _ k => XS.aloadN X0.here hx rfl (hb hby d1_0) rfl rfl k) ?_
  show own_Go p e s below _ _ _ T0 (mkF m 1 #[.val (.ref a)] [(.ref a)])
  obtain ⟨T1, X1, e1, st1⟩ := initO X0 hx hZ hown (hw _ (List.mem_of_getElem? (i := 6) rfl)) (hw _ (List.mem_of_getElem? (i := 7) rfl)) (hw _ (List.mem_of_getElem? (i := 8) rfl)) e0 (g := (mkF m 1 #[.val (.ref a)] [(.ref a)])) rfl (by rw [hml]; rfl) rfl (hb hby d1_1) (by decide) (W := 0) (by show 2 * 0 + _ ≤ _; exact Nat.le_of_eq rfl) (by decide)
  refine own_st st1 ?_
  show own_Go p e s below _ _ _ T1 (mkF m 4 #[.val (.ref a)] [])
  refine own_st (fun _ k => XS.aloadN X1.here hx rfl (hb hby d1_4) rfl rfl k) ?_
  show own_Go p e s below _ _ _ T1 (mkF m 5 #[.val (.ref a)] [(.ref a)])
  refine own_st (fun _ k => XS.bipush X1.here hx rfl (hb hby d1_5) k) ?_
  show own_Go p e s below _ _ _ T1 (mkF m 7 #[.val (.ref a)] [(.int (16 : Int32)), (.ref a)])
  obtain ⟨T2, h2, k2, X2, e2, E2, A2, Ex2, st2⟩ := newPE X1 hx hZ (hw _ (List.mem_of_getElem? (i := 9) rfl)) e1 (g := (mkF m 7 #[.val (.ref a)] [(.int (16 : Int32)), (.ref a)])) rfl (hb hby d1_7) rfl (by decide) (cap := 16) (by decide) (by decide) (by decide) (by decide) (ad := "[J") (by decide)
  obtain ⟨tb, g2⟩ : ∃ z, z = h0.size := ⟨_, rfl⟩
  rw [← g2] at A2 Ex2 st2
  have g_tb : n0 ≤ tb := Nat.le_trans Z0 (Nat.le_of_eq g2.symm)
  have ne_a_tb : a ≠ tb := Nat.ne_of_lt (Nat.lt_of_lt_of_le E_a.lt (Nat.le_of_eq g2.symm))
  have ne_tb_a := Ne.symm ne_a_tb
  replace E_a := E_a.ext E2
  replace F_table_a := F_table_a.ext E2
  replace F_count_a := F_count_a.ext E2
  replace F_holdsZero_a := F_holdsZero_a.ext E2
  have Z3 := Nat.le_trans Z0 E2.1
  have V_tb : Arv Z h2 tb k2 .long (16 : Int32) [(.long (0 : Int64)), (.long (0 : Int64)), (.long (0 : Int64)), (.long (0 : Int64)), (.long (0 : Int64)), (.long (0 : Int64)), (.long (0 : Int64)), (.long (0 : Int64)), (.long (0 : Int64)), (.long (0 : Int64)), (.long (0 : Int64)), (.long (0 : Int64)), (.long (0 : Int64)), (.long (0 : Int64)), (.long (0 : Int64)), (.long (0 : Int64))] (.long (0 : Int64)) := (Arv.new A2 (by decide)).pad (pad_rep [] (.long (0 : Int64)) 16)
  have E_tb := Ex2
  refine own_st st2 ?_
  show own_Go p e s below _ _ _ T2 (mkF m 9 #[.val (.ref a)] [(.ref tb), (.ref a)])
  obtain ⟨T4, h4, X4, e4, W4, st4⟩ := putF X2 hx hZ hown (host := "") (Or.inl (hw _ (List.mem_of_getElem? (i := 10) rfl))) Via.refl e2 F_table_a E_a (Or.inl (hw _ (List.mem_of_getElem? (i := 11) rfl))) (hw _ (List.mem_of_getElem? (i := 1) rfl)) (ty := (.array .long)) (by decide) rfl rfl (g := (mkF m 9 #[.val (.ref a)] [(.ref tb), (.ref a)])) rfl rfl (hb hby d1_9)
  refine own_st st4 ?_
  replace F_table_a := F_table_a.same W4
  replace E_a := E_a.wr W4
  replace F_count_a := F_count_a.other W4 (Or.inr (slot_ne (Or.inl (hw _ (List.mem_of_getElem? (i := 22) rfl))) (Or.inl (hw _ (List.mem_of_getElem? (i := 11) rfl))) (by decide) (t := .int) (t' := (.array .long)) (by decide) (by decide)))
  replace F_holdsZero_a := F_holdsZero_a.other W4 (Or.inr (slot_ne (Or.inl (hw _ (List.mem_of_getElem? (i := 33) rfl))) (Or.inl (hw _ (List.mem_of_getElem? (i := 11) rfl))) (by decide) (t := .boolean) (t' := (.array .long)) (by decide) (by decide)))
  replace V_tb := V_tb.other W4 ne_tb_a
  replace E_tb := E_tb.wr W4
  have Z5 := Nat.le_trans Z3 (Keep.of_wr W4).1
  have N4 := Fr.snoc X4 N0 g_a
  show own_Go p e s below _ _ _ T4 (mkF m 12 #[.val (.ref a)] [])
  exact own_ret0 X4 hx hlk hret (hb hby d1_12) (by decide) (by decide) (by rw [e4]; exact ⟨rfl, N4, ⟨tb, k2, (List.replicate 16 0), 0, 0, E_a, F_table_a, F_count_a, F_holdsZero_a, V_tb, g_a, g_tb, ne_a_tb, (own_I_empty rfl own_rep)⟩⟩)
theorem ef_rm4 (m : MethodId) (z0 : Addr) (z1 : Int64) : entryFrame m #[(.ref z0), (.long z1)] 5 = mkF m 0 #[.val (.ref z0), .val (.long z1), .second, .unset, .unset] [] := by first | (simp [entryFrame, mkF, argsToLocals, Value.category]; done) | rfl
set_option maxRecDepth 65536 in
set_option maxHeartbeats 40000000 in
theorem rm4 (l : Launch) (Z : State) (a0 : Array Value) (hw : ∀ d ∈ tables_1, d.before a0 Z = true) (ws : List Jvm.Cond) (tb : Addr) (u : Int64) (k : ClassId) (T : List Int64) (r : Nat) (h0 : Heap) (n0 : Nat) (Z0 : n0 ≤ h0.size) (V_tb : Arv Z h0 tb k .long (16 : Int32) (T.map Value.long) (.long (0 : Int64))) (hpl : own_pl T u 4 (own_h u) = some r) :
    own_Met l Z (⟨"com/example/phonomark/phonomark/LongSet", "place", "([JJ)I"⟩ : MethodName) prog_28_method_6_code 5 (some .int) ({ frames := 0, cells := 0, slots := 0, locals := 0 } : Room) ws #[(.ref tb), (.long u)] h0 (fun v h L => v = some (.int r.toInt32) ∧ Fr n0 L ∧ h = h0) 0 0 := by
  refine own_enter pf4 (fun m => ef_rm4 m tb u) ?_
  intro p e s m below meth c T0 hx hby hml hown hnm hret hlk hZ X0 e0
  have N0 := Fr.nil n0
  show own_Go p e s below _ _ _ T0 (mkF m 0 #[.val (.ref tb), .val (.long u), .second, .unset, .unset] [])
  refine own_st (fun _ k => XS.aloadN X0.here hx rfl (hb hby d4_0) rfl rfl k) ?_
  show own_Go p e s below _ _ _ T0 (mkF m 1 #[.val (.ref tb), .val (.long u), .second, .unset, .unset] [(.ref tb)])
  refine own_st (own_len X0 hx hZ e0 V_tb (g := (mkF m 1 #[.val (.ref tb), .val (.long u), .second, .unset, .unset] [(.ref tb)])) rfl rfl (hb hby d4_1)) ?_
  show own_Go p e s below _ _ _ T0 (mkF m 2 #[.val (.ref tb), .val (.long u), .second, .unset, .unset] [(.int (16 : Int32))])
  refine own_st (fun _ k => XS.iconst X0.here hx rfl (hb hby d4_2) k) ?_
  show own_Go p e s below _ _ _ T0 (mkF m 3 #[.val (.ref tb), .val (.long u), .second, .unset, .unset] [(.int (1 : Int32)), (.int (16 : Int32))])
  refine own_st (fun _ k => XS.isub X0.here hx rfl (hb hby d4_3) rfl k) ?_
  show own_Go p e s below _ _ _ T0 (mkF m 4 #[.val (.ref tb), .val (.long u), .second, .unset, .unset] [(.int (15 : Int32))])
  refine own_st (fun _ k => XS.istoreN X0.here hx rfl (hb hby d4_4) rfl (l' := #[.val (.ref tb), .val (.long u), .second, .val (.int (15 : Int32)), .unset]) rfl k) ?_
  show own_Go p e s below _ _ _ T0 (mkF m 5 #[.val (.ref tb), .val (.long u), .second, .val (.int (15 : Int32)), .unset] [])
  refine own_st (fun _ k => XS.lloadN X0.here hx rfl (hb hby d4_5) rfl k) ?_
  show own_Go p e s below _ _ _ T0 (mkF m 6 #[.val (.ref tb), .val (.long u), .second, .val (.int (15 : Int32)), .unset] [(.long u)])
  refine own_st (X0.ldc2Long hx hown (mvT hZ (hw _ (List.mem_of_getElem? (i := 20) rfl))) (g := (mkF m 6 #[.val (.ref tb), .val (.long u), .second, .val (.int (15 : Int32)), .unset] [(.long u)])) rfl (hb hby d4_6)) ?_
  show own_Go p e s below _ _ _ T0 (mkF m 9 #[.val (.ref tb), .val (.long u), .second, .val (.int (15 : Int32)), .unset] [(.long (-7046029254386353131 : Int64)), (.long u)])
  refine own_st (fun _ k => XS.lmul X0.here hx rfl (hb hby d4_9) rfl k) ?_
  show own_Go p e s below _ _ _ T0 (mkF m 10 #[.val (.ref tb), .val (.long u), .second, .val (.int (15 : Int32)), .unset] [(.long (u * (-7046029254386353131 : Int64)))])
  refine own_st (fun _ k => XS.bipush X0.here hx rfl (hb hby d4_10) k) ?_
  show own_Go p e s below _ _ _ T0 (mkF m 12 #[.val (.ref tb), .val (.long u), .second, .val (.int (15 : Int32)), .unset] [(.int (32 : Int32)), (.long (u * (-7046029254386353131 : Int64)))])
  refine own_st (fun _ k => XS.lushr X0.here hx rfl (hb hby d4_12) rfl k) ?_
  show own_Go p e s below _ _ _ T0 (mkF m 13 #[.val (.ref tb), .val (.long u), .second, .val (.int (15 : Int32)), .unset] [(.long (((u * (-7046029254386353131 : Int64)).toUInt64 >>> ((32 : Int32) &&& 0x3f).toInt64.toUInt64).toInt64))])
  refine own_st (fun _ k => XS.l2i X0.here hx rfl (hb hby d4_13) rfl k) ?_
  show own_Go p e s below _ _ _ T0 (mkF m 14 #[.val (.ref tb), .val (.long u), .second, .val (.int (15 : Int32)), .unset] [(.int ((((u * (-7046029254386353131 : Int64)).toUInt64 >>> ((32 : Int32) &&& 0x3f).toInt64.toUInt64).toInt64).toInt32))])
  refine own_st (fun _ k => XS.iloadN X0.here hx rfl (hb hby d4_14) rfl k) ?_
  show own_Go p e s below _ _ _ T0 (mkF m 15 #[.val (.ref tb), .val (.long u), .second, .val (.int (15 : Int32)), .unset] [(.int (15 : Int32)), (.int ((((u * (-7046029254386353131 : Int64)).toUInt64 >>> ((32 : Int32) &&& 0x3f).toInt64.toUInt64).toInt64).toInt32))])
  refine own_st (fun _ k => XS.iand X0.here hx rfl (hb hby d4_15) rfl k) ?_
  show own_Go p e s below _ _ _ T0 (mkF m 16 #[.val (.ref tb), .val (.long u), .second, .val (.int (15 : Int32)), .unset] [(.int (((((u * (-7046029254386353131 : Int64)).toUInt64 >>> ((32 : Int32) &&& 0x3f).toInt64.toUInt64).toInt64).toInt32) &&& (15 : Int32)))])
  rw [(own_hh u).1]
  show own_Go p e s below _ _ _ T0 (mkF m 16 #[.val (.ref tb), .val (.long u), .second, .val (.int (15 : Int32)), .unset] [(.int ((own_h u).toInt32))])
  refine own_st (fun _ k => XS.istore X0.here hx rfl (hb hby d4_16) rfl (l' := #[.val (.ref tb), .val (.long u), .second, .val (.int (15 : Int32)), .val (.int ((own_h u).toInt32))]) rfl k) ?_
  show own_Go p e s below _ _ _ T0 (mkF m 18 #[.val (.ref tb), .val (.long u), .second, .val (.int (15 : Int32)), .val (.int ((own_h u).toInt32))] [])
  have loop : ∀ (f s1 : Nat), own_pl T u f s1 = some r → s1 < 16 → own_Go p e s below (fun (v : Option Value) (h : Heap) (L : List Loc) => v = some (.int r.toInt32) ∧ Fr n0 L ∧ h = h0) 0 0 T0 (mkF m 18 #[.val (.ref tb), .val (.long u), .second, .val (.int (15 : Int32)), .val (.int (s1.toInt32))] []) := by
    intro f
    induction f with
    | zero => intro s1 h; simp [own_pl] at h
    | succ f ih =>
      intro s1 hpl hs
      simp only [own_pl] at hpl
      show own_Go p e s below _ _ _ T0 (mkF m 18 #[.val (.ref tb), .val (.long u), .second, .val (.int (15 : Int32)), .val (.int (s1.toInt32))] [])
      refine own_st (fun _ k => XS.aloadN X0.here hx rfl (hb hby d4_18) rfl rfl k) ?_
      show own_Go p e s below _ _ _ T0 (mkF m 19 #[.val (.ref tb), .val (.long u), .second, .val (.int (15 : Int32)), .val (.int (s1.toInt32))] [(.ref tb)])
      refine own_st (fun _ k => XS.iload X0.here hx rfl (hb hby d4_19) rfl k) ?_
      show own_Go p e s below _ _ _ T0 (mkF m 21 #[.val (.ref tb), .val (.long u), .second, .val (.int (15 : Int32)), .val (.int (s1.toInt32))] [(.int (s1.toInt32)), (.ref tb)])
      refine own_st (own_ldJ X0 hx hZ e0 V_tb (j := (s1.toInt32)) (x := (T.getD s1 0)) (own_sx hs).1 (by rw [(own_sx hs).2]; exact own_gd T s1) (g := (mkF m 21 #[.val (.ref tb), .val (.long u), .second, .val (.int (15 : Int32)), .val (.int (s1.toInt32))] [(.int (s1.toInt32)), (.ref tb)])) rfl rfl (hb hby d4_21)) ?_
      show own_Go p e s below _ _ _ T0 (mkF m 22 #[.val (.ref tb), .val (.long u), .second, .val (.int (15 : Int32)), .val (.int (s1.toInt32))] [(.long (T.getD s1 0))])
      refine own_st (fun _ k => XS.lconst X0.here hx rfl (hb hby d4_22) k) ?_
      show own_Go p e s below _ _ _ T0 (mkF m 23 #[.val (.ref tb), .val (.long u), .second, .val (.int (15 : Int32)), .val (.int (s1.toInt32))] [(.long (0 : Int64)), (.long (T.getD s1 0))])
      refine own_st (fun _ k => XS.lcmp X0.here hx rfl (hb hby d4_23) rfl k) ?_
      show own_Go p e s below _ _ _ T0 (mkF m 24 #[.val (.ref tb), .val (.long u), .second, .val (.int (15 : Int32)), .val (.int (s1.toInt32))] [(.int (lcmpW (T.getD s1 0) (0 : Int64)))])
      by_cases k1 : (T.getD s1 0) = (0 : Int64)
      · refine own_st (fun _ k => XS.ifYes X0.here hx rfl (pc0 := 24) (pc' := 47) rfl (hb hby d4_24) rfl ((if0 _ _).trans (teq ((lw_eq _ _).mpr k1)).1) (by decide) (by decide) k) ?_
        show own_Go p e s below _ _ _ T0 (mkF m 47 #[.val (.ref tb), .val (.long u), .second, .val (.int (15 : Int32)), .val (.int (s1.toInt32))] [])
        refine own_st (fun _ k => XS.iload X0.here hx rfl (hb hby d4_47) rfl k) ?_
        show own_Go p e s below _ _ _ T0 (mkF m 49 #[.val (.ref tb), .val (.long u), .second, .val (.int (15 : Int32)), .val (.int (s1.toInt32))] [(.int (s1.toInt32))])
        rw [if_pos (Or.inl k1)] at hpl
        exact own_retI X0 hx hlk hret (hb hby d4_49) (by decide) (by decide) ⟨by cases hpl; rfl, N0, e0⟩
      refine own_st (fun _ k => XS.ifNo X0.here hx rfl (hb hby d4_24) rfl ((if0 _ _).trans (feq (fun q => k1 ((lw_eq _ _).mp q))).1) k) ?_
      show own_Go p e s below _ _ _ T0 (mkF m 27 #[.val (.ref tb), .val (.long u), .second, .val (.int (15 : Int32)), .val (.int (s1.toInt32))] [])
      refine own_st (fun _ k => XS.aloadN X0.here hx rfl (hb hby d4_27) rfl rfl k) ?_
      show own_Go p e s below _ _ _ T0 (mkF m 28 #[.val (.ref tb), .val (.long u), .second, .val (.int (15 : Int32)), .val (.int (s1.toInt32))] [(.ref tb)])
      refine own_st (fun _ k => XS.iload X0.here hx rfl (hb hby d4_28) rfl k) ?_
      show own_Go p e s below _ _ _ T0 (mkF m 30 #[.val (.ref tb), .val (.long u), .second, .val (.int (15 : Int32)), .val (.int (s1.toInt32))] [(.int (s1.toInt32)), (.ref tb)])
      refine own_st (own_ldJ X0 hx hZ e0 V_tb (j := (s1.toInt32)) (x := (T.getD s1 0)) (own_sx hs).1 (by rw [(own_sx hs).2]; exact own_gd T s1) (g := (mkF m 30 #[.val (.ref tb), .val (.long u), .second, .val (.int (15 : Int32)), .val (.int (s1.toInt32))] [(.int (s1.toInt32)), (.ref tb)])) rfl rfl (hb hby d4_30)) ?_
      show own_Go p e s below _ _ _ T0 (mkF m 31 #[.val (.ref tb), .val (.long u), .second, .val (.int (15 : Int32)), .val (.int (s1.toInt32))] [(.long (T.getD s1 0))])
      refine own_st (fun _ k => XS.lloadN X0.here hx rfl (hb hby d4_31) rfl k) ?_
      show own_Go p e s below _ _ _ T0 (mkF m 32 #[.val (.ref tb), .val (.long u), .second, .val (.int (15 : Int32)), .val (.int (s1.toInt32))] [(.long u), (.long (T.getD s1 0))])
      refine own_st (fun _ k => XS.lcmp X0.here hx rfl (hb hby d4_32) rfl k) ?_
      show own_Go p e s below _ _ _ T0 (mkF m 33 #[.val (.ref tb), .val (.long u), .second, .val (.int (15 : Int32)), .val (.int (s1.toInt32))] [(.int (lcmpW (T.getD s1 0) u))])
      by_cases k2 : (T.getD s1 0) = u
      · refine own_st (fun _ k => XS.ifYes X0.here hx rfl (pc0 := 33) (pc' := 47) rfl (hb hby d4_33) rfl ((if0 _ _).trans (teq ((lw_eq _ _).mpr k2)).1) (by decide) (by decide) k) ?_
        show own_Go p e s below _ _ _ T0 (mkF m 47 #[.val (.ref tb), .val (.long u), .second, .val (.int (15 : Int32)), .val (.int (s1.toInt32))] [])
        refine own_st (fun _ k => XS.iload X0.here hx rfl (hb hby d4_47) rfl k) ?_
        show own_Go p e s below _ _ _ T0 (mkF m 49 #[.val (.ref tb), .val (.long u), .second, .val (.int (15 : Int32)), .val (.int (s1.toInt32))] [(.int (s1.toInt32))])
        rw [if_pos (Or.inr k2)] at hpl
        exact own_retI X0 hx hlk hret (hb hby d4_49) (by decide) (by decide) ⟨by cases hpl; rfl, N0, e0⟩
      refine own_st (fun _ k => XS.ifNo X0.here hx rfl (hb hby d4_33) rfl ((if0 _ _).trans (feq (fun q => k2 ((lw_eq _ _).mp q))).1) k) ?_
      show own_Go p e s below _ _ _ T0 (mkF m 36 #[.val (.ref tb), .val (.long u), .second, .val (.int (15 : Int32)), .val (.int (s1.toInt32))] [])
      refine own_st (fun _ k => XS.iload X0.here hx rfl (hb hby d4_36) rfl k) ?_
      show own_Go p e s below _ _ _ T0 (mkF m 38 #[.val (.ref tb), .val (.long u), .second, .val (.int (15 : Int32)), .val (.int (s1.toInt32))] [(.int (s1.toInt32))])
      refine own_st (fun _ k => XS.iconst X0.here hx rfl (hb hby d4_38) k) ?_
      show own_Go p e s below _ _ _ T0 (mkF m 39 #[.val (.ref tb), .val (.long u), .second, .val (.int (15 : Int32)), .val (.int (s1.toInt32))] [(.int (1 : Int32)), (.int (s1.toInt32))])
      refine own_st (fun _ k => XS.iadd X0.here hx rfl (hb hby d4_39) rfl k) ?_
      show own_Go p e s below _ _ _ T0 (mkF m 40 #[.val (.ref tb), .val (.long u), .second, .val (.int (15 : Int32)), .val (.int (s1.toInt32))] [(.int ((s1.toInt32) + (1 : Int32)))])
      refine own_st (fun _ k => XS.iloadN X0.here hx rfl (hb hby d4_40) rfl k) ?_
      show own_Go p e s below _ _ _ T0 (mkF m 41 #[.val (.ref tb), .val (.long u), .second, .val (.int (15 : Int32)), .val (.int (s1.toInt32))] [(.int (15 : Int32)), (.int ((s1.toInt32) + (1 : Int32)))])
      refine own_st (fun _ k => XS.iand X0.here hx rfl (hb hby d4_41) rfl k) ?_
      show own_Go p e s below _ _ _ T0 (mkF m 42 #[.val (.ref tb), .val (.long u), .second, .val (.int (15 : Int32)), .val (.int (s1.toInt32))] [(.int (((s1.toInt32) + (1 : Int32)) &&& (15 : Int32)))])
      rw [own_nx hs]
      show own_Go p e s below _ _ _ T0 (mkF m 42 #[.val (.ref tb), .val (.long u), .second, .val (.int (15 : Int32)), .val (.int (s1.toInt32))] [(.int (((s1 + 1) % 16).toInt32))])
      refine own_st (fun _ k => XS.istore X0.here hx rfl (hb hby d4_42) rfl (l' := #[.val (.ref tb), .val (.long u), .second, .val (.int (15 : Int32)), .val (.int (((s1 + 1) % 16).toInt32))]) rfl k) ?_
      show own_Go p e s below _ _ _ T0 (mkF m 44 #[.val (.ref tb), .val (.long u), .second, .val (.int (15 : Int32)), .val (.int (((s1 + 1) % 16).toInt32))] [])
      refine own_st (fun _ k => XS.goto X0.here hx rfl (pc0 := 44) (pc' := 18) rfl (hb hby d4_44) (by decide) (by decide) k) ?_
      show own_Go p e s below _ _ _ T0 (mkF m 18 #[.val (.ref tb), .val (.long u), .second, .val (.int (15 : Int32)), .val (.int (((s1 + 1) % 16).toInt32))] [])
      rw [if_neg (fun q => q.elim k1 k2)] at hpl
      exact ih _ hpl (by omega)
  exact loop 4 _ hpl (own_hh u).2
theorem ef_rm3 (m : MethodId) (z0 : Addr) (z1 : Int64) : entryFrame m #[(.ref z0), (.long z1)] 4 = mkF m 0 #[.val (.ref z0), .val (.long z1), .second, .unset] [] := by first | (simp [entryFrame, mkF, argsToLocals, Value.category]; done) | rfl
set_option maxRecDepth 65536 in
set_option maxHeartbeats 40000000 in
theorem rm3 (l : Launch) (Z : State) (a0 : Array Value) (hw : ∀ d ∈ tables_1, d.before a0 Z = true) (ws : List Jvm.Cond) (a : Addr) (u : Int64) (S : Int64 → Prop) (n : Nat) (h0 : Heap) (n0 : Nat) (Z0 : n0 ≤ h0.size) (HS : own_Set Z n0 h0 a S n) (hn : n ≤ 2) :
    own_Met l Z (⟨"com/example/phonomark/phonomark/LongSet", "add", "(J)V"⟩ : MethodName) prog_28_method_2_code 4 none ({ frames := 1, cells := 0, slots := 0, locals := 32 } : Room) ws #[(.ref a), (.long u)] h0 (fun v h L => v = none ∧ Fr n0 L ∧ own_Set Z n0 h a (fun x => S x ∨ x = u) (n + 1)) 0 0 := by
  refine own_enter pf3 (fun m => ef_rm3 m a u) ?_
  intro p e s m below meth c T0 hx hby hml hown hnm hret hlk hZ X0 e0
  have N0 := Fr.nil n0
  show own_Go p e s below _ _ _ T0 (mkF m 0 #[.val (.ref a), .val (.long u), .second, .unset] [])
  obtain ⟨tb, k, T, cnt, z, E_a, F_table_a, F_count_a, F_holdsZero_a, V_tb, g_a, g_tb, ne_a_tb, I⟩ := HS
  have ne_tb_a := Ne.symm ne_a_tb
  refine own_st (fun _ k => XS.lloadN X0.here hx rfl (hb hby d3_0) rfl k) ?_
  show own_Go p e s below _ _ _ T0 (mkF m 1 #[.val (.ref a), .val (.long u), .second, .unset] [(.long u)])
  refine own_st (fun _ k => XS.lconst X0.here hx rfl (hb hby d3_1) k) ?_
  show own_Go p e s below _ _ _ T0 (mkF m 2 #[.val (.ref a), .val (.long u), .second, .unset] [(.long (0 : Int64)), (.long u)])
  refine own_st (fun _ k => XS.lcmp X0.here hx rfl (hb hby d3_2) rfl k) ?_
  show own_Go p e s below _ _ _ T0 (mkF m 3 #[.val (.ref a), .val (.long u), .second, .unset] [(.int (lcmpW u (0 : Int64)))])
  by_cases k0 : u = (0 : Int64)
  · refine own_st (fun _ k => XS.ifNo X0.here hx rfl (hb hby d3_3) rfl ((if0 _ _).trans (teq ((lw_eq _ _).mpr k0)).2) k) ?_
    show own_Go p e s below _ _ _ T0 (mkF m 6 #[.val (.ref a), .val (.long u), .second, .unset] [])
    refine own_st (fun _ k => XS.aloadN X0.here hx rfl (hb hby d3_6) rfl rfl k) ?_
    show own_Go p e s below _ _ _ T0 (mkF m 7 #[.val (.ref a), .val (.long u), .second, .unset] [(.ref a)])
    refine own_st (fun _ k => XS.iconst X0.here hx rfl (hb hby d3_7) k) ?_
    show own_Go p e s below _ _ _ T0 (mkF m 8 #[.val (.ref a), .val (.long u), .second, .unset] [(.int (1 : Int32)), (.ref a)])
    obtain ⟨T6, h6, X6, e6, W6, st6⟩ := putFN X0 hx hZ hown (hw _ (List.mem_of_getElem? (i := 32) rfl)) Via.refl e0 F_holdsZero_a E_a (Or.inl (hw _ (List.mem_of_getElem? (i := 33) rfl))) (hw _ (List.mem_of_getElem? (i := 1) rfl)) (ty := .boolean) (v := (.int (1 : Int32))) (v' := (.int (1 : Int32))) (by decide) rfl (by decide) (g := (mkF m 8 #[.val (.ref a), .val (.long u), .second, .unset] [(.int (1 : Int32)), (.ref a)])) rfl rfl (hb hby d3_8)
    refine own_st st6 ?_
    replace F_holdsZero_a := F_holdsZero_a.same W6
    replace E_a := E_a.wr W6
    replace F_table_a := F_table_a.other W6 (Or.inr (slot_ne (Or.inl (hw _ (List.mem_of_getElem? (i := 11) rfl))) (Or.inl (hw _ (List.mem_of_getElem? (i := 33) rfl))) (by decide) (t := (.array .long)) (t' := .boolean) (by decide) (by decide)))
    replace F_count_a := F_count_a.other W6 (Or.inr (slot_ne (Or.inl (hw _ (List.mem_of_getElem? (i := 22) rfl))) (Or.inl (hw _ (List.mem_of_getElem? (i := 33) rfl))) (by decide) (t := .int) (t' := .boolean) (by decide) (by decide)))
    replace V_tb := V_tb.other W6 ne_tb_a
    have Z7 := Nat.le_trans Z0 (Keep.of_wr W6).1
    have N6 := Fr.snoc X6 N0 g_a
    show own_Go p e s below _ _ _ T6 (mkF m 11 #[.val (.ref a), .val (.long u), .second, .unset] [])
    exact own_ret0 X6 hx hlk hret (hb hby d3_11) (by decide) (by decide) (by rw [e6]; exact ⟨rfl, N6, ⟨tb, k, T, cnt, 1, E_a, F_table_a, F_count_a, F_holdsZero_a, V_tb, g_a, g_tb, ne_a_tb, (own_I_zero I k0)⟩⟩)
  refine own_st (fun _ k => XS.ifYes X0.here hx rfl (pc0 := 3) (pc' := 12) rfl (hb hby d3_3) rfl ((if0 _ _).trans (feq (fun q => k0 ((lw_eq _ _).mp q))).2) (by decide) (by decide) k) ?_
  show own_Go p e s below _ _ _ T0 (mkF m 12 #[.val (.ref a), .val (.long u), .second, .unset] [])
  refine own_st (fun _ k => XS.aloadN X0.here hx rfl (hb hby d3_12) rfl rfl k) ?_
  show own_Go p e s below _ _ _ T0 (mkF m 13 #[.val (.ref a), .val (.long u), .second, .unset] [(.ref a)])
  obtain ⟨T8, X8, e8, st8⟩ := getF X0 hx hZ hown (host := "") (Or.inl (hw _ (List.mem_of_getElem? (i := 10) rfl))) Via.refl e0 F_table_a (g := (mkF m 13 #[.val (.ref a), .val (.long u), .second, .unset] [(.ref a)])) rfl rfl (hb hby d3_13)
  refine own_st st8 ?_
  show own_Go p e s below _ _ _ T8 (mkF m 16 #[.val (.ref a), .val (.long u), .second, .unset] [(.ref tb)])
  refine own_st (fun _ k => XS.lloadN X8.here hx rfl (hb hby d3_16) rfl k) ?_
  show own_Go p e s below _ _ _ T8 (mkF m 17 #[.val (.ref a), .val (.long u), .second, .unset] [(.long u), (.ref tb)])
  have hpr : ∃ r, own_pl T u 4 (own_h u) = some r := by obtain ⟨-, ⟨q, h2, -, h4⟩, -⟩ := I; exact own_pl_some h4 (by omega) (own_hh u).2
  obtain ⟨r, hpr⟩ := hpr
  obtain ⟨hr16, hr0⟩ := own_pl_hit hpr (own_hh u).2
  refine own_callS X8 hx hZ (y := (⟨"com/example/phonomark/phonomark/LongSet", "place", "([JJ)I"⟩ : MethodName)) hown (hw _ (List.mem_of_getElem? (i := 17) rfl)) (hw _ (List.mem_of_getElem? (i := 18) rfl)) (hw _ (List.mem_of_getElem? (i := 2) rfl)) (hw _ (List.mem_of_getElem? (i := 19) rfl)) (by decide) e8 (rm4 l Z a0 hw [] tb u k T r h0 n0 Z0 V_tb hpr) 0 (by decide) (by decide) (g := (mkF m 17 #[.val (.ref a), .val (.long u), .second, .unset] [(.long u), (.ref tb)])) rfl (by rw [hml]; rfl) (argsL := [(.ref tb), (.long u)]) (rest := []) pd2 rfl rfl rfl (by show 2 * 0 + _ ≤ _; exact Nat.le_of_eq rfl) (hb hby d3_17) (by decide) (by decide) ?_
  intro T9 v9 L9 X9 hQ9
  obtain ⟨rfl, N9q, e9⟩ := hQ9
  have N9 := Fr.app N0 N9q
  show own_Go p e s below _ _ _ T9 (mkF m 20 #[.val (.ref a), .val (.long u), .second, .unset] [(.int (r.toInt32))])
  refine own_st (fun _ k => XS.istoreN X9.here hx rfl (hb hby d3_20) rfl (l' := #[.val (.ref a), .val (.long u), .second, .val (.int (r.toInt32))]) rfl k) ?_
  show own_Go p e s below _ _ _ T9 (mkF m 21 #[.val (.ref a), .val (.long u), .second, .val (.int (r.toInt32))] [])
  refine own_st (fun _ k => XS.aloadN X9.here hx rfl (hb hby d3_21) rfl rfl k) ?_
  show own_Go p e s below _ _ _ T9 (mkF m 22 #[.val (.ref a), .val (.long u), .second, .val (.int (r.toInt32))] [(.ref a)])
  obtain ⟨T10, X10, e10, st10⟩ := getF X9 hx hZ hown (host := "") (Or.inl (hw _ (List.mem_of_getElem? (i := 10) rfl))) Via.refl e9 F_table_a (g := (mkF m 22 #[.val (.ref a), .val (.long u), .second, .val (.int (r.toInt32))] [(.ref a)])) rfl rfl (hb hby d3_22)
  refine own_st st10 ?_
  show own_Go p e s below _ _ _ T10 (mkF m 25 #[.val (.ref a), .val (.long u), .second, .val (.int (r.toInt32))] [(.ref tb)])
  refine own_st (fun _ k => XS.iloadN X10.here hx rfl (hb hby d3_25) rfl k) ?_
  show own_Go p e s below _ _ _ T10 (mkF m 26 #[.val (.ref a), .val (.long u), .second, .val (.int (r.toInt32))] [(.int (r.toInt32)), (.ref tb)])
  refine own_st (own_ldJ X10 hx hZ e10 V_tb (j := (r.toInt32)) (x := (T.getD r 0)) (own_sx hr16).1 (by rw [(own_sx hr16).2]; exact own_gd T r) (g := (mkF m 26 #[.val (.ref a), .val (.long u), .second, .val (.int (r.toInt32))] [(.int (r.toInt32)), (.ref tb)])) rfl rfl (hb hby d3_26)) ?_
  show own_Go p e s below _ _ _ T10 (mkF m 27 #[.val (.ref a), .val (.long u), .second, .val (.int (r.toInt32))] [(.long (T.getD r 0))])
  refine own_st (fun _ k => XS.lloadN X10.here hx rfl (hb hby d3_27) rfl k) ?_
  show own_Go p e s below _ _ _ T10 (mkF m 28 #[.val (.ref a), .val (.long u), .second, .val (.int (r.toInt32))] [(.long u), (.long (T.getD r 0))])
  refine own_st (fun _ k => XS.lcmp X10.here hx rfl (hb hby d3_28) rfl k) ?_
  show own_Go p e s below _ _ _ T10 (mkF m 29 #[.val (.ref a), .val (.long u), .second, .val (.int (r.toInt32))] [(.int (lcmpW (T.getD r 0) u))])
  by_cases k1 : (T.getD r 0) = u
  · refine own_st (fun _ k => XS.ifNo X10.here hx rfl (hb hby d3_29) rfl ((if0 _ _).trans (teq ((lw_eq _ _).mpr k1)).2) k) ?_
    show own_Go p e s below _ _ _ T10 (mkF m 32 #[.val (.ref a), .val (.long u), .second, .val (.int (r.toInt32))] [])
    exact own_ret0 X10 hx hlk hret (hb hby d3_32) (by decide) (by decide) (by rw [e10]; exact ⟨rfl, N9, ⟨tb, k, T, cnt, z, E_a, F_table_a, F_count_a, F_holdsZero_a, V_tb, g_a, g_tb, ne_a_tb, (own_I_same I k0 k1)⟩⟩)
  refine own_st (fun _ k => XS.ifYes X10.here hx rfl (pc0 := 29) (pc' := 33) rfl (hb hby d3_29) rfl ((if0 _ _).trans (feq (fun q => k1 ((lw_eq _ _).mp q))).2) (by decide) (by decide) k) ?_
  show own_Go p e s below _ _ _ T10 (mkF m 33 #[.val (.ref a), .val (.long u), .second, .val (.int (r.toInt32))] [])
  refine own_st (fun _ k => XS.aloadN X10.here hx rfl (hb hby d3_33) rfl rfl k) ?_
  show own_Go p e s below _ _ _ T10 (mkF m 34 #[.val (.ref a), .val (.long u), .second, .val (.int (r.toInt32))] [(.ref a)])
  obtain ⟨T11, X11, e11, st11⟩ := getF X10 hx hZ hown (host := "") (Or.inl (hw _ (List.mem_of_getElem? (i := 10) rfl))) Via.refl e10 F_table_a (g := (mkF m 34 #[.val (.ref a), .val (.long u), .second, .val (.int (r.toInt32))] [(.ref a)])) rfl rfl (hb hby d3_34)
  refine own_st st11 ?_
  show own_Go p e s below _ _ _ T11 (mkF m 37 #[.val (.ref a), .val (.long u), .second, .val (.int (r.toInt32))] [(.ref tb)])
  refine own_st (fun _ k => XS.iloadN X11.here hx rfl (hb hby d3_37) rfl k) ?_
  show own_Go p e s below _ _ _ T11 (mkF m 38 #[.val (.ref a), .val (.long u), .second, .val (.int (r.toInt32))] [(.int (r.toInt32)), (.ref tb)])
  refine own_st (fun _ k => XS.lloadN X11.here hx rfl (hb hby d3_38) rfl k) ?_
  show own_Go p e s below _ _ _ T11 (mkF m 39 #[.val (.ref a), .val (.long u), .second, .val (.int (r.toInt32))] [(.long u), (.int (r.toInt32)), (.ref tb)])
  obtain ⟨T12, h12, X12, e12, W12, V12, st12⟩ := own_stJ X11 hx hZ e11 V_tb (j := (r.toInt32)) (own_sx hr16).1 (by rw [(own_sx hr16).2, List.length_map, I.1]; exact hr16) (g := (mkF m 39 #[.val (.ref a), .val (.long u), .second, .val (.int (r.toInt32))] [(.long u), (.int (r.toInt32)), (.ref tb)])) rfl rfl (hb hby d3_39)
  clear V_tb
  have V_tb : Arv Z h12 tb k .long (16 : Int32) ((T.set r u).map Value.long) (.long (0 : Int64)) := (by have q := V12; rw [(own_sx hr16).2, own_mset] at q; exact q)
  replace E_a := E_a.wr W12
  replace F_table_a := F_table_a.other W12 (Or.inl ne_a_tb)
  replace F_count_a := F_count_a.other W12 (Or.inl ne_a_tb)
  replace F_holdsZero_a := F_holdsZero_a.other W12 (Or.inl ne_a_tb)
  have Z13 := Nat.le_trans Z0 (Keep.of_wr W12).1
  have N12 := Fr.snoc X12 N9 g_tb
  refine own_st st12 ?_
  show own_Go p e s below _ _ _ T12 (mkF m 40 #[.val (.ref a), .val (.long u), .second, .val (.int (r.toInt32))] [])
  refine own_st (fun _ k => XS.aloadN X12.here hx rfl (hb hby d3_40) rfl rfl k) ?_
  show own_Go p e s below _ _ _ T12 (mkF m 41 #[.val (.ref a), .val (.long u), .second, .val (.int (r.toInt32))] [(.ref a)])
  refine own_st (fun _ k => XS.dup X12.here hx rfl (hb hby d3_41) rfl rfl k) ?_
  show own_Go p e s below _ _ _ T12 (mkF m 42 #[.val (.ref a), .val (.long u), .second, .val (.int (r.toInt32))] [(.ref a), (.ref a)])
  obtain ⟨T14, X14, e14, st14⟩ := getF X12 hx hZ hown (host := "") (Or.inl (hw _ (List.mem_of_getElem? (i := 21) rfl))) Via.refl e12 F_count_a (g := (mkF m 42 #[.val (.ref a), .val (.long u), .second, .val (.int (r.toInt32))] [(.ref a), (.ref a)])) rfl rfl (hb hby d3_42)
  refine own_st st14 ?_
  show own_Go p e s below _ _ _ T14 (mkF m 45 #[.val (.ref a), .val (.long u), .second, .val (.int (r.toInt32))] [(.int cnt), (.ref a)])
  refine own_st (fun _ k => XS.iconst X14.here hx rfl (hb hby d3_45) k) ?_
  show own_Go p e s below _ _ _ T14 (mkF m 46 #[.val (.ref a), .val (.long u), .second, .val (.int (r.toInt32))] [(.int (1 : Int32)), (.int cnt), (.ref a)])
  refine own_st (fun _ k => XS.iadd X14.here hx rfl (hb hby d3_46) rfl k) ?_
  show own_Go p e s below _ _ _ T14 (mkF m 47 #[.val (.ref a), .val (.long u), .second, .val (.int (r.toInt32))] [(.int (cnt + (1 : Int32))), (.ref a)])
  obtain ⟨T15, h15, X15, e15, W15, st15⟩ := putF X14 hx hZ hown (host := "") (Or.inl (hw _ (List.mem_of_getElem? (i := 21) rfl))) Via.refl e14 F_count_a E_a (Or.inl (hw _ (List.mem_of_getElem? (i := 22) rfl))) (hw _ (List.mem_of_getElem? (i := 1) rfl)) (ty := .int) (by decide) rfl rfl (g := (mkF m 47 #[.val (.ref a), .val (.long u), .second, .val (.int (r.toInt32))] [(.int (cnt + (1 : Int32))), (.ref a)])) rfl rfl (hb hby d3_47)
  refine own_st st15 ?_
  replace F_count_a := F_count_a.same W15
  replace E_a := E_a.wr W15
  replace F_table_a := F_table_a.other W15 (Or.inr (slot_ne (Or.inl (hw _ (List.mem_of_getElem? (i := 11) rfl))) (Or.inl (hw _ (List.mem_of_getElem? (i := 22) rfl))) (by decide) (t := (.array .long)) (t' := .int) (by decide) (by decide)))
  replace F_holdsZero_a := F_holdsZero_a.other W15 (Or.inr (slot_ne (Or.inl (hw _ (List.mem_of_getElem? (i := 33) rfl))) (Or.inl (hw _ (List.mem_of_getElem? (i := 22) rfl))) (by decide) (t := .boolean) (t' := .int) (by decide) (by decide)))
  replace V_tb := V_tb.other W15 ne_tb_a
  have Z16 := Nat.le_trans Z13 (Keep.of_wr W15).1
  have N15 := Fr.snoc X15 N12 g_a
  show own_Go p e s below _ _ _ T15 (mkF m 50 #[.val (.ref a), .val (.long u), .second, .val (.int (r.toInt32))] [])
  refine own_st (fun _ k => XS.aloadN X15.here hx rfl (hb hby d3_50) rfl rfl k) ?_
  show own_Go p e s below _ _ _ T15 (mkF m 51 #[.val (.ref a), .val (.long u), .second, .val (.int (r.toInt32))] [(.ref a)])
  obtain ⟨T17, X17, e17, st17⟩ := getF X15 hx hZ hown (host := "") (Or.inl (hw _ (List.mem_of_getElem? (i := 21) rfl))) Via.refl e15 F_count_a (g := (mkF m 51 #[.val (.ref a), .val (.long u), .second, .val (.int (r.toInt32))] [(.ref a)])) rfl rfl (hb hby d3_51)
  refine own_st st17 ?_
  show own_Go p e s below _ _ _ T17 (mkF m 54 #[.val (.ref a), .val (.long u), .second, .val (.int (r.toInt32))] [(.int (cnt + (1 : Int32)))])
  refine own_st (fun _ k => XS.iconst X17.here hx rfl (hb hby d3_54) k) ?_
  show own_Go p e s below _ _ _ T17 (mkF m 55 #[.val (.ref a), .val (.long u), .second, .val (.int (r.toInt32))] [(.int (2 : Int32)), (.int (cnt + (1 : Int32)))])
  refine own_st (fun _ k => XS.imul X17.here hx rfl (hb hby d3_55) rfl k) ?_
  show own_Go p e s below _ _ _ T17 (mkF m 56 #[.val (.ref a), .val (.long u), .second, .val (.int (r.toInt32))] [(.int ((cnt + (1 : Int32)) * (2 : Int32)))])
  refine own_st (fun _ k => XS.aloadN X17.here hx rfl (hb hby d3_56) rfl rfl k) ?_
  show own_Go p e s below _ _ _ T17 (mkF m 57 #[.val (.ref a), .val (.long u), .second, .val (.int (r.toInt32))] [(.ref a), (.int ((cnt + (1 : Int32)) * (2 : Int32)))])
  obtain ⟨T18, X18, e18, st18⟩ := getF X17 hx hZ hown (host := "") (Or.inl (hw _ (List.mem_of_getElem? (i := 10) rfl))) Via.refl e17 F_table_a (g := (mkF m 57 #[.val (.ref a), .val (.long u), .second, .val (.int (r.toInt32))] [(.ref a), (.int ((cnt + (1 : Int32)) * (2 : Int32)))])) rfl rfl (hb hby d3_57)
  refine own_st st18 ?_
  show own_Go p e s below _ _ _ T18 (mkF m 60 #[.val (.ref a), .val (.long u), .second, .val (.int (r.toInt32))] [(.ref tb), (.int ((cnt + (1 : Int32)) * (2 : Int32)))])
  refine own_st (own_len X18 hx hZ e18 V_tb (g := (mkF m 60 #[.val (.ref a), .val (.long u), .second, .val (.int (r.toInt32))] [(.ref tb), (.int ((cnt + (1 : Int32)) * (2 : Int32)))])) rfl rfl (hb hby d3_60)) ?_
  show own_Go p e s below _ _ _ T18 (mkF m 61 #[.val (.ref a), .val (.long u), .second, .val (.int (r.toInt32))] [(.int (16 : Int32)), (.int ((cnt + (1 : Int32)) * (2 : Int32)))])
  refine own_st (fun _ k => XS.icmpYes X18.here hx rfl (pc0 := 61) (pc' := 68) rfl (hb hby d3_61) rfl (flt (own_cnt I hn)).2.2.2 (by decide) (by decide) k) ?_
  show own_Go p e s below _ _ _ T18 (mkF m 68 #[.val (.ref a), .val (.long u), .second, .val (.int (r.toInt32))] [])
  exact own_ret0 X18 hx hlk hret (hb hby d3_68) (by decide) (by decide) (by rw [e18]; exact ⟨rfl, N15, ⟨tb, k, (T.set r u), (cnt + 1), z, E_a, F_table_a, F_count_a, F_holdsZero_a, V_tb, g_a, g_tb, ne_a_tb, (own_I_new I hn k0 hpr k1)⟩⟩)
theorem ef_rm7 (m : MethodId) (z0 : Addr) (z1 : Int64) : entryFrame m #[(.ref z0), (.long z1)] 3 = mkF m 0 #[.val (.ref z0), .val (.long z1), .second] [] := by first | (simp [entryFrame, mkF, argsToLocals, Value.category]; done) | rfl
set_option maxRecDepth 65536 in
set_option maxHeartbeats 40000000 in
theorem rm7 (l : Launch) (Z : State) (a0 : Array Value) (hw : ∀ d ∈ tables_1, d.before a0 Z = true) (ws : List Jvm.Cond) (a : Addr) (u : Int64) (S : Int64 → Prop) (n : Nat) (h0 : Heap) (n0 : Nat) (Z0 : n0 ≤ h0.size) (HS : own_Set Z n0 h0 a S n) (hn : n ≤ 3) :
    own_Met l Z (⟨"com/example/phonomark/phonomark/LongSet", "contains", "(J)Z"⟩ : MethodName) prog_28_method_3_code 3 (some .boolean) ({ frames := 1, cells := 0, slots := 0, locals := 32 } : Room) ws #[(.ref a), (.long u)] h0 (fun v h L => ∃ r : Int32, v = some (.int r) ∧ ((r = 1 ∧ S u) ∨ (r = 0 ∧ ¬ S u)) ∧ Fr n0 L ∧ h = h0) 0 0 := by
  refine own_enter pf7 (fun m => ef_rm7 m a u) ?_
  intro p e s m below meth c T0 hx hby hml hown hnm hret hlk hZ X0 e0
  have N0 := Fr.nil n0
  show own_Go p e s below _ _ _ T0 (mkF m 0 #[.val (.ref a), .val (.long u), .second] [])
  obtain ⟨tb, k, T, cnt, z, E_a, F_table_a, F_count_a, F_holdsZero_a, V_tb, g_a, g_tb, ne_a_tb, I⟩ := HS
  have ne_tb_a := Ne.symm ne_a_tb
  refine own_st (fun _ k => XS.lloadN X0.here hx rfl (hb hby d7_0) rfl k) ?_
  show own_Go p e s below _ _ _ T0 (mkF m 1 #[.val (.ref a), .val (.long u), .second] [(.long u)])
  refine own_st (fun _ k => XS.lconst X0.here hx rfl (hb hby d7_1) k) ?_
  show own_Go p e s below _ _ _ T0 (mkF m 2 #[.val (.ref a), .val (.long u), .second] [(.long (0 : Int64)), (.long u)])
  refine own_st (fun _ k => XS.lcmp X0.here hx rfl (hb hby d7_2) rfl k) ?_
  show own_Go p e s below _ _ _ T0 (mkF m 3 #[.val (.ref a), .val (.long u), .second] [(.int (lcmpW u (0 : Int64)))])
  by_cases k0 : u = (0 : Int64)
  · refine own_st (fun _ k => XS.ifNo X0.here hx rfl (hb hby d7_3) rfl ((if0 _ _).trans (teq ((lw_eq _ _).mpr k0)).2) k) ?_
    show own_Go p e s below _ _ _ T0 (mkF m 6 #[.val (.ref a), .val (.long u), .second] [])
    refine own_st (fun _ k => XS.aloadN X0.here hx rfl (hb hby d7_6) rfl rfl k) ?_
    show own_Go p e s below _ _ _ T0 (mkF m 7 #[.val (.ref a), .val (.long u), .second] [(.ref a)])
    obtain ⟨T19, X19, e19, st19⟩ := getF X0 hx hZ hown (host := "") (Or.inl (hw _ (List.mem_of_getElem? (i := 32) rfl))) Via.refl e0 F_holdsZero_a (g := (mkF m 7 #[.val (.ref a), .val (.long u), .second] [(.ref a)])) rfl rfl (hb hby d7_7)
    refine own_st st19 ?_
    show own_Go p e s below _ _ _ T19 (mkF m 10 #[.val (.ref a), .val (.long u), .second] [(.int z)])
    refine own_st (fun _ k => XS.goto X19.here hx rfl (pc0 := 10) (pc' := 36) rfl (hb hby d7_10) (by decide) (by decide) k) ?_
    show own_Go p e s below _ _ _ T19 (mkF m 36 #[.val (.ref a), .val (.long u), .second] [(.int z)])
    exact own_retN X19 hx hlk (t := .boolean) hret (by simp) (hb hby d7_36) (z' := z) (own_z01 I) (by decide) (by decide) ⟨z, rfl, by rw [k0]; exact I.2.2.2.2, N0, e19⟩
  refine own_st (fun _ k => XS.ifYes X0.here hx rfl (pc0 := 3) (pc' := 13) rfl (hb hby d7_3) rfl ((if0 _ _).trans (feq (fun q => k0 ((lw_eq _ _).mp q))).2) (by decide) (by decide) k) ?_
  show own_Go p e s below _ _ _ T0 (mkF m 13 #[.val (.ref a), .val (.long u), .second] [])
  refine own_st (fun _ k => XS.aloadN X0.here hx rfl (hb hby d7_13) rfl rfl k) ?_
  show own_Go p e s below _ _ _ T0 (mkF m 14 #[.val (.ref a), .val (.long u), .second] [(.ref a)])
  obtain ⟨T20, X20, e20, st20⟩ := getF X0 hx hZ hown (host := "") (Or.inl (hw _ (List.mem_of_getElem? (i := 10) rfl))) Via.refl e0 F_table_a (g := (mkF m 14 #[.val (.ref a), .val (.long u), .second] [(.ref a)])) rfl rfl (hb hby d7_14)
  refine own_st st20 ?_
  show own_Go p e s below _ _ _ T20 (mkF m 17 #[.val (.ref a), .val (.long u), .second] [(.ref tb)])
  refine own_st (fun _ k => XS.aloadN X20.here hx rfl (hb hby d7_17) rfl rfl k) ?_
  show own_Go p e s below _ _ _ T20 (mkF m 18 #[.val (.ref a), .val (.long u), .second] [(.ref a), (.ref tb)])
  obtain ⟨T21, X21, e21, st21⟩ := getF X20 hx hZ hown (host := "") (Or.inl (hw _ (List.mem_of_getElem? (i := 10) rfl))) Via.refl e20 F_table_a (g := (mkF m 18 #[.val (.ref a), .val (.long u), .second] [(.ref a), (.ref tb)])) rfl rfl (hb hby d7_18)
  refine own_st st21 ?_
  show own_Go p e s below _ _ _ T21 (mkF m 21 #[.val (.ref a), .val (.long u), .second] [(.ref tb), (.ref tb)])
  refine own_st (fun _ k => XS.lloadN X21.here hx rfl (hb hby d7_21) rfl k) ?_
  show own_Go p e s below _ _ _ T21 (mkF m 22 #[.val (.ref a), .val (.long u), .second] [(.long u), (.ref tb), (.ref tb)])
  have hpr : ∃ r, own_pl T u 4 (own_h u) = some r := by obtain ⟨-, ⟨q, h2, -, h4⟩, -⟩ := I; exact own_pl_some h4 (by omega) (own_hh u).2
  obtain ⟨r, hpr⟩ := hpr
  obtain ⟨hr16, hr0⟩ := own_pl_hit hpr (own_hh u).2
  refine own_callS X21 hx hZ (y := (⟨"com/example/phonomark/phonomark/LongSet", "place", "([JJ)I"⟩ : MethodName)) hown (hw _ (List.mem_of_getElem? (i := 17) rfl)) (hw _ (List.mem_of_getElem? (i := 18) rfl)) (hw _ (List.mem_of_getElem? (i := 2) rfl)) (hw _ (List.mem_of_getElem? (i := 19) rfl)) (by decide) e21 (rm4 l Z a0 hw [] tb u k T r h0 n0 Z0 V_tb hpr) 1 (by decide) (by decide) (g := (mkF m 22 #[.val (.ref a), .val (.long u), .second] [(.long u), (.ref tb), (.ref tb)])) rfl (by rw [hml]; rfl) (argsL := [(.ref tb), (.long u)]) (rest := [(.ref tb)]) pd2 rfl rfl rfl (by show 2 * 0 + _ ≤ _; exact Nat.le_of_eq rfl) (hb hby d7_22) (by decide) (by decide) ?_
  intro T22 v22 L22 X22 hQ22
  obtain ⟨rfl, N22q, e22⟩ := hQ22
  have N22 := Fr.app N0 N22q
  show own_Go p e s below _ _ _ T22 (mkF m 25 #[.val (.ref a), .val (.long u), .second] [(.int (r.toInt32)), (.ref tb)])
  refine own_st (own_ldJ X22 hx hZ e22 V_tb (j := (r.toInt32)) (x := (T.getD r 0)) (own_sx hr16).1 (by rw [(own_sx hr16).2]; exact own_gd T r) (g := (mkF m 25 #[.val (.ref a), .val (.long u), .second] [(.int (r.toInt32)), (.ref tb)])) rfl rfl (hb hby d7_25)) ?_
  show own_Go p e s below _ _ _ T22 (mkF m 26 #[.val (.ref a), .val (.long u), .second] [(.long (T.getD r 0))])
  refine own_st (fun _ k => XS.lloadN X22.here hx rfl (hb hby d7_26) rfl k) ?_
  show own_Go p e s below _ _ _ T22 (mkF m 27 #[.val (.ref a), .val (.long u), .second] [(.long u), (.long (T.getD r 0))])
  refine own_st (fun _ k => XS.lcmp X22.here hx rfl (hb hby d7_27) rfl k) ?_
  show own_Go p e s below _ _ _ T22 (mkF m 28 #[.val (.ref a), .val (.long u), .second] [(.int (lcmpW (T.getD r 0) u))])
  by_cases k1 : (T.getD r 0) = u
  · refine own_st (fun _ k => XS.ifNo X22.here hx rfl (hb hby d7_28) rfl ((if0 _ _).trans (teq ((lw_eq _ _).mpr k1)).2) k) ?_
    show own_Go p e s below _ _ _ T22 (mkF m 31 #[.val (.ref a), .val (.long u), .second] [])
    refine own_st (fun _ k => XS.iconst X22.here hx rfl (hb hby d7_31) k) ?_
    show own_Go p e s below _ _ _ T22 (mkF m 32 #[.val (.ref a), .val (.long u), .second] [(.int (1 : Int32))])
    refine own_st (fun _ k => XS.goto X22.here hx rfl (pc0 := 32) (pc' := 36) rfl (hb hby d7_32) (by decide) (by decide) k) ?_
    show own_Go p e s below _ _ _ T22 (mkF m 36 #[.val (.ref a), .val (.long u), .second] [(.int (1 : Int32))])
    exact own_retN X22 hx hlk (t := .boolean) hret (by simp) (hb hby d7_36) (z' := (1 : Int32)) rfl (by decide) (by decide) ⟨_, rfl, Or.inl ⟨rfl, (I.2.2.1 u k0).mp ⟨r, k1⟩⟩, N22, e22⟩
  · refine own_st (fun _ k => XS.ifYes X22.here hx rfl (pc0 := 28) (pc' := 35) rfl (hb hby d7_28) rfl ((if0 _ _).trans (feq (fun q => k1 ((lw_eq _ _).mp q))).2) (by decide) (by decide) k) ?_
    show own_Go p e s below _ _ _ T22 (mkF m 35 #[.val (.ref a), .val (.long u), .second] [])
    refine own_st (fun _ k => XS.iconst X22.here hx rfl (hb hby d7_35) k) ?_
    show own_Go p e s below _ _ _ T22 (mkF m 36 #[.val (.ref a), .val (.long u), .second] [(.int (0 : Int32))])
    exact own_retN X22 hx hlk (t := .boolean) hret (by simp) (hb hby d7_36) (z' := (0 : Int32)) rfl (by decide) (by decide) ⟨_, rfl, Or.inr ⟨rfl, fun q => by obtain ⟨s', e1, e2⟩ := I.2.2.2.1 u k0 q; rw [hpr] at e1; cases e1; exact k1 e2⟩, N22, e22⟩
theorem ef_rm6 (m : MethodId) (z0 : Addr) (z1 : Int64) : entryFrame m #[(.ref z0), (.long z1)] 5 = mkF m 0 #[.val (.ref z0), .val (.long z1), .second, .unset, .unset] [] := by first | (simp [entryFrame, mkF, argsToLocals, Value.category]; done) | rfl
set_option maxRecDepth 65536 in
set_option maxHeartbeats 40000000 in
theorem rm6 (l : Launch) (Z : State) (a0 : Array Value) (hw : ∀ d ∈ tables_1, d.before a0 Z = true) (ws : List Jvm.Cond) (tb : Addr) (k : ClassId) (t0 t1 t2 t3 t4 t5 t6 t7 t8 t9 t10 t11 t12 t13 t14 t15 : Int64) (h0 : Heap) (n0 : Nat) (Z0 : n0 ≤ h0.size) (V_tb : Arv Z h0 tb k .long (16 : Int32) [(.long t0), (.long t1), (.long t2), (.long t3), (.long t4), (.long t5), (.long t6), (.long t7), (.long t8), (.long t9), (.long t10), (.long t11), (.long t12), (.long t13), (.long t14), (.long t15)] (.long (0 : Int64))) (g_tb : n0 ≤ tb) :
    own_Met l Z (⟨"java/util/Arrays", "fill", "([JJ)V"⟩ : MethodName) jdk_65_method_101_code 5 none ({ frames := 0, cells := 0, slots := 0, locals := 0 } : Room) ws #[(.ref tb), (.long (0 : Int64))] h0 (fun v h L => v = none ∧ Fr n0 L ∧ Keep h0 h [tb] ∧ (Arv Z h tb k .long (16 : Int32) [(.long (0 : Int64)), (.long (0 : Int64)), (.long (0 : Int64)), (.long (0 : Int64)), (.long (0 : Int64)), (.long (0 : Int64)), (.long (0 : Int64)), (.long (0 : Int64)), (.long (0 : Int64)), (.long (0 : Int64)), (.long (0 : Int64)), (.long (0 : Int64)), (.long (0 : Int64)), (.long (0 : Int64)), (.long (0 : Int64)), (.long (0 : Int64))] (.long (0 : Int64)))) 0 0 := by
  refine own_enter pf6 (fun m => ef_rm6 m tb (0 : Int64)) ?_
  intro p e s m below meth c T0 hx hby hml hown hnm hret hlk hZ X0 e0
  have N0 := Fr.nil n0
  show own_Go p e s below _ _ _ T0 (mkF m 0 #[.val (.ref tb), .val (.long (0 : Int64)), .second, .unset, .unset] [])
  have K_0 := Keep.refl h0 [tb]
  refine own_st (fun _ k => XS.iconst X0.here hx rfl (hb hby d6_0) k) ?_
  show own_Go p e s below _ _ _ T0 (mkF m 1 #[.val (.ref tb), .val (.long (0 : Int64)), .second, .unset, .unset] [(.int (0 : Int32))])
  refine own_st (fun _ k => XS.istoreN X0.here hx rfl (hb hby d6_1) rfl (l' := #[.val (.ref tb), .val (.long (0 : Int64)), .second, .val (.int (0 : Int32)), .unset]) rfl k) ?_
  show own_Go p e s below _ _ _ T0 (mkF m 2 #[.val (.ref tb), .val (.long (0 : Int64)), .second, .val (.int (0 : Int32)), .unset] [])
  refine own_st (fun _ k => XS.aloadN X0.here hx rfl (hb hby d6_2) rfl rfl k) ?_
  show own_Go p e s below _ _ _ T0 (mkF m 3 #[.val (.ref tb), .val (.long (0 : Int64)), .second, .val (.int (0 : Int32)), .unset] [(.ref tb)])
  refine own_st (own_len X0 hx hZ e0 V_tb (g := (mkF m 3 #[.val (.ref tb), .val (.long (0 : Int64)), .second, .val (.int (0 : Int32)), .unset] [(.ref tb)])) rfl rfl (hb hby d6_3)) ?_
  show own_Go p e s below _ _ _ T0 (mkF m 4 #[.val (.ref tb), .val (.long (0 : Int64)), .second, .val (.int (0 : Int32)), .unset] [(.int (16 : Int32))])
  refine own_st (fun _ k => XS.istore X0.here hx rfl (hb hby d6_4) rfl (l' := #[.val (.ref tb), .val (.long (0 : Int64)), .second, .val (.int (0 : Int32)), .val (.int (16 : Int32))]) rfl k) ?_
  show own_Go p e s below _ _ _ T0 (mkF m 6 #[.val (.ref tb), .val (.long (0 : Int64)), .second, .val (.int (0 : Int32)), .val (.int (16 : Int32))] [])
  refine own_st (fun _ k => XS.iloadN X0.here hx rfl (hb hby d6_6) rfl k) ?_
  show own_Go p e s below _ _ _ T0 (mkF m 7 #[.val (.ref tb), .val (.long (0 : Int64)), .second, .val (.int (0 : Int32)), .val (.int (16 : Int32))] [(.int (0 : Int32))])
  refine own_st (fun _ k => XS.iload X0.here hx rfl (hb hby d6_7) rfl k) ?_
  show own_Go p e s below _ _ _ T0 (mkF m 9 #[.val (.ref tb), .val (.long (0 : Int64)), .second, .val (.int (0 : Int32)), .val (.int (16 : Int32))] [(.int (16 : Int32)), (.int (0 : Int32))])
  refine own_st (fun _ k => XS.icmpNo X0.here hx rfl (hb hby d6_9) rfl (by decide) k) ?_
  show own_Go p e s below _ _ _ T0 (mkF m 12 #[.val (.ref tb), .val (.long (0 : Int64)), .second, .val (.int (0 : Int32)), .val (.int (16 : Int32))] [])
  refine own_st (fun _ k => XS.aloadN X0.here hx rfl (hb hby d6_12) rfl rfl k) ?_
  show own_Go p e s below _ _ _ T0 (mkF m 13 #[.val (.ref tb), .val (.long (0 : Int64)), .second, .val (.int (0 : Int32)), .val (.int (16 : Int32))] [(.ref tb)])
  refine own_st (fun _ k => XS.iloadN X0.here hx rfl (hb hby d6_13) rfl k) ?_
  show own_Go p e s below _ _ _ T0 (mkF m 14 #[.val (.ref tb), .val (.long (0 : Int64)), .second, .val (.int (0 : Int32)), .val (.int (16 : Int32))] [(.int (0 : Int32)), (.ref tb)])
  refine own_st (fun _ k => XS.lloadN X0.here hx rfl (hb hby d6_14) rfl k) ?_
  show own_Go p e s below _ _ _ T0 (mkF m 15 #[.val (.ref tb), .val (.long (0 : Int64)), .second, .val (.int (0 : Int32)), .val (.int (16 : Int32))] [(.long (0 : Int64)), (.int (0 : Int32)), (.ref tb)])
  obtain ⟨T23, h23, X23, e23, W23, V23, st23⟩ := own_stJ X0 hx hZ e0 V_tb (j := (0 : Int32)) ⟨by decide, by decide⟩ (Nat.le_of_ble_eq_true rfl) (g := (mkF m 15 #[.val (.ref tb), .val (.long (0 : Int64)), .second, .val (.int (0 : Int32)), .val (.int (16 : Int32))] [(.long (0 : Int64)), (.int (0 : Int32)), (.ref tb)])) rfl rfl (hb hby d6_15)
  clear V_tb
  have V_tb : Arv Z h23 tb k .long (16 : Int32) [(.long (0 : Int64)), (.long t1), (.long t2), (.long t3), (.long t4), (.long t5), (.long t6), (.long t7), (.long t8), (.long t9), (.long t10), (.long t11), (.long t12), (.long t13), (.long t14), (.long t15)] (.long (0 : Int64)) := V23
  have Z24 := Nat.le_trans Z0 (Keep.of_wr W23).1
  have K25 := K_0.wr W23 (Or.inl (List.mem_of_getElem? (i := 0) rfl))
  have N23 := Fr.snoc X23 N0 g_tb
  refine own_st st23 ?_
  show own_Go p e s below _ _ _ T23 (mkF m 16 #[.val (.ref tb), .val (.long (0 : Int64)), .second, .val (.int (0 : Int32)), .val (.int (16 : Int32))] [])
  refine own_st (fun _ k => XS.iinc X23.here hx rfl (hb hby d6_16) rfl (l' := #[.val (.ref tb), .val (.long (0 : Int64)), .second, .val (.int (1 : Int32)), .val (.int (16 : Int32))]) rfl k) ?_
  show own_Go p e s below _ _ _ T23 (mkF m 19 #[.val (.ref tb), .val (.long (0 : Int64)), .second, .val (.int (1 : Int32)), .val (.int (16 : Int32))] [])
  refine own_st (fun _ k => XS.goto X23.here hx rfl (pc0 := 19) (pc' := 6) rfl (hb hby d6_19) (by decide) (by decide) k) ?_
  show own_Go p e s below _ _ _ T23 (mkF m 6 #[.val (.ref tb), .val (.long (0 : Int64)), .second, .val (.int (1 : Int32)), .val (.int (16 : Int32))] [])
  refine own_st (fun _ k => XS.iloadN X23.here hx rfl (hb hby d6_6) rfl k) ?_
  show own_Go p e s below _ _ _ T23 (mkF m 7 #[.val (.ref tb), .val (.long (0 : Int64)), .second, .val (.int (1 : Int32)), .val (.int (16 : Int32))] [(.int (1 : Int32))])
  refine own_st (fun _ k => XS.iload X23.here hx rfl (hb hby d6_7) rfl k) ?_
  show own_Go p e s below _ _ _ T23 (mkF m 9 #[.val (.ref tb), .val (.long (0 : Int64)), .second, .val (.int (1 : Int32)), .val (.int (16 : Int32))] [(.int (16 : Int32)), (.int (1 : Int32))])
  refine own_st (fun _ k => XS.icmpNo X23.here hx rfl (hb hby d6_9) rfl (by decide) k) ?_
  show own_Go p e s below _ _ _ T23 (mkF m 12 #[.val (.ref tb), .val (.long (0 : Int64)), .second, .val (.int (1 : Int32)), .val (.int (16 : Int32))] [])
  refine own_st (fun _ k => XS.aloadN X23.here hx rfl (hb hby d6_12) rfl rfl k) ?_
  show own_Go p e s below _ _ _ T23 (mkF m 13 #[.val (.ref tb), .val (.long (0 : Int64)), .second, .val (.int (1 : Int32)), .val (.int (16 : Int32))] [(.ref tb)])
  refine own_st (fun _ k => XS.iloadN X23.here hx rfl (hb hby d6_13) rfl k) ?_
  show own_Go p e s below _ _ _ T23 (mkF m 14 #[.val (.ref tb), .val (.long (0 : Int64)), .second, .val (.int (1 : Int32)), .val (.int (16 : Int32))] [(.int (1 : Int32)), (.ref tb)])
  refine own_st (fun _ k => XS.lloadN X23.here hx rfl (hb hby d6_14) rfl k) ?_
  show own_Go p e s below _ _ _ T23 (mkF m 15 #[.val (.ref tb), .val (.long (0 : Int64)), .second, .val (.int (1 : Int32)), .val (.int (16 : Int32))] [(.long (0 : Int64)), (.int (1 : Int32)), (.ref tb)])
  obtain ⟨T26, h26, X26, e26, W26, V26, st26⟩ := own_stJ X23 hx hZ e23 V_tb (j := (1 : Int32)) ⟨by decide, by decide⟩ (Nat.le_of_ble_eq_true rfl) (g := (mkF m 15 #[.val (.ref tb), .val (.long (0 : Int64)), .second, .val (.int (1 : Int32)), .val (.int (16 : Int32))] [(.long (0 : Int64)), (.int (1 : Int32)), (.ref tb)])) rfl rfl (hb hby d6_15)
  clear V_tb
  have V_tb : Arv Z h26 tb k .long (16 : Int32) [(.long (0 : Int64)), (.long (0 : Int64)), (.long t2), (.long t3), (.long t4), (.long t5), (.long t6), (.long t7), (.long t8), (.long t9), (.long t10), (.long t11), (.long t12), (.long t13), (.long t14), (.long t15)] (.long (0 : Int64)) := V26
  have Z27 := Nat.le_trans Z24 (Keep.of_wr W26).1
  have K28 := K25.wr W26 (Or.inl (List.mem_of_getElem? (i := 0) rfl))
  have N26 := Fr.snoc X26 N23 g_tb
  refine own_st st26 ?_
  show own_Go p e s below _ _ _ T26 (mkF m 16 #[.val (.ref tb), .val (.long (0 : Int64)), .second, .val (.int (1 : Int32)), .val (.int (16 : Int32))] [])
  refine own_st (fun _ k => XS.iinc X26.here hx rfl (hb hby d6_16) rfl (l' := #[.val (.ref tb), .val (.long (0 : Int64)), .second, .val (.int (2 : Int32)), .val (.int (16 : Int32))]) rfl k) ?_
  show own_Go p e s below _ _ _ T26 (mkF m 19 #[.val (.ref tb), .val (.long (0 : Int64)), .second, .val (.int (2 : Int32)), .val (.int (16 : Int32))] [])
  refine own_st (fun _ k => XS.goto X26.here hx rfl (pc0 := 19) (pc' := 6) rfl (hb hby d6_19) (by decide) (by decide) k) ?_
  show own_Go p e s below _ _ _ T26 (mkF m 6 #[.val (.ref tb), .val (.long (0 : Int64)), .second, .val (.int (2 : Int32)), .val (.int (16 : Int32))] [])
  refine own_st (fun _ k => XS.iloadN X26.here hx rfl (hb hby d6_6) rfl k) ?_
  show own_Go p e s below _ _ _ T26 (mkF m 7 #[.val (.ref tb), .val (.long (0 : Int64)), .second, .val (.int (2 : Int32)), .val (.int (16 : Int32))] [(.int (2 : Int32))])
  refine own_st (fun _ k => XS.iload X26.here hx rfl (hb hby d6_7) rfl k) ?_
  show own_Go p e s below _ _ _ T26 (mkF m 9 #[.val (.ref tb), .val (.long (0 : Int64)), .second, .val (.int (2 : Int32)), .val (.int (16 : Int32))] [(.int (16 : Int32)), (.int (2 : Int32))])
  refine own_st (fun _ k => XS.icmpNo X26.here hx rfl (hb hby d6_9) rfl (by decide) k) ?_
  show own_Go p e s below _ _ _ T26 (mkF m 12 #[.val (.ref tb), .val (.long (0 : Int64)), .second, .val (.int (2 : Int32)), .val (.int (16 : Int32))] [])
  refine own_st (fun _ k => XS.aloadN X26.here hx rfl (hb hby d6_12) rfl rfl k) ?_
  show own_Go p e s below _ _ _ T26 (mkF m 13 #[.val (.ref tb), .val (.long (0 : Int64)), .second, .val (.int (2 : Int32)), .val (.int (16 : Int32))] [(.ref tb)])
  refine own_st (fun _ k => XS.iloadN X26.here hx rfl (hb hby d6_13) rfl k) ?_
  show own_Go p e s below _ _ _ T26 (mkF m 14 #[.val (.ref tb), .val (.long (0 : Int64)), .second, .val (.int (2 : Int32)), .val (.int (16 : Int32))] [(.int (2 : Int32)), (.ref tb)])
  refine own_st (fun _ k => XS.lloadN X26.here hx rfl (hb hby d6_14) rfl k) ?_
  show own_Go p e s below _ _ _ T26 (mkF m 15 #[.val (.ref tb), .val (.long (0 : Int64)), .second, .val (.int (2 : Int32)), .val (.int (16 : Int32))] [(.long (0 : Int64)), (.int (2 : Int32)), (.ref tb)])
  obtain ⟨T29, h29, X29, e29, W29, V29, st29⟩ := own_stJ X26 hx hZ e26 V_tb (j := (2 : Int32)) ⟨by decide, by decide⟩ (Nat.le_of_ble_eq_true rfl) (g := (mkF m 15 #[.val (.ref tb), .val (.long (0 : Int64)), .second, .val (.int (2 : Int32)), .val (.int (16 : Int32))] [(.long (0 : Int64)), (.int (2 : Int32)), (.ref tb)])) rfl rfl (hb hby d6_15)
  clear V_tb
  have V_tb : Arv Z h29 tb k .long (16 : Int32) [(.long (0 : Int64)), (.long (0 : Int64)), (.long (0 : Int64)), (.long t3), (.long t4), (.long t5), (.long t6), (.long t7), (.long t8), (.long t9), (.long t10), (.long t11), (.long t12), (.long t13), (.long t14), (.long t15)] (.long (0 : Int64)) := V29
  have Z30 := Nat.le_trans Z27 (Keep.of_wr W29).1
  have K31 := K28.wr W29 (Or.inl (List.mem_of_getElem? (i := 0) rfl))
  have N29 := Fr.snoc X29 N26 g_tb
  refine own_st st29 ?_
  show own_Go p e s below _ _ _ T29 (mkF m 16 #[.val (.ref tb), .val (.long (0 : Int64)), .second, .val (.int (2 : Int32)), .val (.int (16 : Int32))] [])
  refine own_st (fun _ k => XS.iinc X29.here hx rfl (hb hby d6_16) rfl (l' := #[.val (.ref tb), .val (.long (0 : Int64)), .second, .val (.int (3 : Int32)), .val (.int (16 : Int32))]) rfl k) ?_
  show own_Go p e s below _ _ _ T29 (mkF m 19 #[.val (.ref tb), .val (.long (0 : Int64)), .second, .val (.int (3 : Int32)), .val (.int (16 : Int32))] [])
  refine own_st (fun _ k => XS.goto X29.here hx rfl (pc0 := 19) (pc' := 6) rfl (hb hby d6_19) (by decide) (by decide) k) ?_
  show own_Go p e s below _ _ _ T29 (mkF m 6 #[.val (.ref tb), .val (.long (0 : Int64)), .second, .val (.int (3 : Int32)), .val (.int (16 : Int32))] [])
  refine own_st (fun _ k => XS.iloadN X29.here hx rfl (hb hby d6_6) rfl k) ?_
  show own_Go p e s below _ _ _ T29 (mkF m 7 #[.val (.ref tb), .val (.long (0 : Int64)), .second, .val (.int (3 : Int32)), .val (.int (16 : Int32))] [(.int (3 : Int32))])
  refine own_st (fun _ k => XS.iload X29.here hx rfl (hb hby d6_7) rfl k) ?_
  show own_Go p e s below _ _ _ T29 (mkF m 9 #[.val (.ref tb), .val (.long (0 : Int64)), .second, .val (.int (3 : Int32)), .val (.int (16 : Int32))] [(.int (16 : Int32)), (.int (3 : Int32))])
  refine own_st (fun _ k => XS.icmpNo X29.here hx rfl (hb hby d6_9) rfl (by decide) k) ?_
  show own_Go p e s below _ _ _ T29 (mkF m 12 #[.val (.ref tb), .val (.long (0 : Int64)), .second, .val (.int (3 : Int32)), .val (.int (16 : Int32))] [])
  refine own_st (fun _ k => XS.aloadN X29.here hx rfl (hb hby d6_12) rfl rfl k) ?_
  show own_Go p e s below _ _ _ T29 (mkF m 13 #[.val (.ref tb), .val (.long (0 : Int64)), .second, .val (.int (3 : Int32)), .val (.int (16 : Int32))] [(.ref tb)])
  refine own_st (fun _ k => XS.iloadN X29.here hx rfl (hb hby d6_13) rfl k) ?_
  show own_Go p e s below _ _ _ T29 (mkF m 14 #[.val (.ref tb), .val (.long (0 : Int64)), .second, .val (.int (3 : Int32)), .val (.int (16 : Int32))] [(.int (3 : Int32)), (.ref tb)])
  refine own_st (fun _ k => XS.lloadN X29.here hx rfl (hb hby d6_14) rfl k) ?_
  show own_Go p e s below _ _ _ T29 (mkF m 15 #[.val (.ref tb), .val (.long (0 : Int64)), .second, .val (.int (3 : Int32)), .val (.int (16 : Int32))] [(.long (0 : Int64)), (.int (3 : Int32)), (.ref tb)])
  obtain ⟨T32, h32, X32, e32, W32, V32, st32⟩ := own_stJ X29 hx hZ e29 V_tb (j := (3 : Int32)) ⟨by decide, by decide⟩ (Nat.le_of_ble_eq_true rfl) (g := (mkF m 15 #[.val (.ref tb), .val (.long (0 : Int64)), .second, .val (.int (3 : Int32)), .val (.int (16 : Int32))] [(.long (0 : Int64)), (.int (3 : Int32)), (.ref tb)])) rfl rfl (hb hby d6_15)
  clear V_tb
  have V_tb : Arv Z h32 tb k .long (16 : Int32) [(.long (0 : Int64)), (.long (0 : Int64)), (.long (0 : Int64)), (.long (0 : Int64)), (.long t4), (.long t5), (.long t6), (.long t7), (.long t8), (.long t9), (.long t10), (.long t11), (.long t12), (.long t13), (.long t14), (.long t15)] (.long (0 : Int64)) := V32
  have Z33 := Nat.le_trans Z30 (Keep.of_wr W32).1
  have K34 := K31.wr W32 (Or.inl (List.mem_of_getElem? (i := 0) rfl))
  have N32 := Fr.snoc X32 N29 g_tb
  refine own_st st32 ?_
  show own_Go p e s below _ _ _ T32 (mkF m 16 #[.val (.ref tb), .val (.long (0 : Int64)), .second, .val (.int (3 : Int32)), .val (.int (16 : Int32))] [])
  refine own_st (fun _ k => XS.iinc X32.here hx rfl (hb hby d6_16) rfl (l' := #[.val (.ref tb), .val (.long (0 : Int64)), .second, .val (.int (4 : Int32)), .val (.int (16 : Int32))]) rfl k) ?_
  show own_Go p e s below _ _ _ T32 (mkF m 19 #[.val (.ref tb), .val (.long (0 : Int64)), .second, .val (.int (4 : Int32)), .val (.int (16 : Int32))] [])
  refine own_st (fun _ k => XS.goto X32.here hx rfl (pc0 := 19) (pc' := 6) rfl (hb hby d6_19) (by decide) (by decide) k) ?_
  show own_Go p e s below _ _ _ T32 (mkF m 6 #[.val (.ref tb), .val (.long (0 : Int64)), .second, .val (.int (4 : Int32)), .val (.int (16 : Int32))] [])
  refine own_st (fun _ k => XS.iloadN X32.here hx rfl (hb hby d6_6) rfl k) ?_
  show own_Go p e s below _ _ _ T32 (mkF m 7 #[.val (.ref tb), .val (.long (0 : Int64)), .second, .val (.int (4 : Int32)), .val (.int (16 : Int32))] [(.int (4 : Int32))])
  refine own_st (fun _ k => XS.iload X32.here hx rfl (hb hby d6_7) rfl k) ?_
  show own_Go p e s below _ _ _ T32 (mkF m 9 #[.val (.ref tb), .val (.long (0 : Int64)), .second, .val (.int (4 : Int32)), .val (.int (16 : Int32))] [(.int (16 : Int32)), (.int (4 : Int32))])
  refine own_st (fun _ k => XS.icmpNo X32.here hx rfl (hb hby d6_9) rfl (by decide) k) ?_
  show own_Go p e s below _ _ _ T32 (mkF m 12 #[.val (.ref tb), .val (.long (0 : Int64)), .second, .val (.int (4 : Int32)), .val (.int (16 : Int32))] [])
  refine own_st (fun _ k => XS.aloadN X32.here hx rfl (hb hby d6_12) rfl rfl k) ?_
  show own_Go p e s below _ _ _ T32 (mkF m 13 #[.val (.ref tb), .val (.long (0 : Int64)), .second, .val (.int (4 : Int32)), .val (.int (16 : Int32))] [(.ref tb)])
  refine own_st (fun _ k => XS.iloadN X32.here hx rfl (hb hby d6_13) rfl k) ?_
  show own_Go p e s below _ _ _ T32 (mkF m 14 #[.val (.ref tb), .val (.long (0 : Int64)), .second, .val (.int (4 : Int32)), .val (.int (16 : Int32))] [(.int (4 : Int32)), (.ref tb)])
  refine own_st (fun _ k => XS.lloadN X32.here hx rfl (hb hby d6_14) rfl k) ?_
  show own_Go p e s below _ _ _ T32 (mkF m 15 #[.val (.ref tb), .val (.long (0 : Int64)), .second, .val (.int (4 : Int32)), .val (.int (16 : Int32))] [(.long (0 : Int64)), (.int (4 : Int32)), (.ref tb)])
  obtain ⟨T35, h35, X35, e35, W35, V35, st35⟩ := own_stJ X32 hx hZ e32 V_tb (j := (4 : Int32)) ⟨by decide, by decide⟩ (Nat.le_of_ble_eq_true rfl) (g := (mkF m 15 #[.val (.ref tb), .val (.long (0 : Int64)), .second, .val (.int (4 : Int32)), .val (.int (16 : Int32))] [(.long (0 : Int64)), (.int (4 : Int32)), (.ref tb)])) rfl rfl (hb hby d6_15)
  clear V_tb
  have V_tb : Arv Z h35 tb k .long (16 : Int32) [(.long (0 : Int64)), (.long (0 : Int64)), (.long (0 : Int64)), (.long (0 : Int64)), (.long (0 : Int64)), (.long t5), (.long t6), (.long t7), (.long t8), (.long t9), (.long t10), (.long t11), (.long t12), (.long t13), (.long t14), (.long t15)] (.long (0 : Int64)) := V35
  have Z36 := Nat.le_trans Z33 (Keep.of_wr W35).1
  have K37 := K34.wr W35 (Or.inl (List.mem_of_getElem? (i := 0) rfl))
  have N35 := Fr.snoc X35 N32 g_tb
  refine own_st st35 ?_
  show own_Go p e s below _ _ _ T35 (mkF m 16 #[.val (.ref tb), .val (.long (0 : Int64)), .second, .val (.int (4 : Int32)), .val (.int (16 : Int32))] [])
  refine own_st (fun _ k => XS.iinc X35.here hx rfl (hb hby d6_16) rfl (l' := #[.val (.ref tb), .val (.long (0 : Int64)), .second, .val (.int (5 : Int32)), .val (.int (16 : Int32))]) rfl k) ?_
  show own_Go p e s below _ _ _ T35 (mkF m 19 #[.val (.ref tb), .val (.long (0 : Int64)), .second, .val (.int (5 : Int32)), .val (.int (16 : Int32))] [])
  refine own_st (fun _ k => XS.goto X35.here hx rfl (pc0 := 19) (pc' := 6) rfl (hb hby d6_19) (by decide) (by decide) k) ?_
  show own_Go p e s below _ _ _ T35 (mkF m 6 #[.val (.ref tb), .val (.long (0 : Int64)), .second, .val (.int (5 : Int32)), .val (.int (16 : Int32))] [])
  refine own_st (fun _ k => XS.iloadN X35.here hx rfl (hb hby d6_6) rfl k) ?_
  show own_Go p e s below _ _ _ T35 (mkF m 7 #[.val (.ref tb), .val (.long (0 : Int64)), .second, .val (.int (5 : Int32)), .val (.int (16 : Int32))] [(.int (5 : Int32))])
  refine own_st (fun _ k => XS.iload X35.here hx rfl (hb hby d6_7) rfl k) ?_
  show own_Go p e s below _ _ _ T35 (mkF m 9 #[.val (.ref tb), .val (.long (0 : Int64)), .second, .val (.int (5 : Int32)), .val (.int (16 : Int32))] [(.int (16 : Int32)), (.int (5 : Int32))])
  refine own_st (fun _ k => XS.icmpNo X35.here hx rfl (hb hby d6_9) rfl (by decide) k) ?_
  show own_Go p e s below _ _ _ T35 (mkF m 12 #[.val (.ref tb), .val (.long (0 : Int64)), .second, .val (.int (5 : Int32)), .val (.int (16 : Int32))] [])
  refine own_st (fun _ k => XS.aloadN X35.here hx rfl (hb hby d6_12) rfl rfl k) ?_
  show own_Go p e s below _ _ _ T35 (mkF m 13 #[.val (.ref tb), .val (.long (0 : Int64)), .second, .val (.int (5 : Int32)), .val (.int (16 : Int32))] [(.ref tb)])
  refine own_st (fun _ k => XS.iloadN X35.here hx rfl (hb hby d6_13) rfl k) ?_
  show own_Go p e s below _ _ _ T35 (mkF m 14 #[.val (.ref tb), .val (.long (0 : Int64)), .second, .val (.int (5 : Int32)), .val (.int (16 : Int32))] [(.int (5 : Int32)), (.ref tb)])
  refine own_st (fun _ k => XS.lloadN X35.here hx rfl (hb hby d6_14) rfl k) ?_
  show own_Go p e s below _ _ _ T35 (mkF m 15 #[.val (.ref tb), .val (.long (0 : Int64)), .second, .val (.int (5 : Int32)), .val (.int (16 : Int32))] [(.long (0 : Int64)), (.int (5 : Int32)), (.ref tb)])
  obtain ⟨T38, h38, X38, e38, W38, V38, st38⟩ := own_stJ X35 hx hZ e35 V_tb (j := (5 : Int32)) ⟨by decide, by decide⟩ (Nat.le_of_ble_eq_true rfl) (g := (mkF m 15 #[.val (.ref tb), .val (.long (0 : Int64)), .second, .val (.int (5 : Int32)), .val (.int (16 : Int32))] [(.long (0 : Int64)), (.int (5 : Int32)), (.ref tb)])) rfl rfl (hb hby d6_15)
  clear V_tb
  have V_tb : Arv Z h38 tb k .long (16 : Int32) [(.long (0 : Int64)), (.long (0 : Int64)), (.long (0 : Int64)), (.long (0 : Int64)), (.long (0 : Int64)), (.long (0 : Int64)), (.long t6), (.long t7), (.long t8), (.long t9), (.long t10), (.long t11), (.long t12), (.long t13), (.long t14), (.long t15)] (.long (0 : Int64)) := V38
  have Z39 := Nat.le_trans Z36 (Keep.of_wr W38).1
  have K40 := K37.wr W38 (Or.inl (List.mem_of_getElem? (i := 0) rfl))
  have N38 := Fr.snoc X38 N35 g_tb
  refine own_st st38 ?_
  show own_Go p e s below _ _ _ T38 (mkF m 16 #[.val (.ref tb), .val (.long (0 : Int64)), .second, .val (.int (5 : Int32)), .val (.int (16 : Int32))] [])
  refine own_st (fun _ k => XS.iinc X38.here hx rfl (hb hby d6_16) rfl (l' := #[.val (.ref tb), .val (.long (0 : Int64)), .second, .val (.int (6 : Int32)), .val (.int (16 : Int32))]) rfl k) ?_
  show own_Go p e s below _ _ _ T38 (mkF m 19 #[.val (.ref tb), .val (.long (0 : Int64)), .second, .val (.int (6 : Int32)), .val (.int (16 : Int32))] [])
  refine own_st (fun _ k => XS.goto X38.here hx rfl (pc0 := 19) (pc' := 6) rfl (hb hby d6_19) (by decide) (by decide) k) ?_
  show own_Go p e s below _ _ _ T38 (mkF m 6 #[.val (.ref tb), .val (.long (0 : Int64)), .second, .val (.int (6 : Int32)), .val (.int (16 : Int32))] [])
  refine own_st (fun _ k => XS.iloadN X38.here hx rfl (hb hby d6_6) rfl k) ?_
  show own_Go p e s below _ _ _ T38 (mkF m 7 #[.val (.ref tb), .val (.long (0 : Int64)), .second, .val (.int (6 : Int32)), .val (.int (16 : Int32))] [(.int (6 : Int32))])
  refine own_st (fun _ k => XS.iload X38.here hx rfl (hb hby d6_7) rfl k) ?_
  show own_Go p e s below _ _ _ T38 (mkF m 9 #[.val (.ref tb), .val (.long (0 : Int64)), .second, .val (.int (6 : Int32)), .val (.int (16 : Int32))] [(.int (16 : Int32)), (.int (6 : Int32))])
  refine own_st (fun _ k => XS.icmpNo X38.here hx rfl (hb hby d6_9) rfl (by decide) k) ?_
  show own_Go p e s below _ _ _ T38 (mkF m 12 #[.val (.ref tb), .val (.long (0 : Int64)), .second, .val (.int (6 : Int32)), .val (.int (16 : Int32))] [])
  refine own_st (fun _ k => XS.aloadN X38.here hx rfl (hb hby d6_12) rfl rfl k) ?_
  show own_Go p e s below _ _ _ T38 (mkF m 13 #[.val (.ref tb), .val (.long (0 : Int64)), .second, .val (.int (6 : Int32)), .val (.int (16 : Int32))] [(.ref tb)])
  refine own_st (fun _ k => XS.iloadN X38.here hx rfl (hb hby d6_13) rfl k) ?_
  show own_Go p e s below _ _ _ T38 (mkF m 14 #[.val (.ref tb), .val (.long (0 : Int64)), .second, .val (.int (6 : Int32)), .val (.int (16 : Int32))] [(.int (6 : Int32)), (.ref tb)])
  refine own_st (fun _ k => XS.lloadN X38.here hx rfl (hb hby d6_14) rfl k) ?_
  show own_Go p e s below _ _ _ T38 (mkF m 15 #[.val (.ref tb), .val (.long (0 : Int64)), .second, .val (.int (6 : Int32)), .val (.int (16 : Int32))] [(.long (0 : Int64)), (.int (6 : Int32)), (.ref tb)])
  obtain ⟨T41, h41, X41, e41, W41, V41, st41⟩ := own_stJ X38 hx hZ e38 V_tb (j := (6 : Int32)) ⟨by decide, by decide⟩ (Nat.le_of_ble_eq_true rfl) (g := (mkF m 15 #[.val (.ref tb), .val (.long (0 : Int64)), .second, .val (.int (6 : Int32)), .val (.int (16 : Int32))] [(.long (0 : Int64)), (.int (6 : Int32)), (.ref tb)])) rfl rfl (hb hby d6_15)
  clear V_tb
  have V_tb : Arv Z h41 tb k .long (16 : Int32) [(.long (0 : Int64)), (.long (0 : Int64)), (.long (0 : Int64)), (.long (0 : Int64)), (.long (0 : Int64)), (.long (0 : Int64)), (.long (0 : Int64)), (.long t7), (.long t8), (.long t9), (.long t10), (.long t11), (.long t12), (.long t13), (.long t14), (.long t15)] (.long (0 : Int64)) := V41
  have Z42 := Nat.le_trans Z39 (Keep.of_wr W41).1
  have K43 := K40.wr W41 (Or.inl (List.mem_of_getElem? (i := 0) rfl))
  have N41 := Fr.snoc X41 N38 g_tb
  refine own_st st41 ?_
  show own_Go p e s below _ _ _ T41 (mkF m 16 #[.val (.ref tb), .val (.long (0 : Int64)), .second, .val (.int (6 : Int32)), .val (.int (16 : Int32))] [])
  refine own_st (fun _ k => XS.iinc X41.here hx rfl (hb hby d6_16) rfl (l' := #[.val (.ref tb), .val (.long (0 : Int64)), .second, .val (.int (7 : Int32)), .val (.int (16 : Int32))]) rfl k) ?_
  show own_Go p e s below _ _ _ T41 (mkF m 19 #[.val (.ref tb), .val (.long (0 : Int64)), .second, .val (.int (7 : Int32)), .val (.int (16 : Int32))] [])
  refine own_st (fun _ k => XS.goto X41.here hx rfl (pc0 := 19) (pc' := 6) rfl (hb hby d6_19) (by decide) (by decide) k) ?_
  show own_Go p e s below _ _ _ T41 (mkF m 6 #[.val (.ref tb), .val (.long (0 : Int64)), .second, .val (.int (7 : Int32)), .val (.int (16 : Int32))] [])
  refine own_st (fun _ k => XS.iloadN X41.here hx rfl (hb hby d6_6) rfl k) ?_
  show own_Go p e s below _ _ _ T41 (mkF m 7 #[.val (.ref tb), .val (.long (0 : Int64)), .second, .val (.int (7 : Int32)), .val (.int (16 : Int32))] [(.int (7 : Int32))])
  refine own_st (fun _ k => XS.iload X41.here hx rfl (hb hby d6_7) rfl k) ?_
  show own_Go p e s below _ _ _ T41 (mkF m 9 #[.val (.ref tb), .val (.long (0 : Int64)), .second, .val (.int (7 : Int32)), .val (.int (16 : Int32))] [(.int (16 : Int32)), (.int (7 : Int32))])
  refine own_st (fun _ k => XS.icmpNo X41.here hx rfl (hb hby d6_9) rfl (by decide) k) ?_
  show own_Go p e s below _ _ _ T41 (mkF m 12 #[.val (.ref tb), .val (.long (0 : Int64)), .second, .val (.int (7 : Int32)), .val (.int (16 : Int32))] [])
  refine own_st (fun _ k => XS.aloadN X41.here hx rfl (hb hby d6_12) rfl rfl k) ?_
  show own_Go p e s below _ _ _ T41 (mkF m 13 #[.val (.ref tb), .val (.long (0 : Int64)), .second, .val (.int (7 : Int32)), .val (.int (16 : Int32))] [(.ref tb)])
  refine own_st (fun _ k => XS.iloadN X41.here hx rfl (hb hby d6_13) rfl k) ?_
  show own_Go p e s below _ _ _ T41 (mkF m 14 #[.val (.ref tb), .val (.long (0 : Int64)), .second, .val (.int (7 : Int32)), .val (.int (16 : Int32))] [(.int (7 : Int32)), (.ref tb)])
  refine own_st (fun _ k => XS.lloadN X41.here hx rfl (hb hby d6_14) rfl k) ?_
  show own_Go p e s below _ _ _ T41 (mkF m 15 #[.val (.ref tb), .val (.long (0 : Int64)), .second, .val (.int (7 : Int32)), .val (.int (16 : Int32))] [(.long (0 : Int64)), (.int (7 : Int32)), (.ref tb)])
  obtain ⟨T44, h44, X44, e44, W44, V44, st44⟩ := own_stJ X41 hx hZ e41 V_tb (j := (7 : Int32)) ⟨by decide, by decide⟩ (Nat.le_of_ble_eq_true rfl) (g := (mkF m 15 #[.val (.ref tb), .val (.long (0 : Int64)), .second, .val (.int (7 : Int32)), .val (.int (16 : Int32))] [(.long (0 : Int64)), (.int (7 : Int32)), (.ref tb)])) rfl rfl (hb hby d6_15)
  clear V_tb
  have V_tb : Arv Z h44 tb k .long (16 : Int32) [(.long (0 : Int64)), (.long (0 : Int64)), (.long (0 : Int64)), (.long (0 : Int64)), (.long (0 : Int64)), (.long (0 : Int64)), (.long (0 : Int64)), (.long (0 : Int64)), (.long t8), (.long t9), (.long t10), (.long t11), (.long t12), (.long t13), (.long t14), (.long t15)] (.long (0 : Int64)) := V44
  have Z45 := Nat.le_trans Z42 (Keep.of_wr W44).1
  have K46 := K43.wr W44 (Or.inl (List.mem_of_getElem? (i := 0) rfl))
  have N44 := Fr.snoc X44 N41 g_tb
  refine own_st st44 ?_
  show own_Go p e s below _ _ _ T44 (mkF m 16 #[.val (.ref tb), .val (.long (0 : Int64)), .second, .val (.int (7 : Int32)), .val (.int (16 : Int32))] [])
  refine own_st (fun _ k => XS.iinc X44.here hx rfl (hb hby d6_16) rfl (l' := #[.val (.ref tb), .val (.long (0 : Int64)), .second, .val (.int (8 : Int32)), .val (.int (16 : Int32))]) rfl k) ?_
  show own_Go p e s below _ _ _ T44 (mkF m 19 #[.val (.ref tb), .val (.long (0 : Int64)), .second, .val (.int (8 : Int32)), .val (.int (16 : Int32))] [])
  refine own_st (fun _ k => XS.goto X44.here hx rfl (pc0 := 19) (pc' := 6) rfl (hb hby d6_19) (by decide) (by decide) k) ?_
  show own_Go p e s below _ _ _ T44 (mkF m 6 #[.val (.ref tb), .val (.long (0 : Int64)), .second, .val (.int (8 : Int32)), .val (.int (16 : Int32))] [])
  refine own_st (fun _ k => XS.iloadN X44.here hx rfl (hb hby d6_6) rfl k) ?_
  show own_Go p e s below _ _ _ T44 (mkF m 7 #[.val (.ref tb), .val (.long (0 : Int64)), .second, .val (.int (8 : Int32)), .val (.int (16 : Int32))] [(.int (8 : Int32))])
  refine own_st (fun _ k => XS.iload X44.here hx rfl (hb hby d6_7) rfl k) ?_
  show own_Go p e s below _ _ _ T44 (mkF m 9 #[.val (.ref tb), .val (.long (0 : Int64)), .second, .val (.int (8 : Int32)), .val (.int (16 : Int32))] [(.int (16 : Int32)), (.int (8 : Int32))])
  refine own_st (fun _ k => XS.icmpNo X44.here hx rfl (hb hby d6_9) rfl (by decide) k) ?_
  show own_Go p e s below _ _ _ T44 (mkF m 12 #[.val (.ref tb), .val (.long (0 : Int64)), .second, .val (.int (8 : Int32)), .val (.int (16 : Int32))] [])
  refine own_st (fun _ k => XS.aloadN X44.here hx rfl (hb hby d6_12) rfl rfl k) ?_
  show own_Go p e s below _ _ _ T44 (mkF m 13 #[.val (.ref tb), .val (.long (0 : Int64)), .second, .val (.int (8 : Int32)), .val (.int (16 : Int32))] [(.ref tb)])
  refine own_st (fun _ k => XS.iloadN X44.here hx rfl (hb hby d6_13) rfl k) ?_
  show own_Go p e s below _ _ _ T44 (mkF m 14 #[.val (.ref tb), .val (.long (0 : Int64)), .second, .val (.int (8 : Int32)), .val (.int (16 : Int32))] [(.int (8 : Int32)), (.ref tb)])
  refine own_st (fun _ k => XS.lloadN X44.here hx rfl (hb hby d6_14) rfl k) ?_
  show own_Go p e s below _ _ _ T44 (mkF m 15 #[.val (.ref tb), .val (.long (0 : Int64)), .second, .val (.int (8 : Int32)), .val (.int (16 : Int32))] [(.long (0 : Int64)), (.int (8 : Int32)), (.ref tb)])
  obtain ⟨T47, h47, X47, e47, W47, V47, st47⟩ := own_stJ X44 hx hZ e44 V_tb (j := (8 : Int32)) ⟨by decide, by decide⟩ (Nat.le_of_ble_eq_true rfl) (g := (mkF m 15 #[.val (.ref tb), .val (.long (0 : Int64)), .second, .val (.int (8 : Int32)), .val (.int (16 : Int32))] [(.long (0 : Int64)), (.int (8 : Int32)), (.ref tb)])) rfl rfl (hb hby d6_15)
  clear V_tb
  have V_tb : Arv Z h47 tb k .long (16 : Int32) [(.long (0 : Int64)), (.long (0 : Int64)), (.long (0 : Int64)), (.long (0 : Int64)), (.long (0 : Int64)), (.long (0 : Int64)), (.long (0 : Int64)), (.long (0 : Int64)), (.long (0 : Int64)), (.long t9), (.long t10), (.long t11), (.long t12), (.long t13), (.long t14), (.long t15)] (.long (0 : Int64)) := V47
  have Z48 := Nat.le_trans Z45 (Keep.of_wr W47).1
  have K49 := K46.wr W47 (Or.inl (List.mem_of_getElem? (i := 0) rfl))
  have N47 := Fr.snoc X47 N44 g_tb
  refine own_st st47 ?_
  show own_Go p e s below _ _ _ T47 (mkF m 16 #[.val (.ref tb), .val (.long (0 : Int64)), .second, .val (.int (8 : Int32)), .val (.int (16 : Int32))] [])
  refine own_st (fun _ k => XS.iinc X47.here hx rfl (hb hby d6_16) rfl (l' := #[.val (.ref tb), .val (.long (0 : Int64)), .second, .val (.int (9 : Int32)), .val (.int (16 : Int32))]) rfl k) ?_
  show own_Go p e s below _ _ _ T47 (mkF m 19 #[.val (.ref tb), .val (.long (0 : Int64)), .second, .val (.int (9 : Int32)), .val (.int (16 : Int32))] [])
  refine own_st (fun _ k => XS.goto X47.here hx rfl (pc0 := 19) (pc' := 6) rfl (hb hby d6_19) (by decide) (by decide) k) ?_
  show own_Go p e s below _ _ _ T47 (mkF m 6 #[.val (.ref tb), .val (.long (0 : Int64)), .second, .val (.int (9 : Int32)), .val (.int (16 : Int32))] [])
  refine own_st (fun _ k => XS.iloadN X47.here hx rfl (hb hby d6_6) rfl k) ?_
  show own_Go p e s below _ _ _ T47 (mkF m 7 #[.val (.ref tb), .val (.long (0 : Int64)), .second, .val (.int (9 : Int32)), .val (.int (16 : Int32))] [(.int (9 : Int32))])
  refine own_st (fun _ k => XS.iload X47.here hx rfl (hb hby d6_7) rfl k) ?_
  show own_Go p e s below _ _ _ T47 (mkF m 9 #[.val (.ref tb), .val (.long (0 : Int64)), .second, .val (.int (9 : Int32)), .val (.int (16 : Int32))] [(.int (16 : Int32)), (.int (9 : Int32))])
  refine own_st (fun _ k => XS.icmpNo X47.here hx rfl (hb hby d6_9) rfl (by decide) k) ?_
  show own_Go p e s below _ _ _ T47 (mkF m 12 #[.val (.ref tb), .val (.long (0 : Int64)), .second, .val (.int (9 : Int32)), .val (.int (16 : Int32))] [])
  refine own_st (fun _ k => XS.aloadN X47.here hx rfl (hb hby d6_12) rfl rfl k) ?_
  show own_Go p e s below _ _ _ T47 (mkF m 13 #[.val (.ref tb), .val (.long (0 : Int64)), .second, .val (.int (9 : Int32)), .val (.int (16 : Int32))] [(.ref tb)])
  refine own_st (fun _ k => XS.iloadN X47.here hx rfl (hb hby d6_13) rfl k) ?_
  show own_Go p e s below _ _ _ T47 (mkF m 14 #[.val (.ref tb), .val (.long (0 : Int64)), .second, .val (.int (9 : Int32)), .val (.int (16 : Int32))] [(.int (9 : Int32)), (.ref tb)])
  refine own_st (fun _ k => XS.lloadN X47.here hx rfl (hb hby d6_14) rfl k) ?_
  show own_Go p e s below _ _ _ T47 (mkF m 15 #[.val (.ref tb), .val (.long (0 : Int64)), .second, .val (.int (9 : Int32)), .val (.int (16 : Int32))] [(.long (0 : Int64)), (.int (9 : Int32)), (.ref tb)])
  obtain ⟨T50, h50, X50, e50, W50, V50, st50⟩ := own_stJ X47 hx hZ e47 V_tb (j := (9 : Int32)) ⟨by decide, by decide⟩ (Nat.le_of_ble_eq_true rfl) (g := (mkF m 15 #[.val (.ref tb), .val (.long (0 : Int64)), .second, .val (.int (9 : Int32)), .val (.int (16 : Int32))] [(.long (0 : Int64)), (.int (9 : Int32)), (.ref tb)])) rfl rfl (hb hby d6_15)
  clear V_tb
  have V_tb : Arv Z h50 tb k .long (16 : Int32) [(.long (0 : Int64)), (.long (0 : Int64)), (.long (0 : Int64)), (.long (0 : Int64)), (.long (0 : Int64)), (.long (0 : Int64)), (.long (0 : Int64)), (.long (0 : Int64)), (.long (0 : Int64)), (.long (0 : Int64)), (.long t10), (.long t11), (.long t12), (.long t13), (.long t14), (.long t15)] (.long (0 : Int64)) := V50
  have Z51 := Nat.le_trans Z48 (Keep.of_wr W50).1
  have K52 := K49.wr W50 (Or.inl (List.mem_of_getElem? (i := 0) rfl))
  have N50 := Fr.snoc X50 N47 g_tb
  refine own_st st50 ?_
  show own_Go p e s below _ _ _ T50 (mkF m 16 #[.val (.ref tb), .val (.long (0 : Int64)), .second, .val (.int (9 : Int32)), .val (.int (16 : Int32))] [])
  refine own_st (fun _ k => XS.iinc X50.here hx rfl (hb hby d6_16) rfl (l' := #[.val (.ref tb), .val (.long (0 : Int64)), .second, .val (.int (10 : Int32)), .val (.int (16 : Int32))]) rfl k) ?_
  show own_Go p e s below _ _ _ T50 (mkF m 19 #[.val (.ref tb), .val (.long (0 : Int64)), .second, .val (.int (10 : Int32)), .val (.int (16 : Int32))] [])
  refine own_st (fun _ k => XS.goto X50.here hx rfl (pc0 := 19) (pc' := 6) rfl (hb hby d6_19) (by decide) (by decide) k) ?_
  show own_Go p e s below _ _ _ T50 (mkF m 6 #[.val (.ref tb), .val (.long (0 : Int64)), .second, .val (.int (10 : Int32)), .val (.int (16 : Int32))] [])
  refine own_st (fun _ k => XS.iloadN X50.here hx rfl (hb hby d6_6) rfl k) ?_
  show own_Go p e s below _ _ _ T50 (mkF m 7 #[.val (.ref tb), .val (.long (0 : Int64)), .second, .val (.int (10 : Int32)), .val (.int (16 : Int32))] [(.int (10 : Int32))])
  refine own_st (fun _ k => XS.iload X50.here hx rfl (hb hby d6_7) rfl k) ?_
  show own_Go p e s below _ _ _ T50 (mkF m 9 #[.val (.ref tb), .val (.long (0 : Int64)), .second, .val (.int (10 : Int32)), .val (.int (16 : Int32))] [(.int (16 : Int32)), (.int (10 : Int32))])
  refine own_st (fun _ k => XS.icmpNo X50.here hx rfl (hb hby d6_9) rfl (by decide) k) ?_
  show own_Go p e s below _ _ _ T50 (mkF m 12 #[.val (.ref tb), .val (.long (0 : Int64)), .second, .val (.int (10 : Int32)), .val (.int (16 : Int32))] [])
  refine own_st (fun _ k => XS.aloadN X50.here hx rfl (hb hby d6_12) rfl rfl k) ?_
  show own_Go p e s below _ _ _ T50 (mkF m 13 #[.val (.ref tb), .val (.long (0 : Int64)), .second, .val (.int (10 : Int32)), .val (.int (16 : Int32))] [(.ref tb)])
  refine own_st (fun _ k => XS.iloadN X50.here hx rfl (hb hby d6_13) rfl k) ?_
  show own_Go p e s below _ _ _ T50 (mkF m 14 #[.val (.ref tb), .val (.long (0 : Int64)), .second, .val (.int (10 : Int32)), .val (.int (16 : Int32))] [(.int (10 : Int32)), (.ref tb)])
  refine own_st (fun _ k => XS.lloadN X50.here hx rfl (hb hby d6_14) rfl k) ?_
  show own_Go p e s below _ _ _ T50 (mkF m 15 #[.val (.ref tb), .val (.long (0 : Int64)), .second, .val (.int (10 : Int32)), .val (.int (16 : Int32))] [(.long (0 : Int64)), (.int (10 : Int32)), (.ref tb)])
  obtain ⟨T53, h53, X53, e53, W53, V53, st53⟩ := own_stJ X50 hx hZ e50 V_tb (j := (10 : Int32)) ⟨by decide, by decide⟩ (Nat.le_of_ble_eq_true rfl) (g := (mkF m 15 #[.val (.ref tb), .val (.long (0 : Int64)), .second, .val (.int (10 : Int32)), .val (.int (16 : Int32))] [(.long (0 : Int64)), (.int (10 : Int32)), (.ref tb)])) rfl rfl (hb hby d6_15)
  clear V_tb
  have V_tb : Arv Z h53 tb k .long (16 : Int32) [(.long (0 : Int64)), (.long (0 : Int64)), (.long (0 : Int64)), (.long (0 : Int64)), (.long (0 : Int64)), (.long (0 : Int64)), (.long (0 : Int64)), (.long (0 : Int64)), (.long (0 : Int64)), (.long (0 : Int64)), (.long (0 : Int64)), (.long t11), (.long t12), (.long t13), (.long t14), (.long t15)] (.long (0 : Int64)) := V53
  have Z54 := Nat.le_trans Z51 (Keep.of_wr W53).1
  have K55 := K52.wr W53 (Or.inl (List.mem_of_getElem? (i := 0) rfl))
  have N53 := Fr.snoc X53 N50 g_tb
  refine own_st st53 ?_
  show own_Go p e s below _ _ _ T53 (mkF m 16 #[.val (.ref tb), .val (.long (0 : Int64)), .second, .val (.int (10 : Int32)), .val (.int (16 : Int32))] [])
  refine own_st (fun _ k => XS.iinc X53.here hx rfl (hb hby d6_16) rfl (l' := #[.val (.ref tb), .val (.long (0 : Int64)), .second, .val (.int (11 : Int32)), .val (.int (16 : Int32))]) rfl k) ?_
  show own_Go p e s below _ _ _ T53 (mkF m 19 #[.val (.ref tb), .val (.long (0 : Int64)), .second, .val (.int (11 : Int32)), .val (.int (16 : Int32))] [])
  refine own_st (fun _ k => XS.goto X53.here hx rfl (pc0 := 19) (pc' := 6) rfl (hb hby d6_19) (by decide) (by decide) k) ?_
  show own_Go p e s below _ _ _ T53 (mkF m 6 #[.val (.ref tb), .val (.long (0 : Int64)), .second, .val (.int (11 : Int32)), .val (.int (16 : Int32))] [])
  refine own_st (fun _ k => XS.iloadN X53.here hx rfl (hb hby d6_6) rfl k) ?_
  show own_Go p e s below _ _ _ T53 (mkF m 7 #[.val (.ref tb), .val (.long (0 : Int64)), .second, .val (.int (11 : Int32)), .val (.int (16 : Int32))] [(.int (11 : Int32))])
  refine own_st (fun _ k => XS.iload X53.here hx rfl (hb hby d6_7) rfl k) ?_
  show own_Go p e s below _ _ _ T53 (mkF m 9 #[.val (.ref tb), .val (.long (0 : Int64)), .second, .val (.int (11 : Int32)), .val (.int (16 : Int32))] [(.int (16 : Int32)), (.int (11 : Int32))])
  refine own_st (fun _ k => XS.icmpNo X53.here hx rfl (hb hby d6_9) rfl (by decide) k) ?_
  show own_Go p e s below _ _ _ T53 (mkF m 12 #[.val (.ref tb), .val (.long (0 : Int64)), .second, .val (.int (11 : Int32)), .val (.int (16 : Int32))] [])
  refine own_st (fun _ k => XS.aloadN X53.here hx rfl (hb hby d6_12) rfl rfl k) ?_
  show own_Go p e s below _ _ _ T53 (mkF m 13 #[.val (.ref tb), .val (.long (0 : Int64)), .second, .val (.int (11 : Int32)), .val (.int (16 : Int32))] [(.ref tb)])
  refine own_st (fun _ k => XS.iloadN X53.here hx rfl (hb hby d6_13) rfl k) ?_
  show own_Go p e s below _ _ _ T53 (mkF m 14 #[.val (.ref tb), .val (.long (0 : Int64)), .second, .val (.int (11 : Int32)), .val (.int (16 : Int32))] [(.int (11 : Int32)), (.ref tb)])
  refine own_st (fun _ k => XS.lloadN X53.here hx rfl (hb hby d6_14) rfl k) ?_
  show own_Go p e s below _ _ _ T53 (mkF m 15 #[.val (.ref tb), .val (.long (0 : Int64)), .second, .val (.int (11 : Int32)), .val (.int (16 : Int32))] [(.long (0 : Int64)), (.int (11 : Int32)), (.ref tb)])
  obtain ⟨T56, h56, X56, e56, W56, V56, st56⟩ := own_stJ X53 hx hZ e53 V_tb (j := (11 : Int32)) ⟨by decide, by decide⟩ (Nat.le_of_ble_eq_true rfl) (g := (mkF m 15 #[.val (.ref tb), .val (.long (0 : Int64)), .second, .val (.int (11 : Int32)), .val (.int (16 : Int32))] [(.long (0 : Int64)), (.int (11 : Int32)), (.ref tb)])) rfl rfl (hb hby d6_15)
  clear V_tb
  have V_tb : Arv Z h56 tb k .long (16 : Int32) [(.long (0 : Int64)), (.long (0 : Int64)), (.long (0 : Int64)), (.long (0 : Int64)), (.long (0 : Int64)), (.long (0 : Int64)), (.long (0 : Int64)), (.long (0 : Int64)), (.long (0 : Int64)), (.long (0 : Int64)), (.long (0 : Int64)), (.long (0 : Int64)), (.long t12), (.long t13), (.long t14), (.long t15)] (.long (0 : Int64)) := V56
  have Z57 := Nat.le_trans Z54 (Keep.of_wr W56).1
  have K58 := K55.wr W56 (Or.inl (List.mem_of_getElem? (i := 0) rfl))
  have N56 := Fr.snoc X56 N53 g_tb
  refine own_st st56 ?_
  show own_Go p e s below _ _ _ T56 (mkF m 16 #[.val (.ref tb), .val (.long (0 : Int64)), .second, .val (.int (11 : Int32)), .val (.int (16 : Int32))] [])
  refine own_st (fun _ k => XS.iinc X56.here hx rfl (hb hby d6_16) rfl (l' := #[.val (.ref tb), .val (.long (0 : Int64)), .second, .val (.int (12 : Int32)), .val (.int (16 : Int32))]) rfl k) ?_
  show own_Go p e s below _ _ _ T56 (mkF m 19 #[.val (.ref tb), .val (.long (0 : Int64)), .second, .val (.int (12 : Int32)), .val (.int (16 : Int32))] [])
  refine own_st (fun _ k => XS.goto X56.here hx rfl (pc0 := 19) (pc' := 6) rfl (hb hby d6_19) (by decide) (by decide) k) ?_
  show own_Go p e s below _ _ _ T56 (mkF m 6 #[.val (.ref tb), .val (.long (0 : Int64)), .second, .val (.int (12 : Int32)), .val (.int (16 : Int32))] [])
  refine own_st (fun _ k => XS.iloadN X56.here hx rfl (hb hby d6_6) rfl k) ?_
  show own_Go p e s below _ _ _ T56 (mkF m 7 #[.val (.ref tb), .val (.long (0 : Int64)), .second, .val (.int (12 : Int32)), .val (.int (16 : Int32))] [(.int (12 : Int32))])
  refine own_st (fun _ k => XS.iload X56.here hx rfl (hb hby d6_7) rfl k) ?_
  show own_Go p e s below _ _ _ T56 (mkF m 9 #[.val (.ref tb), .val (.long (0 : Int64)), .second, .val (.int (12 : Int32)), .val (.int (16 : Int32))] [(.int (16 : Int32)), (.int (12 : Int32))])
  refine own_st (fun _ k => XS.icmpNo X56.here hx rfl (hb hby d6_9) rfl (by decide) k) ?_
  show own_Go p e s below _ _ _ T56 (mkF m 12 #[.val (.ref tb), .val (.long (0 : Int64)), .second, .val (.int (12 : Int32)), .val (.int (16 : Int32))] [])
  refine own_st (fun _ k => XS.aloadN X56.here hx rfl (hb hby d6_12) rfl rfl k) ?_
  show own_Go p e s below _ _ _ T56 (mkF m 13 #[.val (.ref tb), .val (.long (0 : Int64)), .second, .val (.int (12 : Int32)), .val (.int (16 : Int32))] [(.ref tb)])
  refine own_st (fun _ k => XS.iloadN X56.here hx rfl (hb hby d6_13) rfl k) ?_
  show own_Go p e s below _ _ _ T56 (mkF m 14 #[.val (.ref tb), .val (.long (0 : Int64)), .second, .val (.int (12 : Int32)), .val (.int (16 : Int32))] [(.int (12 : Int32)), (.ref tb)])
  refine own_st (fun _ k => XS.lloadN X56.here hx rfl (hb hby d6_14) rfl k) ?_
  show own_Go p e s below _ _ _ T56 (mkF m 15 #[.val (.ref tb), .val (.long (0 : Int64)), .second, .val (.int (12 : Int32)), .val (.int (16 : Int32))] [(.long (0 : Int64)), (.int (12 : Int32)), (.ref tb)])
  obtain ⟨T59, h59, X59, e59, W59, V59, st59⟩ := own_stJ X56 hx hZ e56 V_tb (j := (12 : Int32)) ⟨by decide, by decide⟩ (Nat.le_of_ble_eq_true rfl) (g := (mkF m 15 #[.val (.ref tb), .val (.long (0 : Int64)), .second, .val (.int (12 : Int32)), .val (.int (16 : Int32))] [(.long (0 : Int64)), (.int (12 : Int32)), (.ref tb)])) rfl rfl (hb hby d6_15)
  clear V_tb
  have V_tb : Arv Z h59 tb k .long (16 : Int32) [(.long (0 : Int64)), (.long (0 : Int64)), (.long (0 : Int64)), (.long (0 : Int64)), (.long (0 : Int64)), (.long (0 : Int64)), (.long (0 : Int64)), (.long (0 : Int64)), (.long (0 : Int64)), (.long (0 : Int64)), (.long (0 : Int64)), (.long (0 : Int64)), (.long (0 : Int64)), (.long t13), (.long t14), (.long t15)] (.long (0 : Int64)) := V59
  have Z60 := Nat.le_trans Z57 (Keep.of_wr W59).1
  have K61 := K58.wr W59 (Or.inl (List.mem_of_getElem? (i := 0) rfl))
  have N59 := Fr.snoc X59 N56 g_tb
  refine own_st st59 ?_
  show own_Go p e s below _ _ _ T59 (mkF m 16 #[.val (.ref tb), .val (.long (0 : Int64)), .second, .val (.int (12 : Int32)), .val (.int (16 : Int32))] [])
  refine own_st (fun _ k => XS.iinc X59.here hx rfl (hb hby d6_16) rfl (l' := #[.val (.ref tb), .val (.long (0 : Int64)), .second, .val (.int (13 : Int32)), .val (.int (16 : Int32))]) rfl k) ?_
  show own_Go p e s below _ _ _ T59 (mkF m 19 #[.val (.ref tb), .val (.long (0 : Int64)), .second, .val (.int (13 : Int32)), .val (.int (16 : Int32))] [])
  refine own_st (fun _ k => XS.goto X59.here hx rfl (pc0 := 19) (pc' := 6) rfl (hb hby d6_19) (by decide) (by decide) k) ?_
  show own_Go p e s below _ _ _ T59 (mkF m 6 #[.val (.ref tb), .val (.long (0 : Int64)), .second, .val (.int (13 : Int32)), .val (.int (16 : Int32))] [])
  refine own_st (fun _ k => XS.iloadN X59.here hx rfl (hb hby d6_6) rfl k) ?_
  show own_Go p e s below _ _ _ T59 (mkF m 7 #[.val (.ref tb), .val (.long (0 : Int64)), .second, .val (.int (13 : Int32)), .val (.int (16 : Int32))] [(.int (13 : Int32))])
  refine own_st (fun _ k => XS.iload X59.here hx rfl (hb hby d6_7) rfl k) ?_
  show own_Go p e s below _ _ _ T59 (mkF m 9 #[.val (.ref tb), .val (.long (0 : Int64)), .second, .val (.int (13 : Int32)), .val (.int (16 : Int32))] [(.int (16 : Int32)), (.int (13 : Int32))])
  refine own_st (fun _ k => XS.icmpNo X59.here hx rfl (hb hby d6_9) rfl (by decide) k) ?_
  show own_Go p e s below _ _ _ T59 (mkF m 12 #[.val (.ref tb), .val (.long (0 : Int64)), .second, .val (.int (13 : Int32)), .val (.int (16 : Int32))] [])
  refine own_st (fun _ k => XS.aloadN X59.here hx rfl (hb hby d6_12) rfl rfl k) ?_
  show own_Go p e s below _ _ _ T59 (mkF m 13 #[.val (.ref tb), .val (.long (0 : Int64)), .second, .val (.int (13 : Int32)), .val (.int (16 : Int32))] [(.ref tb)])
  refine own_st (fun _ k => XS.iloadN X59.here hx rfl (hb hby d6_13) rfl k) ?_
  show own_Go p e s below _ _ _ T59 (mkF m 14 #[.val (.ref tb), .val (.long (0 : Int64)), .second, .val (.int (13 : Int32)), .val (.int (16 : Int32))] [(.int (13 : Int32)), (.ref tb)])
  refine own_st (fun _ k => XS.lloadN X59.here hx rfl (hb hby d6_14) rfl k) ?_
  show own_Go p e s below _ _ _ T59 (mkF m 15 #[.val (.ref tb), .val (.long (0 : Int64)), .second, .val (.int (13 : Int32)), .val (.int (16 : Int32))] [(.long (0 : Int64)), (.int (13 : Int32)), (.ref tb)])
  obtain ⟨T62, h62, X62, e62, W62, V62, st62⟩ := own_stJ X59 hx hZ e59 V_tb (j := (13 : Int32)) ⟨by decide, by decide⟩ (Nat.le_of_ble_eq_true rfl) (g := (mkF m 15 #[.val (.ref tb), .val (.long (0 : Int64)), .second, .val (.int (13 : Int32)), .val (.int (16 : Int32))] [(.long (0 : Int64)), (.int (13 : Int32)), (.ref tb)])) rfl rfl (hb hby d6_15)
  clear V_tb
  have V_tb : Arv Z h62 tb k .long (16 : Int32) [(.long (0 : Int64)), (.long (0 : Int64)), (.long (0 : Int64)), (.long (0 : Int64)), (.long (0 : Int64)), (.long (0 : Int64)), (.long (0 : Int64)), (.long (0 : Int64)), (.long (0 : Int64)), (.long (0 : Int64)), (.long (0 : Int64)), (.long (0 : Int64)), (.long (0 : Int64)), (.long (0 : Int64)), (.long t14), (.long t15)] (.long (0 : Int64)) := V62
  have Z63 := Nat.le_trans Z60 (Keep.of_wr W62).1
  have K64 := K61.wr W62 (Or.inl (List.mem_of_getElem? (i := 0) rfl))
  have N62 := Fr.snoc X62 N59 g_tb
  refine own_st st62 ?_
  show own_Go p e s below _ _ _ T62 (mkF m 16 #[.val (.ref tb), .val (.long (0 : Int64)), .second, .val (.int (13 : Int32)), .val (.int (16 : Int32))] [])
  refine own_st (fun _ k => XS.iinc X62.here hx rfl (hb hby d6_16) rfl (l' := #[.val (.ref tb), .val (.long (0 : Int64)), .second, .val (.int (14 : Int32)), .val (.int (16 : Int32))]) rfl k) ?_
  show own_Go p e s below _ _ _ T62 (mkF m 19 #[.val (.ref tb), .val (.long (0 : Int64)), .second, .val (.int (14 : Int32)), .val (.int (16 : Int32))] [])
  refine own_st (fun _ k => XS.goto X62.here hx rfl (pc0 := 19) (pc' := 6) rfl (hb hby d6_19) (by decide) (by decide) k) ?_
  show own_Go p e s below _ _ _ T62 (mkF m 6 #[.val (.ref tb), .val (.long (0 : Int64)), .second, .val (.int (14 : Int32)), .val (.int (16 : Int32))] [])
  refine own_st (fun _ k => XS.iloadN X62.here hx rfl (hb hby d6_6) rfl k) ?_
  show own_Go p e s below _ _ _ T62 (mkF m 7 #[.val (.ref tb), .val (.long (0 : Int64)), .second, .val (.int (14 : Int32)), .val (.int (16 : Int32))] [(.int (14 : Int32))])
  refine own_st (fun _ k => XS.iload X62.here hx rfl (hb hby d6_7) rfl k) ?_
  show own_Go p e s below _ _ _ T62 (mkF m 9 #[.val (.ref tb), .val (.long (0 : Int64)), .second, .val (.int (14 : Int32)), .val (.int (16 : Int32))] [(.int (16 : Int32)), (.int (14 : Int32))])
  refine own_st (fun _ k => XS.icmpNo X62.here hx rfl (hb hby d6_9) rfl (by decide) k) ?_
  show own_Go p e s below _ _ _ T62 (mkF m 12 #[.val (.ref tb), .val (.long (0 : Int64)), .second, .val (.int (14 : Int32)), .val (.int (16 : Int32))] [])
  refine own_st (fun _ k => XS.aloadN X62.here hx rfl (hb hby d6_12) rfl rfl k) ?_
  show own_Go p e s below _ _ _ T62 (mkF m 13 #[.val (.ref tb), .val (.long (0 : Int64)), .second, .val (.int (14 : Int32)), .val (.int (16 : Int32))] [(.ref tb)])
  refine own_st (fun _ k => XS.iloadN X62.here hx rfl (hb hby d6_13) rfl k) ?_
  show own_Go p e s below _ _ _ T62 (mkF m 14 #[.val (.ref tb), .val (.long (0 : Int64)), .second, .val (.int (14 : Int32)), .val (.int (16 : Int32))] [(.int (14 : Int32)), (.ref tb)])
  refine own_st (fun _ k => XS.lloadN X62.here hx rfl (hb hby d6_14) rfl k) ?_
  show own_Go p e s below _ _ _ T62 (mkF m 15 #[.val (.ref tb), .val (.long (0 : Int64)), .second, .val (.int (14 : Int32)), .val (.int (16 : Int32))] [(.long (0 : Int64)), (.int (14 : Int32)), (.ref tb)])
  obtain ⟨T65, h65, X65, e65, W65, V65, st65⟩ := own_stJ X62 hx hZ e62 V_tb (j := (14 : Int32)) ⟨by decide, by decide⟩ (Nat.le_of_ble_eq_true rfl) (g := (mkF m 15 #[.val (.ref tb), .val (.long (0 : Int64)), .second, .val (.int (14 : Int32)), .val (.int (16 : Int32))] [(.long (0 : Int64)), (.int (14 : Int32)), (.ref tb)])) rfl rfl (hb hby d6_15)
  clear V_tb
  have V_tb : Arv Z h65 tb k .long (16 : Int32) [(.long (0 : Int64)), (.long (0 : Int64)), (.long (0 : Int64)), (.long (0 : Int64)), (.long (0 : Int64)), (.long (0 : Int64)), (.long (0 : Int64)), (.long (0 : Int64)), (.long (0 : Int64)), (.long (0 : Int64)), (.long (0 : Int64)), (.long (0 : Int64)), (.long (0 : Int64)), (.long (0 : Int64)), (.long (0 : Int64)), (.long t15)] (.long (0 : Int64)) := V65
  have Z66 := Nat.le_trans Z63 (Keep.of_wr W65).1
  have K67 := K64.wr W65 (Or.inl (List.mem_of_getElem? (i := 0) rfl))
  have N65 := Fr.snoc X65 N62 g_tb
  refine own_st st65 ?_
  show own_Go p e s below _ _ _ T65 (mkF m 16 #[.val (.ref tb), .val (.long (0 : Int64)), .second, .val (.int (14 : Int32)), .val (.int (16 : Int32))] [])
  refine own_st (fun _ k => XS.iinc X65.here hx rfl (hb hby d6_16) rfl (l' := #[.val (.ref tb), .val (.long (0 : Int64)), .second, .val (.int (15 : Int32)), .val (.int (16 : Int32))]) rfl k) ?_
  show own_Go p e s below _ _ _ T65 (mkF m 19 #[.val (.ref tb), .val (.long (0 : Int64)), .second, .val (.int (15 : Int32)), .val (.int (16 : Int32))] [])
  refine own_st (fun _ k => XS.goto X65.here hx rfl (pc0 := 19) (pc' := 6) rfl (hb hby d6_19) (by decide) (by decide) k) ?_
  show own_Go p e s below _ _ _ T65 (mkF m 6 #[.val (.ref tb), .val (.long (0 : Int64)), .second, .val (.int (15 : Int32)), .val (.int (16 : Int32))] [])
  refine own_st (fun _ k => XS.iloadN X65.here hx rfl (hb hby d6_6) rfl k) ?_
  show own_Go p e s below _ _ _ T65 (mkF m 7 #[.val (.ref tb), .val (.long (0 : Int64)), .second, .val (.int (15 : Int32)), .val (.int (16 : Int32))] [(.int (15 : Int32))])
  refine own_st (fun _ k => XS.iload X65.here hx rfl (hb hby d6_7) rfl k) ?_
  show own_Go p e s below _ _ _ T65 (mkF m 9 #[.val (.ref tb), .val (.long (0 : Int64)), .second, .val (.int (15 : Int32)), .val (.int (16 : Int32))] [(.int (16 : Int32)), (.int (15 : Int32))])
  refine own_st (fun _ k => XS.icmpNo X65.here hx rfl (hb hby d6_9) rfl (by decide) k) ?_
  show own_Go p e s below _ _ _ T65 (mkF m 12 #[.val (.ref tb), .val (.long (0 : Int64)), .second, .val (.int (15 : Int32)), .val (.int (16 : Int32))] [])
  refine own_st (fun _ k => XS.aloadN X65.here hx rfl (hb hby d6_12) rfl rfl k) ?_
  show own_Go p e s below _ _ _ T65 (mkF m 13 #[.val (.ref tb), .val (.long (0 : Int64)), .second, .val (.int (15 : Int32)), .val (.int (16 : Int32))] [(.ref tb)])
  refine own_st (fun _ k => XS.iloadN X65.here hx rfl (hb hby d6_13) rfl k) ?_
  show own_Go p e s below _ _ _ T65 (mkF m 14 #[.val (.ref tb), .val (.long (0 : Int64)), .second, .val (.int (15 : Int32)), .val (.int (16 : Int32))] [(.int (15 : Int32)), (.ref tb)])
  refine own_st (fun _ k => XS.lloadN X65.here hx rfl (hb hby d6_14) rfl k) ?_
  show own_Go p e s below _ _ _ T65 (mkF m 15 #[.val (.ref tb), .val (.long (0 : Int64)), .second, .val (.int (15 : Int32)), .val (.int (16 : Int32))] [(.long (0 : Int64)), (.int (15 : Int32)), (.ref tb)])
  obtain ⟨T68, h68, X68, e68, W68, V68, st68⟩ := own_stJ X65 hx hZ e65 V_tb (j := (15 : Int32)) ⟨by decide, by decide⟩ (Nat.le_of_ble_eq_true rfl) (g := (mkF m 15 #[.val (.ref tb), .val (.long (0 : Int64)), .second, .val (.int (15 : Int32)), .val (.int (16 : Int32))] [(.long (0 : Int64)), (.int (15 : Int32)), (.ref tb)])) rfl rfl (hb hby d6_15)
  clear V_tb
  have V_tb : Arv Z h68 tb k .long (16 : Int32) [(.long (0 : Int64)), (.long (0 : Int64)), (.long (0 : Int64)), (.long (0 : Int64)), (.long (0 : Int64)), (.long (0 : Int64)), (.long (0 : Int64)), (.long (0 : Int64)), (.long (0 : Int64)), (.long (0 : Int64)), (.long (0 : Int64)), (.long (0 : Int64)), (.long (0 : Int64)), (.long (0 : Int64)), (.long (0 : Int64)), (.long (0 : Int64))] (.long (0 : Int64)) := V68
  have Z69 := Nat.le_trans Z66 (Keep.of_wr W68).1
  have K70 := K67.wr W68 (Or.inl (List.mem_of_getElem? (i := 0) rfl))
  have N68 := Fr.snoc X68 N65 g_tb
  refine own_st st68 ?_
  show own_Go p e s below _ _ _ T68 (mkF m 16 #[.val (.ref tb), .val (.long (0 : Int64)), .second, .val (.int (15 : Int32)), .val (.int (16 : Int32))] [])
  refine own_st (fun _ k => XS.iinc X68.here hx rfl (hb hby d6_16) rfl (l' := #[.val (.ref tb), .val (.long (0 : Int64)), .second, .val (.int (16 : Int32)), .val (.int (16 : Int32))]) rfl k) ?_
  show own_Go p e s below _ _ _ T68 (mkF m 19 #[.val (.ref tb), .val (.long (0 : Int64)), .second, .val (.int (16 : Int32)), .val (.int (16 : Int32))] [])
  refine own_st (fun _ k => XS.goto X68.here hx rfl (pc0 := 19) (pc' := 6) rfl (hb hby d6_19) (by decide) (by decide) k) ?_
  show own_Go p e s below _ _ _ T68 (mkF m 6 #[.val (.ref tb), .val (.long (0 : Int64)), .second, .val (.int (16 : Int32)), .val (.int (16 : Int32))] [])
  refine own_st (fun _ k => XS.iloadN X68.here hx rfl (hb hby d6_6) rfl k) ?_
  show own_Go p e s below _ _ _ T68 (mkF m 7 #[.val (.ref tb), .val (.long (0 : Int64)), .second, .val (.int (16 : Int32)), .val (.int (16 : Int32))] [(.int (16 : Int32))])
  refine own_st (fun _ k => XS.iload X68.here hx rfl (hb hby d6_7) rfl k) ?_
  show own_Go p e s below _ _ _ T68 (mkF m 9 #[.val (.ref tb), .val (.long (0 : Int64)), .second, .val (.int (16 : Int32)), .val (.int (16 : Int32))] [(.int (16 : Int32)), (.int (16 : Int32))])
  refine own_st (fun _ k => XS.icmpYes X68.here hx rfl (pc0 := 9) (pc' := 22) rfl (hb hby d6_9) rfl (by decide) (by decide) (by decide) k) ?_
  show own_Go p e s below _ _ _ T68 (mkF m 22 #[.val (.ref tb), .val (.long (0 : Int64)), .second, .val (.int (16 : Int32)), .val (.int (16 : Int32))] [])
  exact own_ret0 X68 hx hlk hret (hb hby d6_22) (by decide) (by decide) (by rw [e68]; exact ⟨rfl, N68, K70, V_tb⟩)
theorem ef_rm5 (m : MethodId) (z0 : Addr) : entryFrame m #[(.ref z0)] 1 = mkF m 0 #[.val (.ref z0)] [] := by first | (simp [entryFrame, mkF, argsToLocals, Value.category]; done) | rfl
set_option maxRecDepth 65536 in
set_option maxHeartbeats 40000000 in
theorem rm5 (l : Launch) (Z : State) (a0 : Array Value) (hw : ∀ d ∈ tables_1, d.before a0 Z = true) (ws : List Jvm.Cond) (a : Addr) (S : Int64 → Prop) (n : Nat) (h0 : Heap) (n0 : Nat) (Z0 : n0 ≤ h0.size) (HS : own_Set Z n0 h0 a S n) (hn : n ≤ 3) :
    own_Met l Z (⟨"com/example/phonomark/phonomark/LongSet", "clear", "()V"⟩ : MethodName) prog_28_method_4_code 1 none ({ frames := 1, cells := 0, slots := 0, locals := 32 } : Room) ws #[(.ref a)] h0 (fun v h L => v = none ∧ Fr n0 L ∧ own_Set Z n0 h a (fun _ => False) 0) 0 0 := by
  refine own_enter pf5 (fun m => ef_rm5 m a) ?_
  intro p e s m below meth c T0 hx hby hml hown hnm hret hlk hZ X0 e0
  have N0 := Fr.nil n0
  show own_Go p e s below _ _ _ T0 (mkF m 0 #[.val (.ref a)] [])
  obtain ⟨tb, k, T, cnt, z, E_a, F_table_a, F_count_a, F_holdsZero_a, V_tb, g_a, g_tb, ne_a_tb, I⟩ := HS
  have ne_tb_a := Ne.symm ne_a_tb
  refine own_st (fun _ k => XS.aloadN X0.here hx rfl (hb hby d5_0) rfl rfl k) ?_
  show own_Go p e s below _ _ _ T0 (mkF m 1 #[.val (.ref a)] [(.ref a)])
  obtain ⟨T71, X71, e71, st71⟩ := getF X0 hx hZ hown (host := "") (Or.inl (hw _ (List.mem_of_getElem? (i := 10) rfl))) Via.refl e0 F_table_a (g := (mkF m 1 #[.val (.ref a)] [(.ref a)])) rfl rfl (hb hby d5_1)
  refine own_st st71 ?_
  show own_Go p e s below _ _ _ T71 (mkF m 4 #[.val (.ref a)] [(.ref tb)])
  refine own_st (own_len X71 hx hZ e71 V_tb (g := (mkF m 4 #[.val (.ref a)] [(.ref tb)])) rfl rfl (hb hby d5_4)) ?_
  show own_Go p e s below _ _ _ T71 (mkF m 5 #[.val (.ref a)] [(.int (16 : Int32))])
  refine own_st (fun _ k => XS.bipush X71.here hx rfl (hb hby d5_5) k) ?_
  show own_Go p e s below _ _ _ T71 (mkF m 7 #[.val (.ref a)] [(.int (16 : Int32)), (.int (16 : Int32))])
  refine own_st (fun _ k => XS.icmpYes X71.here hx rfl (pc0 := 7) (pc' := 21) rfl (hb hby d5_7) rfl (by decide) (by decide) (by decide) k) ?_
  show own_Go p e s below _ _ _ T71 (mkF m 21 #[.val (.ref a)] [])
  refine own_st (fun _ k => XS.aloadN X71.here hx rfl (hb hby d5_21) rfl rfl k) ?_
  show own_Go p e s below _ _ _ T71 (mkF m 22 #[.val (.ref a)] [(.ref a)])
  obtain ⟨T72, X72, e72, st72⟩ := getF X71 hx hZ hown (host := "") (Or.inl (hw _ (List.mem_of_getElem? (i := 21) rfl))) Via.refl e71 F_count_a (g := (mkF m 22 #[.val (.ref a)] [(.ref a)])) rfl rfl (hb hby d5_22)
  refine own_st st72 ?_
  show own_Go p e s below _ _ _ T72 (mkF m 25 #[.val (.ref a)] [(.int cnt)])
  by_cases k0 : (0 : Int32) < cnt
  · refine own_st (fun _ k => XS.ifNo X72.here hx rfl (hb hby d5_25) rfl ((if0 _ _).trans (tlt k0).2.2.2) k) ?_
    show own_Go p e s below _ _ _ T72 (mkF m 28 #[.val (.ref a)] [])
    obtain ⟨t0, t1, t2, t3, t4, t5, t6, t7, t8, t9, t10, t11, t12, t13, t14, t15, rfl⟩ := own_16 I.1
    refine own_st (fun _ k => XS.aloadN X72.here hx rfl (hb hby d5_28) rfl rfl k) ?_
    show own_Go p e s below _ _ _ T72 (mkF m 29 #[.val (.ref a)] [(.ref a)])
    obtain ⟨T73, X73, e73, st73⟩ := getF X72 hx hZ hown (host := "") (Or.inl (hw _ (List.mem_of_getElem? (i := 10) rfl))) Via.refl e72 F_table_a (g := (mkF m 29 #[.val (.ref a)] [(.ref a)])) rfl rfl (hb hby d5_29)
    refine own_st st73 ?_
    show own_Go p e s below _ _ _ T73 (mkF m 32 #[.val (.ref a)] [(.ref tb)])
    refine own_st (fun _ k => XS.lconst X73.here hx rfl (hb hby d5_32) k) ?_
    show own_Go p e s below _ _ _ T73 (mkF m 33 #[.val (.ref a)] [(.long (0 : Int64)), (.ref tb)])
    refine own_callS X73 hx hZ (y := (⟨"java/util/Arrays", "fill", "([JJ)V"⟩ : MethodName)) hown (hw _ (List.mem_of_getElem? (i := 28) rfl)) (hw _ (List.mem_of_getElem? (i := 29) rfl)) (hw _ (List.mem_of_getElem? (i := 30) rfl)) (hw _ (List.mem_of_getElem? (i := 31) rfl)) (by decide) e73 (rm6 l Z a0 hw [] tb k t0 t1 t2 t3 t4 t5 t6 t7 t8 t9 t10 t11 t12 t13 t14 t15 h0 n0 Z0 V_tb g_tb) 0 (by decide) (by decide) (g := (mkF m 33 #[.val (.ref a)] [(.long (0 : Int64)), (.ref tb)])) rfl (by rw [hml]; rfl) (argsL := [(.ref tb), (.long (0 : Int64))]) (rest := []) pd3 rfl rfl rfl (by show 2 * 0 + _ ≤ _; exact Nat.le_of_eq rfl) (hb hby d5_33) (by decide) (by decide) ?_
    intro T74 v74 L74 X74 hQ74
    obtain ⟨rfl, N74q, K74q, y74_0⟩ := hQ74
    have N74 := Fr.app N0 N74q
    replace E_a := E_a.keep K74q
    replace F_table_a := F_table_a.keep K74q (ninS ne_a_tb nin0)
    replace F_count_a := F_count_a.keep K74q (ninS ne_a_tb nin0)
    replace F_holdsZero_a := F_holdsZero_a.keep K74q (ninS ne_a_tb nin0)
    clear V_tb
    have Z75 := Nat.le_trans Z0 K74q.1
    have V_tb := y74_0
    show own_Go p e s below _ _ _ T74 (mkF m 36 #[.val (.ref a)] [])
    refine own_st (fun _ k => XS.aloadN X74.here hx rfl (hb hby d5_36) rfl rfl k) ?_
    show own_Go p e s below _ _ _ T74 (mkF m 37 #[.val (.ref a)] [(.ref a)])
    refine own_st (fun _ k => XS.iconst X74.here hx rfl (hb hby d5_37) k) ?_
    show own_Go p e s below _ _ _ T74 (mkF m 38 #[.val (.ref a)] [(.int (0 : Int32)), (.ref a)])
    obtain ⟨T76, h76, X76, e76, W76, st76⟩ := putF X74 hx hZ hown (host := "") (Or.inl (hw _ (List.mem_of_getElem? (i := 21) rfl))) Via.refl rfl F_count_a E_a (Or.inl (hw _ (List.mem_of_getElem? (i := 22) rfl))) (hw _ (List.mem_of_getElem? (i := 1) rfl)) (ty := .int) (by decide) rfl rfl (g := (mkF m 38 #[.val (.ref a)] [(.int (0 : Int32)), (.ref a)])) rfl rfl (hb hby d5_38)
    refine own_st st76 ?_
    replace F_count_a := F_count_a.same W76
    replace E_a := E_a.wr W76
    replace F_table_a := F_table_a.other W76 (Or.inr (slot_ne (Or.inl (hw _ (List.mem_of_getElem? (i := 11) rfl))) (Or.inl (hw _ (List.mem_of_getElem? (i := 22) rfl))) (by decide) (t := (.array .long)) (t' := .int) (by decide) (by decide)))
    replace F_holdsZero_a := F_holdsZero_a.other W76 (Or.inr (slot_ne (Or.inl (hw _ (List.mem_of_getElem? (i := 33) rfl))) (Or.inl (hw _ (List.mem_of_getElem? (i := 22) rfl))) (by decide) (t := .boolean) (t' := .int) (by decide) (by decide)))
    replace V_tb := V_tb.other W76 ne_tb_a
    have Z77 := Nat.le_trans Z75 (Keep.of_wr W76).1
    have N76 := Fr.snoc X76 N74 g_a
    show own_Go p e s below _ _ _ T76 (mkF m 41 #[.val (.ref a)] [])
    refine own_st (fun _ k => XS.aloadN X76.here hx rfl (hb hby d5_41) rfl rfl k) ?_
    show own_Go p e s below _ _ _ T76 (mkF m 42 #[.val (.ref a)] [(.ref a)])
    refine own_st (fun _ k => XS.iconst X76.here hx rfl (hb hby d5_42) k) ?_
    show own_Go p e s below _ _ _ T76 (mkF m 43 #[.val (.ref a)] [(.int (0 : Int32)), (.ref a)])
    obtain ⟨T78, h78, X78, e78, W78, st78⟩ := putFN X76 hx hZ hown (hw _ (List.mem_of_getElem? (i := 32) rfl)) Via.refl e76 F_holdsZero_a E_a (Or.inl (hw _ (List.mem_of_getElem? (i := 33) rfl))) (hw _ (List.mem_of_getElem? (i := 1) rfl)) (ty := .boolean) (v := (.int (0 : Int32))) (v' := (.int (0 : Int32))) (by decide) rfl (by decide) (g := (mkF m 43 #[.val (.ref a)] [(.int (0 : Int32)), (.ref a)])) rfl rfl (hb hby d5_43)
    refine own_st st78 ?_
    replace F_holdsZero_a := F_holdsZero_a.same W78
    replace E_a := E_a.wr W78
    replace F_table_a := F_table_a.other W78 (Or.inr (slot_ne (Or.inl (hw _ (List.mem_of_getElem? (i := 11) rfl))) (Or.inl (hw _ (List.mem_of_getElem? (i := 33) rfl))) (by decide) (t := (.array .long)) (t' := .boolean) (by decide) (by decide)))
    replace V_tb := V_tb.other W78 ne_tb_a
    replace F_count_a := F_count_a.other W78 (Or.inr (slot_ne (Or.inl (hw _ (List.mem_of_getElem? (i := 22) rfl))) (Or.inl (hw _ (List.mem_of_getElem? (i := 33) rfl))) (by decide) (t := .int) (t' := .boolean) (by decide) (by decide)))
    have Z79 := Nat.le_trans Z77 (Keep.of_wr W78).1
    have N78 := Fr.snoc X78 N76 g_a
    show own_Go p e s below _ _ _ T78 (mkF m 46 #[.val (.ref a)] [])
    exact own_ret0 X78 hx hlk hret (hb hby d5_46) (by decide) (by decide) (by rw [e78]; exact ⟨rfl, N78, ⟨tb, k, (List.replicate 16 0), 0, 0, E_a, F_table_a, F_count_a, F_holdsZero_a, V_tb, g_a, g_tb, ne_a_tb, (own_I_empty rfl own_rep)⟩⟩)
  refine own_st (fun _ k => XS.ifYes X72.here hx rfl (pc0 := 25) (pc' := 36) rfl (hb hby d5_25) rfl ((if0 _ _).trans (flt k0).2.2.2) (by decide) (by decide) k) ?_
  show own_Go p e s below _ _ _ T72 (mkF m 36 #[.val (.ref a)] [])
  refine own_st (fun _ k => XS.aloadN X72.here hx rfl (hb hby d5_36) rfl rfl k) ?_
  show own_Go p e s below _ _ _ T72 (mkF m 37 #[.val (.ref a)] [(.ref a)])
  refine own_st (fun _ k => XS.iconst X72.here hx rfl (hb hby d5_37) k) ?_
  show own_Go p e s below _ _ _ T72 (mkF m 38 #[.val (.ref a)] [(.int (0 : Int32)), (.ref a)])
  obtain ⟨T80, h80, X80, e80, W80, st80⟩ := putF X72 hx hZ hown (host := "") (Or.inl (hw _ (List.mem_of_getElem? (i := 21) rfl))) Via.refl e72 F_count_a E_a (Or.inl (hw _ (List.mem_of_getElem? (i := 22) rfl))) (hw _ (List.mem_of_getElem? (i := 1) rfl)) (ty := .int) (by decide) rfl rfl (g := (mkF m 38 #[.val (.ref a)] [(.int (0 : Int32)), (.ref a)])) rfl rfl (hb hby d5_38)
  refine own_st st80 ?_
  replace F_count_a := F_count_a.same W80
  replace E_a := E_a.wr W80
  replace F_table_a := F_table_a.other W80 (Or.inr (slot_ne (Or.inl (hw _ (List.mem_of_getElem? (i := 11) rfl))) (Or.inl (hw _ (List.mem_of_getElem? (i := 22) rfl))) (by decide) (t := (.array .long)) (t' := .int) (by decide) (by decide)))
  replace F_holdsZero_a := F_holdsZero_a.other W80 (Or.inr (slot_ne (Or.inl (hw _ (List.mem_of_getElem? (i := 33) rfl))) (Or.inl (hw _ (List.mem_of_getElem? (i := 22) rfl))) (by decide) (t := .boolean) (t' := .int) (by decide) (by decide)))
  replace V_tb := V_tb.other W80 ne_tb_a
  have Z81 := Nat.le_trans Z0 (Keep.of_wr W80).1
  have N80 := Fr.snoc X80 N0 g_a
  show own_Go p e s below _ _ _ T80 (mkF m 41 #[.val (.ref a)] [])
  refine own_st (fun _ k => XS.aloadN X80.here hx rfl (hb hby d5_41) rfl rfl k) ?_
  show own_Go p e s below _ _ _ T80 (mkF m 42 #[.val (.ref a)] [(.ref a)])
  refine own_st (fun _ k => XS.iconst X80.here hx rfl (hb hby d5_42) k) ?_
  show own_Go p e s below _ _ _ T80 (mkF m 43 #[.val (.ref a)] [(.int (0 : Int32)), (.ref a)])
  obtain ⟨T82, h82, X82, e82, W82, st82⟩ := putFN X80 hx hZ hown (hw _ (List.mem_of_getElem? (i := 32) rfl)) Via.refl e80 F_holdsZero_a E_a (Or.inl (hw _ (List.mem_of_getElem? (i := 33) rfl))) (hw _ (List.mem_of_getElem? (i := 1) rfl)) (ty := .boolean) (v := (.int (0 : Int32))) (v' := (.int (0 : Int32))) (by decide) rfl (by decide) (g := (mkF m 43 #[.val (.ref a)] [(.int (0 : Int32)), (.ref a)])) rfl rfl (hb hby d5_43)
  refine own_st st82 ?_
  replace F_holdsZero_a := F_holdsZero_a.same W82
  replace E_a := E_a.wr W82
  replace F_table_a := F_table_a.other W82 (Or.inr (slot_ne (Or.inl (hw _ (List.mem_of_getElem? (i := 11) rfl))) (Or.inl (hw _ (List.mem_of_getElem? (i := 33) rfl))) (by decide) (t := (.array .long)) (t' := .boolean) (by decide) (by decide)))
  replace V_tb := V_tb.other W82 ne_tb_a
  replace F_count_a := F_count_a.other W82 (Or.inr (slot_ne (Or.inl (hw _ (List.mem_of_getElem? (i := 22) rfl))) (Or.inl (hw _ (List.mem_of_getElem? (i := 33) rfl))) (by decide) (t := .int) (t' := .boolean) (by decide) (by decide)))
  have Z83 := Nat.le_trans Z81 (Keep.of_wr W82).1
  have N82 := Fr.snoc X82 N80 g_a
  show own_Go p e s below _ _ _ T82 (mkF m 46 #[.val (.ref a)] [])
  exact own_ret0 X82 hx hlk hret (hb hby d5_46) (by decide) (by decide) (by rw [e82]; exact ⟨rfl, N82, ⟨tb, k, T, 0, 0, E_a, F_table_a, F_count_a, F_holdsZero_a, V_tb, g_a, g_tb, ne_a_tb, (own_I_empty I.1 (own_cnt0 I hn k0))⟩⟩)
theorem ef_rm8 (m : MethodId) (z0 : Int64) (z1 : Int64) (z2 : Int64) (z3 : Int64) (z4 : Int32) (z5 : Int32) (z6 : Int32) : entryFrame m #[(.long z0), (.long z1), (.long z2), (.long z3), (.int z4), (.int z5), (.int z6)] 11 = mkF m 0 #[.val (.long z0), .second, .val (.long z1), .second, .val (.long z2), .second, .val (.long z3), .second, .val (.int z4), .val (.int z5), .val (.int z6)] [] := by first | (simp [entryFrame, mkF, argsToLocals, Value.category]; done) | rfl
set_option maxRecDepth 65536 in
set_option maxHeartbeats 40000000 in
theorem rm8 (l : Launch) (Z : State) (a0 : Array Value) (hw : ∀ d ∈ tables_1, d.before a0 Z = true) (ws : List Jvm.Cond) (x' q0 q2 q4 : Int64) (P1 P2 P3 : Prop) [Decidable P1] [Decidable P2] [Decidable P3] (h0 : Heap) (n0 : Nat) (Z0 : n0 ≤ h0.size)  :
    own_Met l Z (⟨"com/example/phonomark/phonomark/LongSetContainsPinLaw", "expected", "(JJJJZZZ)Z"⟩ : MethodName) method_3_code 11 (some .boolean) ({ frames := 0, cells := 0, slots := 0, locals := 0 } : Room) ws #[(.long x'), (.long q0), (.long q2), (.long q4), (.int (own_b P1)), (.int (own_b P2)), (.int (own_b P3))] h0 (fun v h L => v = some (.int (own_b ((P1 ∧ x' = q0) ∨ (P2 ∧ x' = q2) ∨ (P3 ∧ x' = q4)))) ∧ Fr n0 L ∧ h = h0) 0 0 := by
  refine own_enter pf8 (fun m => ef_rm8 m x' q0 q2 q4 (own_b P1) (own_b P2) (own_b P3)) ?_
  intro p e s m below meth c T0 hx hby hml hown hnm hret hlk hZ X0 e0
  have N0 := Fr.nil n0
  show own_Go p e s below _ _ _ T0 (mkF m 0 #[.val (.long x'), .second, .val (.long q0), .second, .val (.long q2), .second, .val (.long q4), .second, .val (.int (own_b P1)), .val (.int (own_b P2)), .val (.int (own_b P3))] [])
  refine own_st (fun _ k => XS.iload X0.here hx rfl (hb hby d8_0) rfl k) ?_
  show own_Go p e s below _ _ _ T0 (mkF m 2 #[.val (.long x'), .second, .val (.long q0), .second, .val (.long q2), .second, .val (.long q4), .second, .val (.int (own_b P1)), .val (.int (own_b P2)), .val (.int (own_b P3))] [(.int (own_b P1))])
  by_cases c2_84 : P1
  · refine own_st (fun _ k => XS.ifNo X0.here hx rfl (hb hby d8_2) rfl (own_by c2_84).2 k) ?_
    show own_Go p e s below _ _ _ T0 (mkF m 5 #[.val (.long x'), .second, .val (.long q0), .second, .val (.long q2), .second, .val (.long q4), .second, .val (.int (own_b P1)), .val (.int (own_b P2)), .val (.int (own_b P3))] [])
    refine own_st (fun _ k => XS.lloadN X0.here hx rfl (hb hby d8_5) rfl k) ?_
    show own_Go p e s below _ _ _ T0 (mkF m 6 #[.val (.long x'), .second, .val (.long q0), .second, .val (.long q2), .second, .val (.long q4), .second, .val (.int (own_b P1)), .val (.int (own_b P2)), .val (.int (own_b P3))] [(.long x')])
    refine own_st (fun _ k => XS.lloadN X0.here hx rfl (hb hby d8_6) rfl k) ?_
    show own_Go p e s below _ _ _ T0 (mkF m 7 #[.val (.long x'), .second, .val (.long q0), .second, .val (.long q2), .second, .val (.long q4), .second, .val (.int (own_b P1)), .val (.int (own_b P2)), .val (.int (own_b P3))] [(.long q0), (.long x')])
    refine own_st (fun _ k => XS.lcmp X0.here hx rfl (hb hby d8_7) rfl k) ?_
    show own_Go p e s below _ _ _ T0 (mkF m 8 #[.val (.long x'), .second, .val (.long q0), .second, .val (.long q2), .second, .val (.long q4), .second, .val (.int (own_b P1)), .val (.int (own_b P2)), .val (.int (own_b P3))] [(.int (lcmpW x' q0))])
    by_cases c8_85 : x' = q0
    · refine own_st (fun _ k => XS.ifYes X0.here hx rfl (pc0 := 8) (pc' := 35) rfl (hb hby d8_8) rfl ((if0 _ _).trans (teq ((lw_eq _ _).mpr c8_85)).1) (by decide) (by decide) k) ?_
      show own_Go p e s below _ _ _ T0 (mkF m 35 #[.val (.long x'), .second, .val (.long q0), .second, .val (.long q2), .second, .val (.long q4), .second, .val (.int (own_b P1)), .val (.int (own_b P2)), .val (.int (own_b P3))] [])
      refine own_st (fun _ k => XS.iconst X0.here hx rfl (hb hby d8_35) k) ?_
      show own_Go p e s below _ _ _ T0 (mkF m 36 #[.val (.long x'), .second, .val (.long q0), .second, .val (.long q2), .second, .val (.long q4), .second, .val (.int (own_b P1)), .val (.int (own_b P2)), .val (.int (own_b P3))] [(.int (1 : Int32))])
      refine own_st (fun _ k => XS.goto X0.here hx rfl (pc0 := 36) (pc' := 40) rfl (hb hby d8_36) (by decide) (by decide) k) ?_
      show own_Go p e s below _ _ _ T0 (mkF m 40 #[.val (.long x'), .second, .val (.long q0), .second, .val (.long q2), .second, .val (.long q4), .second, .val (.int (own_b P1)), .val (.int (own_b P2)), .val (.int (own_b P3))] [(.int (1 : Int32))])
      exact own_retN X0 hx hlk (t := .boolean) hret (by simp) (hb hby d8_40) (z' := (1 : Int32)) rfl (by decide) (by decide) ⟨by rw [own_bt (by simp [c2_84, c8_85])], N0, e0⟩
    · refine own_st (fun _ k => XS.ifNo X0.here hx rfl (hb hby d8_8) rfl ((if0 _ _).trans (feq (fun q => c8_85 ((lw_eq _ _).mp q))).1) k) ?_
      show own_Go p e s below _ _ _ T0 (mkF m 11 #[.val (.long x'), .second, .val (.long q0), .second, .val (.long q2), .second, .val (.long q4), .second, .val (.int (own_b P1)), .val (.int (own_b P2)), .val (.int (own_b P3))] [])
      refine own_st (fun _ k => XS.iload X0.here hx rfl (hb hby d8_11) rfl k) ?_
      show own_Go p e s below _ _ _ T0 (mkF m 13 #[.val (.long x'), .second, .val (.long q0), .second, .val (.long q2), .second, .val (.long q4), .second, .val (.int (own_b P1)), .val (.int (own_b P2)), .val (.int (own_b P3))] [(.int (own_b P2))])
      by_cases c13_86 : P2
      · refine own_st (fun _ k => XS.ifNo X0.here hx rfl (hb hby d8_13) rfl (own_by c13_86).2 k) ?_
        show own_Go p e s below _ _ _ T0 (mkF m 16 #[.val (.long x'), .second, .val (.long q0), .second, .val (.long q2), .second, .val (.long q4), .second, .val (.int (own_b P1)), .val (.int (own_b P2)), .val (.int (own_b P3))] [])
        refine own_st (fun _ k => XS.lloadN X0.here hx rfl (hb hby d8_16) rfl k) ?_
        show own_Go p e s below _ _ _ T0 (mkF m 17 #[.val (.long x'), .second, .val (.long q0), .second, .val (.long q2), .second, .val (.long q4), .second, .val (.int (own_b P1)), .val (.int (own_b P2)), .val (.int (own_b P3))] [(.long x')])
        refine own_st (fun _ k => XS.lload X0.here hx rfl (hb hby d8_17) rfl k) ?_
        show own_Go p e s below _ _ _ T0 (mkF m 19 #[.val (.long x'), .second, .val (.long q0), .second, .val (.long q2), .second, .val (.long q4), .second, .val (.int (own_b P1)), .val (.int (own_b P2)), .val (.int (own_b P3))] [(.long q2), (.long x')])
        refine own_st (fun _ k => XS.lcmp X0.here hx rfl (hb hby d8_19) rfl k) ?_
        show own_Go p e s below _ _ _ T0 (mkF m 20 #[.val (.long x'), .second, .val (.long q0), .second, .val (.long q2), .second, .val (.long q4), .second, .val (.int (own_b P1)), .val (.int (own_b P2)), .val (.int (own_b P3))] [(.int (lcmpW x' q2))])
        by_cases c20_87 : x' = q2
        · refine own_st (fun _ k => XS.ifYes X0.here hx rfl (pc0 := 20) (pc' := 35) rfl (hb hby d8_20) rfl ((if0 _ _).trans (teq ((lw_eq _ _).mpr c20_87)).1) (by decide) (by decide) k) ?_
          show own_Go p e s below _ _ _ T0 (mkF m 35 #[.val (.long x'), .second, .val (.long q0), .second, .val (.long q2), .second, .val (.long q4), .second, .val (.int (own_b P1)), .val (.int (own_b P2)), .val (.int (own_b P3))] [])
          refine own_st (fun _ k => XS.iconst X0.here hx rfl (hb hby d8_35) k) ?_
          show own_Go p e s below _ _ _ T0 (mkF m 36 #[.val (.long x'), .second, .val (.long q0), .second, .val (.long q2), .second, .val (.long q4), .second, .val (.int (own_b P1)), .val (.int (own_b P2)), .val (.int (own_b P3))] [(.int (1 : Int32))])
          refine own_st (fun _ k => XS.goto X0.here hx rfl (pc0 := 36) (pc' := 40) rfl (hb hby d8_36) (by decide) (by decide) k) ?_
          show own_Go p e s below _ _ _ T0 (mkF m 40 #[.val (.long x'), .second, .val (.long q0), .second, .val (.long q2), .second, .val (.long q4), .second, .val (.int (own_b P1)), .val (.int (own_b P2)), .val (.int (own_b P3))] [(.int (1 : Int32))])
          exact own_retN X0 hx hlk (t := .boolean) hret (by simp) (hb hby d8_40) (z' := (1 : Int32)) rfl (by decide) (by decide) ⟨by rw [own_bt (by simp [c2_84, c8_85, c13_86, c20_87])], N0, e0⟩
        · refine own_st (fun _ k => XS.ifNo X0.here hx rfl (hb hby d8_20) rfl ((if0 _ _).trans (feq (fun q => c20_87 ((lw_eq _ _).mp q))).1) k) ?_
          show own_Go p e s below _ _ _ T0 (mkF m 23 #[.val (.long x'), .second, .val (.long q0), .second, .val (.long q2), .second, .val (.long q4), .second, .val (.int (own_b P1)), .val (.int (own_b P2)), .val (.int (own_b P3))] [])
          refine own_st (fun _ k => XS.iload X0.here hx rfl (hb hby d8_23) rfl k) ?_
          show own_Go p e s below _ _ _ T0 (mkF m 25 #[.val (.long x'), .second, .val (.long q0), .second, .val (.long q2), .second, .val (.long q4), .second, .val (.int (own_b P1)), .val (.int (own_b P2)), .val (.int (own_b P3))] [(.int (own_b P3))])
          by_cases c25_88 : P3
          · refine own_st (fun _ k => XS.ifNo X0.here hx rfl (hb hby d8_25) rfl (own_by c25_88).2 k) ?_
            show own_Go p e s below _ _ _ T0 (mkF m 28 #[.val (.long x'), .second, .val (.long q0), .second, .val (.long q2), .second, .val (.long q4), .second, .val (.int (own_b P1)), .val (.int (own_b P2)), .val (.int (own_b P3))] [])
            refine own_st (fun _ k => XS.lloadN X0.here hx rfl (hb hby d8_28) rfl k) ?_
            show own_Go p e s below _ _ _ T0 (mkF m 29 #[.val (.long x'), .second, .val (.long q0), .second, .val (.long q2), .second, .val (.long q4), .second, .val (.int (own_b P1)), .val (.int (own_b P2)), .val (.int (own_b P3))] [(.long x')])
            refine own_st (fun _ k => XS.lload X0.here hx rfl (hb hby d8_29) rfl k) ?_
            show own_Go p e s below _ _ _ T0 (mkF m 31 #[.val (.long x'), .second, .val (.long q0), .second, .val (.long q2), .second, .val (.long q4), .second, .val (.int (own_b P1)), .val (.int (own_b P2)), .val (.int (own_b P3))] [(.long q4), (.long x')])
            refine own_st (fun _ k => XS.lcmp X0.here hx rfl (hb hby d8_31) rfl k) ?_
            show own_Go p e s below _ _ _ T0 (mkF m 32 #[.val (.long x'), .second, .val (.long q0), .second, .val (.long q2), .second, .val (.long q4), .second, .val (.int (own_b P1)), .val (.int (own_b P2)), .val (.int (own_b P3))] [(.int (lcmpW x' q4))])
            by_cases c32_89 : x' = q4
            · refine own_st (fun _ k => XS.ifNo X0.here hx rfl (hb hby d8_32) rfl ((if0 _ _).trans (teq ((lw_eq _ _).mpr c32_89)).2) k) ?_
              show own_Go p e s below _ _ _ T0 (mkF m 35 #[.val (.long x'), .second, .val (.long q0), .second, .val (.long q2), .second, .val (.long q4), .second, .val (.int (own_b P1)), .val (.int (own_b P2)), .val (.int (own_b P3))] [])
              refine own_st (fun _ k => XS.iconst X0.here hx rfl (hb hby d8_35) k) ?_
              show own_Go p e s below _ _ _ T0 (mkF m 36 #[.val (.long x'), .second, .val (.long q0), .second, .val (.long q2), .second, .val (.long q4), .second, .val (.int (own_b P1)), .val (.int (own_b P2)), .val (.int (own_b P3))] [(.int (1 : Int32))])
              refine own_st (fun _ k => XS.goto X0.here hx rfl (pc0 := 36) (pc' := 40) rfl (hb hby d8_36) (by decide) (by decide) k) ?_
              show own_Go p e s below _ _ _ T0 (mkF m 40 #[.val (.long x'), .second, .val (.long q0), .second, .val (.long q2), .second, .val (.long q4), .second, .val (.int (own_b P1)), .val (.int (own_b P2)), .val (.int (own_b P3))] [(.int (1 : Int32))])
              exact own_retN X0 hx hlk (t := .boolean) hret (by simp) (hb hby d8_40) (z' := (1 : Int32)) rfl (by decide) (by decide) ⟨by rw [own_bt (by simp [c2_84, c8_85, c13_86, c20_87, c25_88, c32_89])], N0, e0⟩
            · refine own_st (fun _ k => XS.ifYes X0.here hx rfl (pc0 := 32) (pc' := 39) rfl (hb hby d8_32) rfl ((if0 _ _).trans (feq (fun q => c32_89 ((lw_eq _ _).mp q))).2) (by decide) (by decide) k) ?_
              show own_Go p e s below _ _ _ T0 (mkF m 39 #[.val (.long x'), .second, .val (.long q0), .second, .val (.long q2), .second, .val (.long q4), .second, .val (.int (own_b P1)), .val (.int (own_b P2)), .val (.int (own_b P3))] [])
              refine own_st (fun _ k => XS.iconst X0.here hx rfl (hb hby d8_39) k) ?_
              show own_Go p e s below _ _ _ T0 (mkF m 40 #[.val (.long x'), .second, .val (.long q0), .second, .val (.long q2), .second, .val (.long q4), .second, .val (.int (own_b P1)), .val (.int (own_b P2)), .val (.int (own_b P3))] [(.int (0 : Int32))])
              exact own_retN X0 hx hlk (t := .boolean) hret (by simp) (hb hby d8_40) (z' := (0 : Int32)) rfl (by decide) (by decide) ⟨by rw [own_bf (by simp [c2_84, c8_85, c13_86, c20_87, c25_88, c32_89])], N0, e0⟩
          · refine own_st (fun _ k => XS.ifYes X0.here hx rfl (pc0 := 25) (pc' := 39) rfl (hb hby d8_25) rfl (own_bn c25_88).1 (by decide) (by decide) k) ?_
            show own_Go p e s below _ _ _ T0 (mkF m 39 #[.val (.long x'), .second, .val (.long q0), .second, .val (.long q2), .second, .val (.long q4), .second, .val (.int (own_b P1)), .val (.int (own_b P2)), .val (.int (own_b P3))] [])
            refine own_st (fun _ k => XS.iconst X0.here hx rfl (hb hby d8_39) k) ?_
            show own_Go p e s below _ _ _ T0 (mkF m 40 #[.val (.long x'), .second, .val (.long q0), .second, .val (.long q2), .second, .val (.long q4), .second, .val (.int (own_b P1)), .val (.int (own_b P2)), .val (.int (own_b P3))] [(.int (0 : Int32))])
            exact own_retN X0 hx hlk (t := .boolean) hret (by simp) (hb hby d8_40) (z' := (0 : Int32)) rfl (by decide) (by decide) ⟨by rw [own_bf (by simp [c2_84, c8_85, c13_86, c20_87, c25_88])], N0, e0⟩
      · refine own_st (fun _ k => XS.ifYes X0.here hx rfl (pc0 := 13) (pc' := 23) rfl (hb hby d8_13) rfl (own_bn c13_86).1 (by decide) (by decide) k) ?_
        show own_Go p e s below _ _ _ T0 (mkF m 23 #[.val (.long x'), .second, .val (.long q0), .second, .val (.long q2), .second, .val (.long q4), .second, .val (.int (own_b P1)), .val (.int (own_b P2)), .val (.int (own_b P3))] [])
        refine own_st (fun _ k => XS.iload X0.here hx rfl (hb hby d8_23) rfl k) ?_
        show own_Go p e s below _ _ _ T0 (mkF m 25 #[.val (.long x'), .second, .val (.long q0), .second, .val (.long q2), .second, .val (.long q4), .second, .val (.int (own_b P1)), .val (.int (own_b P2)), .val (.int (own_b P3))] [(.int (own_b P3))])
        by_cases c25_90 : P3
        · refine own_st (fun _ k => XS.ifNo X0.here hx rfl (hb hby d8_25) rfl (own_by c25_90).2 k) ?_
          show own_Go p e s below _ _ _ T0 (mkF m 28 #[.val (.long x'), .second, .val (.long q0), .second, .val (.long q2), .second, .val (.long q4), .second, .val (.int (own_b P1)), .val (.int (own_b P2)), .val (.int (own_b P3))] [])
          refine own_st (fun _ k => XS.lloadN X0.here hx rfl (hb hby d8_28) rfl k) ?_
          show own_Go p e s below _ _ _ T0 (mkF m 29 #[.val (.long x'), .second, .val (.long q0), .second, .val (.long q2), .second, .val (.long q4), .second, .val (.int (own_b P1)), .val (.int (own_b P2)), .val (.int (own_b P3))] [(.long x')])
          refine own_st (fun _ k => XS.lload X0.here hx rfl (hb hby d8_29) rfl k) ?_
          show own_Go p e s below _ _ _ T0 (mkF m 31 #[.val (.long x'), .second, .val (.long q0), .second, .val (.long q2), .second, .val (.long q4), .second, .val (.int (own_b P1)), .val (.int (own_b P2)), .val (.int (own_b P3))] [(.long q4), (.long x')])
          refine own_st (fun _ k => XS.lcmp X0.here hx rfl (hb hby d8_31) rfl k) ?_
          show own_Go p e s below _ _ _ T0 (mkF m 32 #[.val (.long x'), .second, .val (.long q0), .second, .val (.long q2), .second, .val (.long q4), .second, .val (.int (own_b P1)), .val (.int (own_b P2)), .val (.int (own_b P3))] [(.int (lcmpW x' q4))])
          by_cases c32_91 : x' = q4
          · refine own_st (fun _ k => XS.ifNo X0.here hx rfl (hb hby d8_32) rfl ((if0 _ _).trans (teq ((lw_eq _ _).mpr c32_91)).2) k) ?_
            show own_Go p e s below _ _ _ T0 (mkF m 35 #[.val (.long x'), .second, .val (.long q0), .second, .val (.long q2), .second, .val (.long q4), .second, .val (.int (own_b P1)), .val (.int (own_b P2)), .val (.int (own_b P3))] [])
            refine own_st (fun _ k => XS.iconst X0.here hx rfl (hb hby d8_35) k) ?_
            show own_Go p e s below _ _ _ T0 (mkF m 36 #[.val (.long x'), .second, .val (.long q0), .second, .val (.long q2), .second, .val (.long q4), .second, .val (.int (own_b P1)), .val (.int (own_b P2)), .val (.int (own_b P3))] [(.int (1 : Int32))])
            refine own_st (fun _ k => XS.goto X0.here hx rfl (pc0 := 36) (pc' := 40) rfl (hb hby d8_36) (by decide) (by decide) k) ?_
            show own_Go p e s below _ _ _ T0 (mkF m 40 #[.val (.long x'), .second, .val (.long q0), .second, .val (.long q2), .second, .val (.long q4), .second, .val (.int (own_b P1)), .val (.int (own_b P2)), .val (.int (own_b P3))] [(.int (1 : Int32))])
            exact own_retN X0 hx hlk (t := .boolean) hret (by simp) (hb hby d8_40) (z' := (1 : Int32)) rfl (by decide) (by decide) ⟨by rw [own_bt (by simp [c2_84, c8_85, c13_86, c25_90, c32_91])], N0, e0⟩
          · refine own_st (fun _ k => XS.ifYes X0.here hx rfl (pc0 := 32) (pc' := 39) rfl (hb hby d8_32) rfl ((if0 _ _).trans (feq (fun q => c32_91 ((lw_eq _ _).mp q))).2) (by decide) (by decide) k) ?_
            show own_Go p e s below _ _ _ T0 (mkF m 39 #[.val (.long x'), .second, .val (.long q0), .second, .val (.long q2), .second, .val (.long q4), .second, .val (.int (own_b P1)), .val (.int (own_b P2)), .val (.int (own_b P3))] [])
            refine own_st (fun _ k => XS.iconst X0.here hx rfl (hb hby d8_39) k) ?_
            show own_Go p e s below _ _ _ T0 (mkF m 40 #[.val (.long x'), .second, .val (.long q0), .second, .val (.long q2), .second, .val (.long q4), .second, .val (.int (own_b P1)), .val (.int (own_b P2)), .val (.int (own_b P3))] [(.int (0 : Int32))])
            exact own_retN X0 hx hlk (t := .boolean) hret (by simp) (hb hby d8_40) (z' := (0 : Int32)) rfl (by decide) (by decide) ⟨by rw [own_bf (by simp [c2_84, c8_85, c13_86, c25_90, c32_91])], N0, e0⟩
        · refine own_st (fun _ k => XS.ifYes X0.here hx rfl (pc0 := 25) (pc' := 39) rfl (hb hby d8_25) rfl (own_bn c25_90).1 (by decide) (by decide) k) ?_
          show own_Go p e s below _ _ _ T0 (mkF m 39 #[.val (.long x'), .second, .val (.long q0), .second, .val (.long q2), .second, .val (.long q4), .second, .val (.int (own_b P1)), .val (.int (own_b P2)), .val (.int (own_b P3))] [])
          refine own_st (fun _ k => XS.iconst X0.here hx rfl (hb hby d8_39) k) ?_
          show own_Go p e s below _ _ _ T0 (mkF m 40 #[.val (.long x'), .second, .val (.long q0), .second, .val (.long q2), .second, .val (.long q4), .second, .val (.int (own_b P1)), .val (.int (own_b P2)), .val (.int (own_b P3))] [(.int (0 : Int32))])
          exact own_retN X0 hx hlk (t := .boolean) hret (by simp) (hb hby d8_40) (z' := (0 : Int32)) rfl (by decide) (by decide) ⟨by rw [own_bf (by simp [c2_84, c8_85, c13_86, c25_90])], N0, e0⟩
  · refine own_st (fun _ k => XS.ifYes X0.here hx rfl (pc0 := 2) (pc' := 11) rfl (hb hby d8_2) rfl (own_bn c2_84).1 (by decide) (by decide) k) ?_
    show own_Go p e s below _ _ _ T0 (mkF m 11 #[.val (.long x'), .second, .val (.long q0), .second, .val (.long q2), .second, .val (.long q4), .second, .val (.int (own_b P1)), .val (.int (own_b P2)), .val (.int (own_b P3))] [])
    refine own_st (fun _ k => XS.iload X0.here hx rfl (hb hby d8_11) rfl k) ?_
    show own_Go p e s below _ _ _ T0 (mkF m 13 #[.val (.long x'), .second, .val (.long q0), .second, .val (.long q2), .second, .val (.long q4), .second, .val (.int (own_b P1)), .val (.int (own_b P2)), .val (.int (own_b P3))] [(.int (own_b P2))])
    by_cases c13_92 : P2
    · refine own_st (fun _ k => XS.ifNo X0.here hx rfl (hb hby d8_13) rfl (own_by c13_92).2 k) ?_
      show own_Go p e s below _ _ _ T0 (mkF m 16 #[.val (.long x'), .second, .val (.long q0), .second, .val (.long q2), .second, .val (.long q4), .second, .val (.int (own_b P1)), .val (.int (own_b P2)), .val (.int (own_b P3))] [])
      refine own_st (fun _ k => XS.lloadN X0.here hx rfl (hb hby d8_16) rfl k) ?_
      show own_Go p e s below _ _ _ T0 (mkF m 17 #[.val (.long x'), .second, .val (.long q0), .second, .val (.long q2), .second, .val (.long q4), .second, .val (.int (own_b P1)), .val (.int (own_b P2)), .val (.int (own_b P3))] [(.long x')])
      refine own_st (fun _ k => XS.lload X0.here hx rfl (hb hby d8_17) rfl k) ?_
      show own_Go p e s below _ _ _ T0 (mkF m 19 #[.val (.long x'), .second, .val (.long q0), .second, .val (.long q2), .second, .val (.long q4), .second, .val (.int (own_b P1)), .val (.int (own_b P2)), .val (.int (own_b P3))] [(.long q2), (.long x')])
      refine own_st (fun _ k => XS.lcmp X0.here hx rfl (hb hby d8_19) rfl k) ?_
      show own_Go p e s below _ _ _ T0 (mkF m 20 #[.val (.long x'), .second, .val (.long q0), .second, .val (.long q2), .second, .val (.long q4), .second, .val (.int (own_b P1)), .val (.int (own_b P2)), .val (.int (own_b P3))] [(.int (lcmpW x' q2))])
      by_cases c20_93 : x' = q2
      · refine own_st (fun _ k => XS.ifYes X0.here hx rfl (pc0 := 20) (pc' := 35) rfl (hb hby d8_20) rfl ((if0 _ _).trans (teq ((lw_eq _ _).mpr c20_93)).1) (by decide) (by decide) k) ?_
        show own_Go p e s below _ _ _ T0 (mkF m 35 #[.val (.long x'), .second, .val (.long q0), .second, .val (.long q2), .second, .val (.long q4), .second, .val (.int (own_b P1)), .val (.int (own_b P2)), .val (.int (own_b P3))] [])
        refine own_st (fun _ k => XS.iconst X0.here hx rfl (hb hby d8_35) k) ?_
        show own_Go p e s below _ _ _ T0 (mkF m 36 #[.val (.long x'), .second, .val (.long q0), .second, .val (.long q2), .second, .val (.long q4), .second, .val (.int (own_b P1)), .val (.int (own_b P2)), .val (.int (own_b P3))] [(.int (1 : Int32))])
        refine own_st (fun _ k => XS.goto X0.here hx rfl (pc0 := 36) (pc' := 40) rfl (hb hby d8_36) (by decide) (by decide) k) ?_
        show own_Go p e s below _ _ _ T0 (mkF m 40 #[.val (.long x'), .second, .val (.long q0), .second, .val (.long q2), .second, .val (.long q4), .second, .val (.int (own_b P1)), .val (.int (own_b P2)), .val (.int (own_b P3))] [(.int (1 : Int32))])
        exact own_retN X0 hx hlk (t := .boolean) hret (by simp) (hb hby d8_40) (z' := (1 : Int32)) rfl (by decide) (by decide) ⟨by rw [own_bt (by simp [c2_84, c13_92, c20_93])], N0, e0⟩
      · refine own_st (fun _ k => XS.ifNo X0.here hx rfl (hb hby d8_20) rfl ((if0 _ _).trans (feq (fun q => c20_93 ((lw_eq _ _).mp q))).1) k) ?_
        show own_Go p e s below _ _ _ T0 (mkF m 23 #[.val (.long x'), .second, .val (.long q0), .second, .val (.long q2), .second, .val (.long q4), .second, .val (.int (own_b P1)), .val (.int (own_b P2)), .val (.int (own_b P3))] [])
        refine own_st (fun _ k => XS.iload X0.here hx rfl (hb hby d8_23) rfl k) ?_
        show own_Go p e s below _ _ _ T0 (mkF m 25 #[.val (.long x'), .second, .val (.long q0), .second, .val (.long q2), .second, .val (.long q4), .second, .val (.int (own_b P1)), .val (.int (own_b P2)), .val (.int (own_b P3))] [(.int (own_b P3))])
        by_cases c25_94 : P3
        · refine own_st (fun _ k => XS.ifNo X0.here hx rfl (hb hby d8_25) rfl (own_by c25_94).2 k) ?_
          show own_Go p e s below _ _ _ T0 (mkF m 28 #[.val (.long x'), .second, .val (.long q0), .second, .val (.long q2), .second, .val (.long q4), .second, .val (.int (own_b P1)), .val (.int (own_b P2)), .val (.int (own_b P3))] [])
          refine own_st (fun _ k => XS.lloadN X0.here hx rfl (hb hby d8_28) rfl k) ?_
          show own_Go p e s below _ _ _ T0 (mkF m 29 #[.val (.long x'), .second, .val (.long q0), .second, .val (.long q2), .second, .val (.long q4), .second, .val (.int (own_b P1)), .val (.int (own_b P2)), .val (.int (own_b P3))] [(.long x')])
          refine own_st (fun _ k => XS.lload X0.here hx rfl (hb hby d8_29) rfl k) ?_
          show own_Go p e s below _ _ _ T0 (mkF m 31 #[.val (.long x'), .second, .val (.long q0), .second, .val (.long q2), .second, .val (.long q4), .second, .val (.int (own_b P1)), .val (.int (own_b P2)), .val (.int (own_b P3))] [(.long q4), (.long x')])
          refine own_st (fun _ k => XS.lcmp X0.here hx rfl (hb hby d8_31) rfl k) ?_
          show own_Go p e s below _ _ _ T0 (mkF m 32 #[.val (.long x'), .second, .val (.long q0), .second, .val (.long q2), .second, .val (.long q4), .second, .val (.int (own_b P1)), .val (.int (own_b P2)), .val (.int (own_b P3))] [(.int (lcmpW x' q4))])
          by_cases c32_95 : x' = q4
          · refine own_st (fun _ k => XS.ifNo X0.here hx rfl (hb hby d8_32) rfl ((if0 _ _).trans (teq ((lw_eq _ _).mpr c32_95)).2) k) ?_
            show own_Go p e s below _ _ _ T0 (mkF m 35 #[.val (.long x'), .second, .val (.long q0), .second, .val (.long q2), .second, .val (.long q4), .second, .val (.int (own_b P1)), .val (.int (own_b P2)), .val (.int (own_b P3))] [])
            refine own_st (fun _ k => XS.iconst X0.here hx rfl (hb hby d8_35) k) ?_
            show own_Go p e s below _ _ _ T0 (mkF m 36 #[.val (.long x'), .second, .val (.long q0), .second, .val (.long q2), .second, .val (.long q4), .second, .val (.int (own_b P1)), .val (.int (own_b P2)), .val (.int (own_b P3))] [(.int (1 : Int32))])
            refine own_st (fun _ k => XS.goto X0.here hx rfl (pc0 := 36) (pc' := 40) rfl (hb hby d8_36) (by decide) (by decide) k) ?_
            show own_Go p e s below _ _ _ T0 (mkF m 40 #[.val (.long x'), .second, .val (.long q0), .second, .val (.long q2), .second, .val (.long q4), .second, .val (.int (own_b P1)), .val (.int (own_b P2)), .val (.int (own_b P3))] [(.int (1 : Int32))])
            exact own_retN X0 hx hlk (t := .boolean) hret (by simp) (hb hby d8_40) (z' := (1 : Int32)) rfl (by decide) (by decide) ⟨by rw [own_bt (by simp [c2_84, c13_92, c20_93, c25_94, c32_95])], N0, e0⟩
          · refine own_st (fun _ k => XS.ifYes X0.here hx rfl (pc0 := 32) (pc' := 39) rfl (hb hby d8_32) rfl ((if0 _ _).trans (feq (fun q => c32_95 ((lw_eq _ _).mp q))).2) (by decide) (by decide) k) ?_
            show own_Go p e s below _ _ _ T0 (mkF m 39 #[.val (.long x'), .second, .val (.long q0), .second, .val (.long q2), .second, .val (.long q4), .second, .val (.int (own_b P1)), .val (.int (own_b P2)), .val (.int (own_b P3))] [])
            refine own_st (fun _ k => XS.iconst X0.here hx rfl (hb hby d8_39) k) ?_
            show own_Go p e s below _ _ _ T0 (mkF m 40 #[.val (.long x'), .second, .val (.long q0), .second, .val (.long q2), .second, .val (.long q4), .second, .val (.int (own_b P1)), .val (.int (own_b P2)), .val (.int (own_b P3))] [(.int (0 : Int32))])
            exact own_retN X0 hx hlk (t := .boolean) hret (by simp) (hb hby d8_40) (z' := (0 : Int32)) rfl (by decide) (by decide) ⟨by rw [own_bf (by simp [c2_84, c13_92, c20_93, c25_94, c32_95])], N0, e0⟩
        · refine own_st (fun _ k => XS.ifYes X0.here hx rfl (pc0 := 25) (pc' := 39) rfl (hb hby d8_25) rfl (own_bn c25_94).1 (by decide) (by decide) k) ?_
          show own_Go p e s below _ _ _ T0 (mkF m 39 #[.val (.long x'), .second, .val (.long q0), .second, .val (.long q2), .second, .val (.long q4), .second, .val (.int (own_b P1)), .val (.int (own_b P2)), .val (.int (own_b P3))] [])
          refine own_st (fun _ k => XS.iconst X0.here hx rfl (hb hby d8_39) k) ?_
          show own_Go p e s below _ _ _ T0 (mkF m 40 #[.val (.long x'), .second, .val (.long q0), .second, .val (.long q2), .second, .val (.long q4), .second, .val (.int (own_b P1)), .val (.int (own_b P2)), .val (.int (own_b P3))] [(.int (0 : Int32))])
          exact own_retN X0 hx hlk (t := .boolean) hret (by simp) (hb hby d8_40) (z' := (0 : Int32)) rfl (by decide) (by decide) ⟨by rw [own_bf (by simp [c2_84, c13_92, c20_93, c25_94])], N0, e0⟩
    · refine own_st (fun _ k => XS.ifYes X0.here hx rfl (pc0 := 13) (pc' := 23) rfl (hb hby d8_13) rfl (own_bn c13_92).1 (by decide) (by decide) k) ?_
      show own_Go p e s below _ _ _ T0 (mkF m 23 #[.val (.long x'), .second, .val (.long q0), .second, .val (.long q2), .second, .val (.long q4), .second, .val (.int (own_b P1)), .val (.int (own_b P2)), .val (.int (own_b P3))] [])
      refine own_st (fun _ k => XS.iload X0.here hx rfl (hb hby d8_23) rfl k) ?_
      show own_Go p e s below _ _ _ T0 (mkF m 25 #[.val (.long x'), .second, .val (.long q0), .second, .val (.long q2), .second, .val (.long q4), .second, .val (.int (own_b P1)), .val (.int (own_b P2)), .val (.int (own_b P3))] [(.int (own_b P3))])
      by_cases c25_96 : P3
      · refine own_st (fun _ k => XS.ifNo X0.here hx rfl (hb hby d8_25) rfl (own_by c25_96).2 k) ?_
        show own_Go p e s below _ _ _ T0 (mkF m 28 #[.val (.long x'), .second, .val (.long q0), .second, .val (.long q2), .second, .val (.long q4), .second, .val (.int (own_b P1)), .val (.int (own_b P2)), .val (.int (own_b P3))] [])
        refine own_st (fun _ k => XS.lloadN X0.here hx rfl (hb hby d8_28) rfl k) ?_
        show own_Go p e s below _ _ _ T0 (mkF m 29 #[.val (.long x'), .second, .val (.long q0), .second, .val (.long q2), .second, .val (.long q4), .second, .val (.int (own_b P1)), .val (.int (own_b P2)), .val (.int (own_b P3))] [(.long x')])
        refine own_st (fun _ k => XS.lload X0.here hx rfl (hb hby d8_29) rfl k) ?_
        show own_Go p e s below _ _ _ T0 (mkF m 31 #[.val (.long x'), .second, .val (.long q0), .second, .val (.long q2), .second, .val (.long q4), .second, .val (.int (own_b P1)), .val (.int (own_b P2)), .val (.int (own_b P3))] [(.long q4), (.long x')])
        refine own_st (fun _ k => XS.lcmp X0.here hx rfl (hb hby d8_31) rfl k) ?_
        show own_Go p e s below _ _ _ T0 (mkF m 32 #[.val (.long x'), .second, .val (.long q0), .second, .val (.long q2), .second, .val (.long q4), .second, .val (.int (own_b P1)), .val (.int (own_b P2)), .val (.int (own_b P3))] [(.int (lcmpW x' q4))])
        by_cases c32_97 : x' = q4
        · refine own_st (fun _ k => XS.ifNo X0.here hx rfl (hb hby d8_32) rfl ((if0 _ _).trans (teq ((lw_eq _ _).mpr c32_97)).2) k) ?_
          show own_Go p e s below _ _ _ T0 (mkF m 35 #[.val (.long x'), .second, .val (.long q0), .second, .val (.long q2), .second, .val (.long q4), .second, .val (.int (own_b P1)), .val (.int (own_b P2)), .val (.int (own_b P3))] [])
          refine own_st (fun _ k => XS.iconst X0.here hx rfl (hb hby d8_35) k) ?_
          show own_Go p e s below _ _ _ T0 (mkF m 36 #[.val (.long x'), .second, .val (.long q0), .second, .val (.long q2), .second, .val (.long q4), .second, .val (.int (own_b P1)), .val (.int (own_b P2)), .val (.int (own_b P3))] [(.int (1 : Int32))])
          refine own_st (fun _ k => XS.goto X0.here hx rfl (pc0 := 36) (pc' := 40) rfl (hb hby d8_36) (by decide) (by decide) k) ?_
          show own_Go p e s below _ _ _ T0 (mkF m 40 #[.val (.long x'), .second, .val (.long q0), .second, .val (.long q2), .second, .val (.long q4), .second, .val (.int (own_b P1)), .val (.int (own_b P2)), .val (.int (own_b P3))] [(.int (1 : Int32))])
          exact own_retN X0 hx hlk (t := .boolean) hret (by simp) (hb hby d8_40) (z' := (1 : Int32)) rfl (by decide) (by decide) ⟨by rw [own_bt (by simp [c2_84, c13_92, c25_96, c32_97])], N0, e0⟩
        · refine own_st (fun _ k => XS.ifYes X0.here hx rfl (pc0 := 32) (pc' := 39) rfl (hb hby d8_32) rfl ((if0 _ _).trans (feq (fun q => c32_97 ((lw_eq _ _).mp q))).2) (by decide) (by decide) k) ?_
          show own_Go p e s below _ _ _ T0 (mkF m 39 #[.val (.long x'), .second, .val (.long q0), .second, .val (.long q2), .second, .val (.long q4), .second, .val (.int (own_b P1)), .val (.int (own_b P2)), .val (.int (own_b P3))] [])
          refine own_st (fun _ k => XS.iconst X0.here hx rfl (hb hby d8_39) k) ?_
          show own_Go p e s below _ _ _ T0 (mkF m 40 #[.val (.long x'), .second, .val (.long q0), .second, .val (.long q2), .second, .val (.long q4), .second, .val (.int (own_b P1)), .val (.int (own_b P2)), .val (.int (own_b P3))] [(.int (0 : Int32))])
          exact own_retN X0 hx hlk (t := .boolean) hret (by simp) (hb hby d8_40) (z' := (0 : Int32)) rfl (by decide) (by decide) ⟨by rw [own_bf (by simp [c2_84, c13_92, c25_96, c32_97])], N0, e0⟩
      · refine own_st (fun _ k => XS.ifYes X0.here hx rfl (pc0 := 25) (pc' := 39) rfl (hb hby d8_25) rfl (own_bn c25_96).1 (by decide) (by decide) k) ?_
        show own_Go p e s below _ _ _ T0 (mkF m 39 #[.val (.long x'), .second, .val (.long q0), .second, .val (.long q2), .second, .val (.long q4), .second, .val (.int (own_b P1)), .val (.int (own_b P2)), .val (.int (own_b P3))] [])
        refine own_st (fun _ k => XS.iconst X0.here hx rfl (hb hby d8_39) k) ?_
        show own_Go p e s below _ _ _ T0 (mkF m 40 #[.val (.long x'), .second, .val (.long q0), .second, .val (.long q2), .second, .val (.long q4), .second, .val (.int (own_b P1)), .val (.int (own_b P2)), .val (.int (own_b P3))] [(.int (0 : Int32))])
        exact own_retN X0 hx hlk (t := .boolean) hret (by simp) (hb hby d8_40) (z' := (0 : Int32)) rfl (by decide) (by decide) ⟨by rw [own_bf (by simp [c2_84, c13_92, c25_96])], N0, e0⟩
theorem ef_rm0 (m : MethodId) (z0 : Int64) (z1 : Int64) (z2 : Int64) (z3 : Int64) (z4 : Int32) : entryFrame m #[(.long z0), (.long z1), (.long z2), (.long z3), (.int z4)] maxLocals = mkF m 0 #[.val (.long z0), .second, .val (.long z1), .second, .val (.long z2), .second, .val (.long z3), .second, .val (.int z4), .unset, .unset, .unset, .unset, .unset, .unset, .unset, .unset, .unset, .unset, .unset] [] := by first | (simp [entryFrame, mkF, argsToLocals, Value.category, maxLocals]; done) | rfl
set_option maxRecDepth 65536 in
set_option maxHeartbeats 40000000 in
theorem rm0 (l : Launch) (Z : State) (a0 : Array Value) (hw : ∀ d ∈ tables_1, d.before a0 Z = true) (ws : List Jvm.Cond) (q0 q2 q4 q6 : Int64) (p8 : Int32) (h0 : Heap) (n0 : Nat) (Z0 : n0 ≤ h0.size)  :
    own_Met l Z x code maxLocals ret room_1 ws #[(.long q0), (.long q2), (.long q4), (.long q6), (.int p8)] h0 (fun v h L => v = some (.int 1) ∧ Fr n0 L) 16 128 := by
  refine own_enter pf0 (fun m => ef_rm0 m q0 q2 q4 q6 p8) ?_
  intro p e s m below meth c T0 hx hby hml hown hnm hret hlk hZ X0 e0
  have N0 := Fr.nil n0
  show own_Go p e s below _ _ _ T0 (mkF m 0 #[.val (.long q0), .second, .val (.long q2), .second, .val (.long q4), .second, .val (.long q6), .second, .val (.int p8), .unset, .unset, .unset, .unset, .unset, .unset, .unset, .unset, .unset, .unset, .unset] [])
  refine own_st (fun _ k => XS.iload X0.here hx rfl (hb hby at_0) rfl k) ?_
  show own_Go p e s below _ _ _ T0 (mkF m 2 #[.val (.long q0), .second, .val (.long q2), .second, .val (.long q4), .second, .val (.long q6), .second, .val (.int p8), .unset, .unset, .unset, .unset, .unset, .unset, .unset, .unset, .unset, .unset, .unset] [(.int p8)])
  refine own_st (fun _ k => XS.iconst X0.here hx rfl (hb hby at_2) k) ?_
  show own_Go p e s below _ _ _ T0 (mkF m 3 #[.val (.long q0), .second, .val (.long q2), .second, .val (.long q4), .second, .val (.long q6), .second, .val (.int p8), .unset, .unset, .unset, .unset, .unset, .unset, .unset, .unset, .unset, .unset, .unset] [(.int (1 : Int32)), (.int p8)])
  refine own_st (fun _ k => XS.iand X0.here hx rfl (hb hby at_3) rfl k) ?_
  show own_Go p e s below _ _ _ T0 (mkF m 4 #[.val (.long q0), .second, .val (.long q2), .second, .val (.long q4), .second, .val (.long q6), .second, .val (.int p8), .unset, .unset, .unset, .unset, .unset, .unset, .unset, .unset, .unset, .unset, .unset] [(.int (p8 &&& (1 : Int32)))])
  have Jf12 : ∀ (A : Prop) [Decidable A] (bz : Int32) (_ : bz = own_b A), own_Go p e s below (fun (v : Option Value) (h : Heap) (L : List Loc) => v = some (.int 1) ∧ Fr n0 L) 16 128 T0 (mkF m 12 #[.val (.long q0), .second, .val (.long q2), .second, .val (.long q4), .second, .val (.long q6), .second, .val (.int p8), .unset, .unset, .unset, .unset, .unset, .unset, .unset, .unset, .unset, .unset, .unset] [(.int bz)]) := by
    intro A _; rintro _ rfl
    show own_Go p e s below _ _ _ T0 (mkF m 12 #[.val (.long q0), .second, .val (.long q2), .second, .val (.long q4), .second, .val (.long q6), .second, .val (.int p8), .unset, .unset, .unset, .unset, .unset, .unset, .unset, .unset, .unset, .unset, .unset] [(.int (own_b A))])
    refine own_st (fun _ k => XS.istore X0.here hx rfl (hb hby at_12) rfl (l' := #[.val (.long q0), .second, .val (.long q2), .second, .val (.long q4), .second, .val (.long q6), .second, .val (.int p8), .val (.int (own_b A)), .unset, .unset, .unset, .unset, .unset, .unset, .unset, .unset, .unset, .unset]) rfl k) ?_
    show own_Go p e s below _ _ _ T0 (mkF m 14 #[.val (.long q0), .second, .val (.long q2), .second, .val (.long q4), .second, .val (.long q6), .second, .val (.int p8), .val (.int (own_b A)), .unset, .unset, .unset, .unset, .unset, .unset, .unset, .unset, .unset, .unset] [])
    refine own_st (fun _ k => XS.iload X0.here hx rfl (hb hby at_14) rfl k) ?_
    show own_Go p e s below _ _ _ T0 (mkF m 16 #[.val (.long q0), .second, .val (.long q2), .second, .val (.long q4), .second, .val (.long q6), .second, .val (.int p8), .val (.int (own_b A)), .unset, .unset, .unset, .unset, .unset, .unset, .unset, .unset, .unset, .unset] [(.int p8)])
    refine own_st (fun _ k => XS.iconst X0.here hx rfl (hb hby at_16) k) ?_
    show own_Go p e s below _ _ _ T0 (mkF m 17 #[.val (.long q0), .second, .val (.long q2), .second, .val (.long q4), .second, .val (.long q6), .second, .val (.int p8), .val (.int (own_b A)), .unset, .unset, .unset, .unset, .unset, .unset, .unset, .unset, .unset, .unset] [(.int (2 : Int32)), (.int p8)])
    refine own_st (fun _ k => XS.iand X0.here hx rfl (hb hby at_17) rfl k) ?_
    show own_Go p e s below _ _ _ T0 (mkF m 18 #[.val (.long q0), .second, .val (.long q2), .second, .val (.long q4), .second, .val (.long q6), .second, .val (.int p8), .val (.int (own_b A)), .unset, .unset, .unset, .unset, .unset, .unset, .unset, .unset, .unset, .unset] [(.int (p8 &&& (2 : Int32)))])
    have Jf26 : ∀ (Cl : Prop) [Decidable Cl] (bz : Int32) (_ : bz = own_b Cl), own_Go p e s below (fun (v : Option Value) (h : Heap) (L : List Loc) => v = some (.int 1) ∧ Fr n0 L) 16 128 T0 (mkF m 26 #[.val (.long q0), .second, .val (.long q2), .second, .val (.long q4), .second, .val (.long q6), .second, .val (.int p8), .val (.int (own_b A)), .unset, .unset, .unset, .unset, .unset, .unset, .unset, .unset, .unset, .unset] [(.int bz)]) := by
      intro Cl _; rintro _ rfl
      show own_Go p e s below _ _ _ T0 (mkF m 26 #[.val (.long q0), .second, .val (.long q2), .second, .val (.long q4), .second, .val (.long q6), .second, .val (.int p8), .val (.int (own_b A)), .unset, .unset, .unset, .unset, .unset, .unset, .unset, .unset, .unset, .unset] [(.int (own_b Cl))])
      refine own_st (fun _ k => XS.istore X0.here hx rfl (hb hby at_26) rfl (l' := #[.val (.long q0), .second, .val (.long q2), .second, .val (.long q4), .second, .val (.long q6), .second, .val (.int p8), .val (.int (own_b A)), .val (.int (own_b Cl)), .unset, .unset, .unset, .unset, .unset, .unset, .unset, .unset, .unset]) rfl k) ?_
      show own_Go p e s below _ _ _ T0 (mkF m 28 #[.val (.long q0), .second, .val (.long q2), .second, .val (.long q4), .second, .val (.long q6), .second, .val (.int p8), .val (.int (own_b A)), .val (.int (own_b Cl)), .unset, .unset, .unset, .unset, .unset, .unset, .unset, .unset, .unset] [])
      refine own_st (fun _ k => XS.iload X0.here hx rfl (hb hby at_28) rfl k) ?_
      show own_Go p e s below _ _ _ T0 (mkF m 30 #[.val (.long q0), .second, .val (.long q2), .second, .val (.long q4), .second, .val (.long q6), .second, .val (.int p8), .val (.int (own_b A)), .val (.int (own_b Cl)), .unset, .unset, .unset, .unset, .unset, .unset, .unset, .unset, .unset] [(.int p8)])
      refine own_st (fun _ k => XS.iconst X0.here hx rfl (hb hby at_30) k) ?_
      show own_Go p e s below _ _ _ T0 (mkF m 31 #[.val (.long q0), .second, .val (.long q2), .second, .val (.long q4), .second, .val (.long q6), .second, .val (.int p8), .val (.int (own_b A)), .val (.int (own_b Cl)), .unset, .unset, .unset, .unset, .unset, .unset, .unset, .unset, .unset] [(.int (4 : Int32)), (.int p8)])
      refine own_st (fun _ k => XS.iand X0.here hx rfl (hb hby at_31) rfl k) ?_
      show own_Go p e s below _ _ _ T0 (mkF m 32 #[.val (.long q0), .second, .val (.long q2), .second, .val (.long q4), .second, .val (.long q6), .second, .val (.int p8), .val (.int (own_b A)), .val (.int (own_b Cl)), .unset, .unset, .unset, .unset, .unset, .unset, .unset, .unset, .unset] [(.int (p8 &&& (4 : Int32)))])
      have Jf40 : ∀ (B : Prop) [Decidable B] (bz : Int32) (_ : bz = own_b B), own_Go p e s below (fun (v : Option Value) (h : Heap) (L : List Loc) => v = some (.int 1) ∧ Fr n0 L) 16 128 T0 (mkF m 40 #[.val (.long q0), .second, .val (.long q2), .second, .val (.long q4), .second, .val (.long q6), .second, .val (.int p8), .val (.int (own_b A)), .val (.int (own_b Cl)), .unset, .unset, .unset, .unset, .unset, .unset, .unset, .unset, .unset] [(.int bz)]) := by
        intro B _; rintro _ rfl
        show own_Go p e s below _ _ _ T0 (mkF m 40 #[.val (.long q0), .second, .val (.long q2), .second, .val (.long q4), .second, .val (.long q6), .second, .val (.int p8), .val (.int (own_b A)), .val (.int (own_b Cl)), .unset, .unset, .unset, .unset, .unset, .unset, .unset, .unset, .unset] [(.int (own_b B))])
        refine own_st (fun _ k => XS.istore X0.here hx rfl (hb hby at_40) rfl (l' := #[.val (.long q0), .second, .val (.long q2), .second, .val (.long q4), .second, .val (.long q6), .second, .val (.int p8), .val (.int (own_b A)), .val (.int (own_b Cl)), .val (.int (own_b B)), .unset, .unset, .unset, .unset, .unset, .unset, .unset, .unset]) rfl k) ?_
        show own_Go p e s below _ _ _ T0 (mkF m 42 #[.val (.long q0), .second, .val (.long q2), .second, .val (.long q4), .second, .val (.long q6), .second, .val (.int p8), .val (.int (own_b A)), .val (.int (own_b Cl)), .val (.int (own_b B)), .unset, .unset, .unset, .unset, .unset, .unset, .unset, .unset] [])
        refine own_st (fun _ k => XS.iload X0.here hx rfl (hb hby at_42) rfl k) ?_
        show own_Go p e s below _ _ _ T0 (mkF m 44 #[.val (.long q0), .second, .val (.long q2), .second, .val (.long q4), .second, .val (.long q6), .second, .val (.int p8), .val (.int (own_b A)), .val (.int (own_b Cl)), .val (.int (own_b B)), .unset, .unset, .unset, .unset, .unset, .unset, .unset, .unset] [(.int p8)])
        refine own_st (fun _ k => XS.bipush X0.here hx rfl (hb hby at_44) k) ?_
        show own_Go p e s below _ _ _ T0 (mkF m 46 #[.val (.long q0), .second, .val (.long q2), .second, .val (.long q4), .second, .val (.long q6), .second, .val (.int p8), .val (.int (own_b A)), .val (.int (own_b Cl)), .val (.int (own_b B)), .unset, .unset, .unset, .unset, .unset, .unset, .unset, .unset] [(.int (8 : Int32)), (.int p8)])
        refine own_st (fun _ k => XS.iand X0.here hx rfl (hb hby at_46) rfl k) ?_
        show own_Go p e s below _ _ _ T0 (mkF m 47 #[.val (.long q0), .second, .val (.long q2), .second, .val (.long q4), .second, .val (.long q6), .second, .val (.int p8), .val (.int (own_b A)), .val (.int (own_b Cl)), .val (.int (own_b B)), .unset, .unset, .unset, .unset, .unset, .unset, .unset, .unset] [(.int (p8 &&& (8 : Int32)))])
        have Jf55 : ∀ (C : Prop) [Decidable C] (bz : Int32) (_ : bz = own_b C), own_Go p e s below (fun (v : Option Value) (h : Heap) (L : List Loc) => v = some (.int 1) ∧ Fr n0 L) 16 128 T0 (mkF m 55 #[.val (.long q0), .second, .val (.long q2), .second, .val (.long q4), .second, .val (.long q6), .second, .val (.int p8), .val (.int (own_b A)), .val (.int (own_b Cl)), .val (.int (own_b B)), .unset, .unset, .unset, .unset, .unset, .unset, .unset, .unset] [(.int bz)]) := by
          intro C _; rintro _ rfl
          show own_Go p e s below _ _ _ T0 (mkF m 55 #[.val (.long q0), .second, .val (.long q2), .second, .val (.long q4), .second, .val (.long q6), .second, .val (.int p8), .val (.int (own_b A)), .val (.int (own_b Cl)), .val (.int (own_b B)), .unset, .unset, .unset, .unset, .unset, .unset, .unset, .unset] [(.int (own_b C))])
          refine own_st (fun _ k => XS.istore X0.here hx rfl (hb hby at_55) rfl (l' := #[.val (.long q0), .second, .val (.long q2), .second, .val (.long q4), .second, .val (.long q6), .second, .val (.int p8), .val (.int (own_b A)), .val (.int (own_b Cl)), .val (.int (own_b B)), .val (.int (own_b C)), .unset, .unset, .unset, .unset, .unset, .unset, .unset]) rfl k) ?_
          show own_Go p e s below _ _ _ T0 (mkF m 57 #[.val (.long q0), .second, .val (.long q2), .second, .val (.long q4), .second, .val (.long q6), .second, .val (.int p8), .val (.int (own_b A)), .val (.int (own_b Cl)), .val (.int (own_b B)), .val (.int (own_b C)), .unset, .unset, .unset, .unset, .unset, .unset, .unset] [])
          refine own_st (fun _ k => XS.iload X0.here hx rfl (hb hby at_57) rfl k) ?_
          show own_Go p e s below _ _ _ T0 (mkF m 59 #[.val (.long q0), .second, .val (.long q2), .second, .val (.long q4), .second, .val (.long q6), .second, .val (.int p8), .val (.int (own_b A)), .val (.int (own_b Cl)), .val (.int (own_b B)), .val (.int (own_b C)), .unset, .unset, .unset, .unset, .unset, .unset, .unset] [(.int p8)])
          refine own_st (fun _ k => XS.iconst X0.here hx rfl (hb hby at_59) k) ?_
          show own_Go p e s below _ _ _ T0 (mkF m 60 #[.val (.long q0), .second, .val (.long q2), .second, .val (.long q4), .second, .val (.long q6), .second, .val (.int p8), .val (.int (own_b A)), .val (.int (own_b Cl)), .val (.int (own_b B)), .val (.int (own_b C)), .unset, .unset, .unset, .unset, .unset, .unset, .unset] [(.int (4 : Int32)), (.int p8)])
          refine own_st (fun _ k => XS.iushr X0.here hx rfl (hb hby at_60) rfl k) ?_
          show own_Go p e s below _ _ _ T0 (mkF m 61 #[.val (.long q0), .second, .val (.long q2), .second, .val (.long q4), .second, .val (.long q6), .second, .val (.int p8), .val (.int (own_b A)), .val (.int (own_b Cl)), .val (.int (own_b B)), .val (.int (own_b C)), .unset, .unset, .unset, .unset, .unset, .unset, .unset] [(.int ((p8.toUInt32 >>> ((4 : Int32) &&& 31).toUInt32).toInt32))])
          refine own_st (fun _ k => XS.iconst X0.here hx rfl (hb hby at_61) k) ?_
          show own_Go p e s below _ _ _ T0 (mkF m 62 #[.val (.long q0), .second, .val (.long q2), .second, .val (.long q4), .second, .val (.long q6), .second, .val (.int p8), .val (.int (own_b A)), .val (.int (own_b Cl)), .val (.int (own_b B)), .val (.int (own_b C)), .unset, .unset, .unset, .unset, .unset, .unset, .unset] [(.int (3 : Int32)), (.int ((p8.toUInt32 >>> ((4 : Int32) &&& 31).toUInt32).toInt32))])
          refine own_st (fun _ k => XS.iand X0.here hx rfl (hb hby at_62) rfl k) ?_
          show own_Go p e s below _ _ _ T0 (mkF m 63 #[.val (.long q0), .second, .val (.long q2), .second, .val (.long q4), .second, .val (.long q6), .second, .val (.int p8), .val (.int (own_b A)), .val (.int (own_b Cl)), .val (.int (own_b B)), .val (.int (own_b C)), .unset, .unset, .unset, .unset, .unset, .unset, .unset] [(.int (((p8.toUInt32 >>> ((4 : Int32) &&& 31).toUInt32).toInt32) &&& (3 : Int32)))])
          refine own_st (fun _ k => XS.istore X0.here hx rfl (hb hby at_63) rfl (l' := #[.val (.long q0), .second, .val (.long q2), .second, .val (.long q4), .second, .val (.long q6), .second, .val (.int p8), .val (.int (own_b A)), .val (.int (own_b Cl)), .val (.int (own_b B)), .val (.int (own_b C)), .val (.int (((p8.toUInt32 >>> ((4 : Int32) &&& 31).toUInt32).toInt32) &&& (3 : Int32))), .unset, .unset, .unset, .unset, .unset, .unset]) rfl k) ?_
          show own_Go p e s below _ _ _ T0 (mkF m 65 #[.val (.long q0), .second, .val (.long q2), .second, .val (.long q4), .second, .val (.long q6), .second, .val (.int p8), .val (.int (own_b A)), .val (.int (own_b Cl)), .val (.int (own_b B)), .val (.int (own_b C)), .val (.int (((p8.toUInt32 >>> ((4 : Int32) &&& 31).toUInt32).toInt32) &&& (3 : Int32))), .unset, .unset, .unset, .unset, .unset, .unset] [])
          have J97 : ∀ (y : Int64), own_Go p e s below (fun (v : Option Value) (h : Heap) (L : List Loc) => v = some (.int 1) ∧ Fr n0 L) 16 128 T0 (mkF m 97 #[.val (.long q0), .second, .val (.long q2), .second, .val (.long q4), .second, .val (.long q6), .second, .val (.int p8), .val (.int (own_b A)), .val (.int (own_b Cl)), .val (.int (own_b B)), .val (.int (own_b C)), .val (.int (((p8.toUInt32 >>> ((4 : Int32) &&& 31).toUInt32).toInt32) &&& (3 : Int32))), .unset, .unset, .unset, .unset, .unset, .unset] [(.long y)]) := by
            intro y
            show own_Go p e s below _ _ _ T0 (mkF m 97 #[.val (.long q0), .second, .val (.long q2), .second, .val (.long q4), .second, .val (.long q6), .second, .val (.int p8), .val (.int (own_b A)), .val (.int (own_b Cl)), .val (.int (own_b B)), .val (.int (own_b C)), .val (.int (((p8.toUInt32 >>> ((4 : Int32) &&& 31).toUInt32).toInt32) &&& (3 : Int32))), .unset, .unset, .unset, .unset, .unset, .unset] [(.long y)])
            refine own_st (fun _ k => XS.lstore X0.here hx rfl (hb hby at_97) rfl (l' := #[.val (.long q0), .second, .val (.long q2), .second, .val (.long q4), .second, .val (.long q6), .second, .val (.int p8), .val (.int (own_b A)), .val (.int (own_b Cl)), .val (.int (own_b B)), .val (.int (own_b C)), .val (.int (((p8.toUInt32 >>> ((4 : Int32) &&& 31).toUInt32).toInt32) &&& (3 : Int32))), .val (.long y), .second, .unset, .unset, .unset, .unset]) rfl k) ?_
            show own_Go p e s below _ _ _ T0 (mkF m 99 #[.val (.long q0), .second, .val (.long q2), .second, .val (.long q4), .second, .val (.long q6), .second, .val (.int p8), .val (.int (own_b A)), .val (.int (own_b Cl)), .val (.int (own_b B)), .val (.int (own_b C)), .val (.int (((p8.toUInt32 >>> ((4 : Int32) &&& 31).toUInt32).toInt32) &&& (3 : Int32))), .val (.long y), .second, .unset, .unset, .unset, .unset] [])
            obtain ⟨T98, h98, X98, e98, E98, A98, D98, -, st98⟩ := newO X0 hx hZ hown (hw _ (List.mem_of_getElem? (i := 0) rfl)) (hw _ (List.mem_of_getElem? (i := 1) rfl)) (hw _ (List.mem_of_getElem? (i := 2) rfl)) e0 (g := (mkF m 99 #[.val (.long q0), .second, .val (.long q2), .second, .val (.long q4), .second, .val (.long q6), .second, .val (.int p8), .val (.int (own_b A)), .val (.int (own_b Cl)), .val (.int (own_b B)), .val (.int (own_b C)), .val (.int (((p8.toUInt32 >>> ((4 : Int32) &&& 31).toUInt32).toInt32) &&& (3 : Int32))), .val (.long y), .second, .unset, .unset, .unset, .unset] [])) rfl (hb hby at_99) (by decide) (by decide)
            obtain ⟨b, g98⟩ : ∃ z, z = h0.size := ⟨_, rfl⟩
            rw [← g98] at A98 D98 st98
            have g_b : n0 ≤ b := Nat.le_trans Z0 (Nat.le_of_eq g98.symm)
            have Z99 := Nat.le_trans Z0 E98.1
            have E_b := A98
            have F_table_b : Fld Z h98 b "com/example/phonomark/phonomark/LongSet" "table" "[J" .null := D98 (Or.inl (hw _ (List.mem_of_getElem? (i := 11) rfl))) (ty := (.array .long)) (by decide)
            have F_count_b : Fld Z h98 b "com/example/phonomark/phonomark/LongSet" "count" "I" (.int (0 : Int32)) := D98 (Or.inl (hw _ (List.mem_of_getElem? (i := 22) rfl))) (ty := .int) (by decide)
            have F_holdsZero_b : Fld Z h98 b "com/example/phonomark/phonomark/LongSet" "holdsZero" "Z" (.int (0 : Int32)) := D98 (Or.inl (hw _ (List.mem_of_getElem? (i := 33) rfl))) (ty := .boolean) (by decide)
            refine own_st st98 ?_
            show own_Go p e s below _ _ _ T98 (mkF m 102 #[.val (.long q0), .second, .val (.long q2), .second, .val (.long q4), .second, .val (.long q6), .second, .val (.int p8), .val (.int (own_b A)), .val (.int (own_b Cl)), .val (.int (own_b B)), .val (.int (own_b C)), .val (.int (((p8.toUInt32 >>> ((4 : Int32) &&& 31).toUInt32).toInt32) &&& (3 : Int32))), .val (.long y), .second, .unset, .unset, .unset, .unset] [(.ref b)])
            refine own_st (fun _ k => XS.dup X98.here hx rfl (hb hby at_102) rfl rfl k) ?_
            show own_Go p e s below _ _ _ T98 (mkF m 103 #[.val (.long q0), .second, .val (.long q2), .second, .val (.long q4), .second, .val (.long q6), .second, .val (.int p8), .val (.int (own_b A)), .val (.int (own_b Cl)), .val (.int (own_b B)), .val (.int (own_b C)), .val (.int (((p8.toUInt32 >>> ((4 : Int32) &&& 31).toUInt32).toInt32) &&& (3 : Int32))), .val (.long y), .second, .unset, .unset, .unset, .unset] [(.ref b), (.ref b)])
            refine own_callN X98 hx hZ (y := (⟨"com/example/phonomark/phonomark/LongSet", "<init>", "()V"⟩ : MethodName)) rfl hown (hw _ (List.mem_of_getElem? (i := 3) rfl)) (hw _ (List.mem_of_getElem? (i := 4) rfl)) (hw _ (List.mem_of_getElem? (i := 2) rfl)) (hw _ (List.mem_of_getElem? (i := 5) rfl)) (by decide) e98 (rm1 l Z a0 hw [] b h98 n0 Z99 E_b F_table_b F_count_b F_holdsZero_b g_b) 1 (by decide) (by decide) (g := (mkF m 103 #[.val (.long q0), .second, .val (.long q2), .second, .val (.long q4), .second, .val (.long q6), .second, .val (.int p8), .val (.int (own_b A)), .val (.int (own_b Cl)), .val (.int (own_b B)), .val (.int (own_b C)), .val (.int (((p8.toUInt32 >>> ((4 : Int32) &&& 31).toUInt32).toInt32) &&& (3 : Int32))), .val (.long y), .second, .unset, .unset, .unset, .unset] [(.ref b), (.ref b)])) rfl (by rw [hml]; rfl) (a := b) (argsL := []) (rest := [(.ref b)]) pd0 rfl rfl rfl (by show 2 * 0 + _ ≤ _; exact Nat.le_of_eq rfl) (hb hby at_103) (by decide) (by decide) ?_
            intro T100 v100 L100 X100 hQ100
            obtain ⟨rfl, N100q, HS100⟩ := hQ100
            have N100 := Fr.app N0 N100q
            show own_Go p e s below _ _ _ T100 (mkF m 106 #[.val (.long q0), .second, .val (.long q2), .second, .val (.long q4), .second, .val (.long q6), .second, .val (.int p8), .val (.int (own_b A)), .val (.int (own_b Cl)), .val (.int (own_b B)), .val (.int (own_b C)), .val (.int (((p8.toUInt32 >>> ((4 : Int32) &&& 31).toUInt32).toInt32) &&& (3 : Int32))), .val (.long y), .second, .unset, .unset, .unset, .unset] [(.ref b)])
            obtain ⟨E_b', Zb⟩ := own_SetE HS100
            have E_b := E_b'
            show own_Go p e s below _ _ _ T100 (mkF m 106 #[.val (.long q0), .second, .val (.long q2), .second, .val (.long q4), .second, .val (.long q6), .second, .val (.int p8), .val (.int (own_b A)), .val (.int (own_b Cl)), .val (.int (own_b B)), .val (.int (own_b C)), .val (.int (((p8.toUInt32 >>> ((4 : Int32) &&& 31).toUInt32).toInt32) &&& (3 : Int32))), .val (.long y), .second, .unset, .unset, .unset, .unset] [(.ref b)])
            refine own_st (fun _ k => XS.astore X100.here hx rfl (hb hby at_106) rfl rfl (l' := #[.val (.long q0), .second, .val (.long q2), .second, .val (.long q4), .second, .val (.long q6), .second, .val (.int p8), .val (.int (own_b A)), .val (.int (own_b Cl)), .val (.int (own_b B)), .val (.int (own_b C)), .val (.int (((p8.toUInt32 >>> ((4 : Int32) &&& 31).toUInt32).toInt32) &&& (3 : Int32))), .val (.long y), .second, .val (.ref b), .unset, .unset, .unset]) rfl k) ?_
            show own_Go p e s below _ _ _ T100 (mkF m 108 #[.val (.long q0), .second, .val (.long q2), .second, .val (.long q4), .second, .val (.long q6), .second, .val (.int p8), .val (.int (own_b A)), .val (.int (own_b Cl)), .val (.int (own_b B)), .val (.int (own_b C)), .val (.int (((p8.toUInt32 >>> ((4 : Int32) &&& 31).toUInt32).toInt32) &&& (3 : Int32))), .val (.long y), .second, .val (.ref b), .unset, .unset, .unset] [])
            have J119 : ∀ (T101 : State) (L101 : List Loc) (X101 : Stand p l e room_1 s m #[(.long q0), (.long q2), (.long q4), (.long q6), (.int p8)] below meth c T101 L101 2 19) (N101 : Fr n0 L101) (HS101 : own_Set Z n0 T101.heap b (fun x => A ∧ x = q0) 1), own_Go p e s below (fun (v : Option Value) (h : Heap) (L : List Loc) => v = some (.int 1) ∧ Fr n0 L) 16 128 T101 (mkF m 119 #[.val (.long q0), .second, .val (.long q2), .second, .val (.long q4), .second, .val (.long q6), .second, .val (.int p8), .val (.int (own_b A)), .val (.int (own_b Cl)), .val (.int (own_b B)), .val (.int (own_b C)), .val (.int (((p8.toUInt32 >>> ((4 : Int32) &&& 31).toUInt32).toInt32) &&& (3 : Int32))), .val (.long y), .second, .val (.ref b), .unset, .unset, .unset] []) := by
              intro T101 L101 X101 N101 HS101
              obtain ⟨E_b, Z101⟩ := own_SetE HS101
              show own_Go p e s below _ _ _ T101 (mkF m 119 #[.val (.long q0), .second, .val (.long q2), .second, .val (.long q4), .second, .val (.long q6), .second, .val (.int p8), .val (.int (own_b A)), .val (.int (own_b Cl)), .val (.int (own_b B)), .val (.int (own_b C)), .val (.int (((p8.toUInt32 >>> ((4 : Int32) &&& 31).toUInt32).toInt32) &&& (3 : Int32))), .val (.long y), .second, .val (.ref b), .unset, .unset, .unset] [])
              have J129 : ∀ (T102 : State) (L102 : List Loc) (X102 : Stand p l e room_1 s m #[(.long q0), (.long q2), (.long q4), (.long q6), (.int p8)] below meth c T102 L102 2 19) (N102 : Fr n0 L102) (HS102 : own_Set Z n0 T102.heap b (fun x => (A ∧ ¬ Cl) ∧ x = q0) 1), own_Go p e s below (fun (v : Option Value) (h : Heap) (L : List Loc) => v = some (.int 1) ∧ Fr n0 L) 16 128 T102 (mkF m 129 #[.val (.long q0), .second, .val (.long q2), .second, .val (.long q4), .second, .val (.long q6), .second, .val (.int p8), .val (.int (own_b A)), .val (.int (own_b Cl)), .val (.int (own_b B)), .val (.int (own_b C)), .val (.int (((p8.toUInt32 >>> ((4 : Int32) &&& 31).toUInt32).toInt32) &&& (3 : Int32))), .val (.long y), .second, .val (.ref b), .unset, .unset, .unset] []) := by
                intro T102 L102 X102 N102 HS102
                obtain ⟨E_b, Z102⟩ := own_SetE HS102
                show own_Go p e s below _ _ _ T102 (mkF m 129 #[.val (.long q0), .second, .val (.long q2), .second, .val (.long q4), .second, .val (.long q6), .second, .val (.int p8), .val (.int (own_b A)), .val (.int (own_b Cl)), .val (.int (own_b B)), .val (.int (own_b C)), .val (.int (((p8.toUInt32 >>> ((4 : Int32) &&& 31).toUInt32).toInt32) &&& (3 : Int32))), .val (.long y), .second, .val (.ref b), .unset, .unset, .unset] [])
                have J140 : ∀ (T103 : State) (L103 : List Loc) (X103 : Stand p l e room_1 s m #[(.long q0), (.long q2), (.long q4), (.long q6), (.int p8)] below meth c T103 L103 2 19) (N103 : Fr n0 L103) (HS103 : own_Set Z n0 T103.heap b (fun x => ((A ∧ ¬ Cl) ∧ x = q0) ∨ (B ∧ x = q2)) 2), own_Go p e s below (fun (v : Option Value) (h : Heap) (L : List Loc) => v = some (.int 1) ∧ Fr n0 L) 16 128 T103 (mkF m 140 #[.val (.long q0), .second, .val (.long q2), .second, .val (.long q4), .second, .val (.long q6), .second, .val (.int p8), .val (.int (own_b A)), .val (.int (own_b Cl)), .val (.int (own_b B)), .val (.int (own_b C)), .val (.int (((p8.toUInt32 >>> ((4 : Int32) &&& 31).toUInt32).toInt32) &&& (3 : Int32))), .val (.long y), .second, .val (.ref b), .unset, .unset, .unset] []) := by
                  intro T103 L103 X103 N103 HS103
                  obtain ⟨E_b, Z103⟩ := own_SetE HS103
                  show own_Go p e s below _ _ _ T103 (mkF m 140 #[.val (.long q0), .second, .val (.long q2), .second, .val (.long q4), .second, .val (.long q6), .second, .val (.int p8), .val (.int (own_b A)), .val (.int (own_b Cl)), .val (.int (own_b B)), .val (.int (own_b C)), .val (.int (((p8.toUInt32 >>> ((4 : Int32) &&& 31).toUInt32).toInt32) &&& (3 : Int32))), .val (.long y), .second, .val (.ref b), .unset, .unset, .unset] [])
                  have J152 : ∀ (T104 : State) (L104 : List Loc) (X104 : Stand p l e room_1 s m #[(.long q0), (.long q2), (.long q4), (.long q6), (.int p8)] below meth c T104 L104 2 19) (N104 : Fr n0 L104) (HS104 : own_Set Z n0 T104.heap b (fun x => (((A ∧ ¬ Cl) ∧ x = q0) ∨ (B ∧ x = q2)) ∨ (C ∧ x = q4)) 3), own_Go p e s below (fun (v : Option Value) (h : Heap) (L : List Loc) => v = some (.int 1) ∧ Fr n0 L) 16 128 T104 (mkF m 152 #[.val (.long q0), .second, .val (.long q2), .second, .val (.long q4), .second, .val (.long q6), .second, .val (.int p8), .val (.int (own_b A)), .val (.int (own_b Cl)), .val (.int (own_b B)), .val (.int (own_b C)), .val (.int (((p8.toUInt32 >>> ((4 : Int32) &&& 31).toUInt32).toInt32) &&& (3 : Int32))), .val (.long y), .second, .val (.ref b), .unset, .unset, .unset] []) := by
                    intro T104 L104 X104 N104 HS104
                    obtain ⟨E_b, Z104⟩ := own_SetE HS104
                    show own_Go p e s below _ _ _ T104 (mkF m 152 #[.val (.long q0), .second, .val (.long q2), .second, .val (.long q4), .second, .val (.long q6), .second, .val (.int p8), .val (.int (own_b A)), .val (.int (own_b Cl)), .val (.int (own_b B)), .val (.int (own_b C)), .val (.int (((p8.toUInt32 >>> ((4 : Int32) &&& 31).toUInt32).toInt32) &&& (3 : Int32))), .val (.long y), .second, .val (.ref b), .unset, .unset, .unset] [])
                    have J167 : ∀  (bz : Int32) (_ : bz = own_b (A ∧ ¬ Cl)), own_Go p e s below (fun (v : Option Value) (h : Heap) (L : List Loc) => v = some (.int 1) ∧ Fr n0 L) 16 128 T104 (mkF m 167 #[.val (.long q0), .second, .val (.long q2), .second, .val (.long q4), .second, .val (.long q6), .second, .val (.int p8), .val (.int (own_b A)), .val (.int (own_b Cl)), .val (.int (own_b B)), .val (.int (own_b C)), .val (.int (((p8.toUInt32 >>> ((4 : Int32) &&& 31).toUInt32).toInt32) &&& (3 : Int32))), .val (.long y), .second, .val (.ref b), .unset, .unset, .unset] [(.int bz)]) := by
                      rintro _ rfl
                      show own_Go p e s below _ _ _ T104 (mkF m 167 #[.val (.long q0), .second, .val (.long q2), .second, .val (.long q4), .second, .val (.long q6), .second, .val (.int p8), .val (.int (own_b A)), .val (.int (own_b Cl)), .val (.int (own_b B)), .val (.int (own_b C)), .val (.int (((p8.toUInt32 >>> ((4 : Int32) &&& 31).toUInt32).toInt32) &&& (3 : Int32))), .val (.long y), .second, .val (.ref b), .unset, .unset, .unset] [(.int (own_b (A ∧ ¬ Cl)))])
                      refine own_st (fun _ k => XS.istore X104.here hx rfl (hb hby at_167) rfl (l' := #[.val (.long q0), .second, .val (.long q2), .second, .val (.long q4), .second, .val (.long q6), .second, .val (.int p8), .val (.int (own_b A)), .val (.int (own_b Cl)), .val (.int (own_b B)), .val (.int (own_b C)), .val (.int (((p8.toUInt32 >>> ((4 : Int32) &&& 31).toUInt32).toInt32) &&& (3 : Int32))), .val (.long y), .second, .val (.ref b), .val (.int (own_b (A ∧ ¬ Cl))), .unset, .unset]) rfl k) ?_
                      show own_Go p e s below _ _ _ T104 (mkF m 169 #[.val (.long q0), .second, .val (.long q2), .second, .val (.long q4), .second, .val (.long q6), .second, .val (.int p8), .val (.int (own_b A)), .val (.int (own_b Cl)), .val (.int (own_b B)), .val (.int (own_b C)), .val (.int (((p8.toUInt32 >>> ((4 : Int32) &&& 31).toUInt32).toInt32) &&& (3 : Int32))), .val (.long y), .second, .val (.ref b), .val (.int (own_b (A ∧ ¬ Cl))), .unset, .unset] [])
                      refine own_st (fun _ k => XS.aload X104.here hx rfl (hb hby at_169) rfl rfl k) ?_
                      show own_Go p e s below _ _ _ T104 (mkF m 171 #[.val (.long q0), .second, .val (.long q2), .second, .val (.long q4), .second, .val (.long q6), .second, .val (.int p8), .val (.int (own_b A)), .val (.int (own_b Cl)), .val (.int (own_b B)), .val (.int (own_b C)), .val (.int (((p8.toUInt32 >>> ((4 : Int32) &&& 31).toUInt32).toInt32) &&& (3 : Int32))), .val (.long y), .second, .val (.ref b), .val (.int (own_b (A ∧ ¬ Cl))), .unset, .unset] [(.ref b)])
                      refine own_st (fun _ k => XS.lload X104.here hx rfl (hb hby at_171) rfl k) ?_
                      show own_Go p e s below _ _ _ T104 (mkF m 173 #[.val (.long q0), .second, .val (.long q2), .second, .val (.long q4), .second, .val (.long q6), .second, .val (.int p8), .val (.int (own_b A)), .val (.int (own_b Cl)), .val (.int (own_b B)), .val (.int (own_b C)), .val (.int (((p8.toUInt32 >>> ((4 : Int32) &&& 31).toUInt32).toInt32) &&& (3 : Int32))), .val (.long y), .second, .val (.ref b), .val (.int (own_b (A ∧ ¬ Cl))), .unset, .unset] [(.long y), (.ref b)])
                      refine own_callV X104 hx hZ (y := (⟨"com/example/phonomark/phonomark/LongSet", "contains", "(J)Z"⟩ : MethodName)) hown (hw _ (List.mem_of_getElem? (i := 34) rfl)) (hw _ (List.mem_of_getElem? (i := 35) rfl)) (hw _ (List.mem_of_getElem? (i := 37) rfl)) (hw _ (List.mem_of_getElem? (i := 36) rfl)) (hw _ (List.mem_of_getElem? (i := 2) rfl)) (hw _ (List.mem_of_getElem? (i := 38) rfl)) (by decide) rfl (rm7 l Z a0 hw [] b y (fun x => (((A ∧ ¬ Cl) ∧ x = q0) ∨ (B ∧ x = q2)) ∨ (C ∧ x = q4)) 3 T104.heap n0 Z104 HS104 (by decide)) 0 (by decide) (by decide) E_b (g := (mkF m 173 #[.val (.long q0), .second, .val (.long q2), .second, .val (.long q4), .second, .val (.long q6), .second, .val (.int p8), .val (.int (own_b A)), .val (.int (own_b Cl)), .val (.int (own_b B)), .val (.int (own_b C)), .val (.int (((p8.toUInt32 >>> ((4 : Int32) &&& 31).toUInt32).toInt32) &&& (3 : Int32))), .val (.long y), .second, .val (.ref b), .val (.int (own_b (A ∧ ¬ Cl))), .unset, .unset] [(.long y), (.ref b)])) rfl (by rw [hml]; rfl) (argsL := [(.long y)]) (rest := []) pd4 rfl rfl rfl (by show 2 * 0 + _ ≤ _; exact Nat.le_of_eq rfl) (hb hby at_173) (by decide) (by decide) ?_
                      intro T105 v105 L105 X105 hQ105
                      obtain ⟨r0, rfl, hr0, N105q, e105⟩ := hQ105
                      have N105 := Fr.app N104 N105q
                      have hb0 : r0 = own_b (((A ∧ ¬ Cl) ∧ y = q0) ∨ (B ∧ y = q2) ∨ (C ∧ y = q4)) := own_r hr0 (by simp only [or_assoc])
                      subst hb0
                      show own_Go p e s below _ _ _ T105 (mkF m 176 #[.val (.long q0), .second, .val (.long q2), .second, .val (.long q4), .second, .val (.long q6), .second, .val (.int p8), .val (.int (own_b A)), .val (.int (own_b Cl)), .val (.int (own_b B)), .val (.int (own_b C)), .val (.int (((p8.toUInt32 >>> ((4 : Int32) &&& 31).toUInt32).toInt32) &&& (3 : Int32))), .val (.long y), .second, .val (.ref b), .val (.int (own_b (A ∧ ¬ Cl))), .unset, .unset] [(.int (own_b (((A ∧ ¬ Cl) ∧ y = q0) ∨ (B ∧ y = q2) ∨ (C ∧ y = q4))))])
                      refine own_st (fun _ k => XS.istore X105.here hx rfl (hb hby at_176) rfl (l' := #[.val (.long q0), .second, .val (.long q2), .second, .val (.long q4), .second, .val (.long q6), .second, .val (.int p8), .val (.int (own_b A)), .val (.int (own_b Cl)), .val (.int (own_b B)), .val (.int (own_b C)), .val (.int (((p8.toUInt32 >>> ((4 : Int32) &&& 31).toUInt32).toInt32) &&& (3 : Int32))), .val (.long y), .second, .val (.ref b), .val (.int (own_b (A ∧ ¬ Cl))), .val (.int (own_b (((A ∧ ¬ Cl) ∧ y = q0) ∨ (B ∧ y = q2) ∨ (C ∧ y = q4)))), .unset]) rfl k) ?_
                      show own_Go p e s below _ _ _ T105 (mkF m 178 #[.val (.long q0), .second, .val (.long q2), .second, .val (.long q4), .second, .val (.long q6), .second, .val (.int p8), .val (.int (own_b A)), .val (.int (own_b Cl)), .val (.int (own_b B)), .val (.int (own_b C)), .val (.int (((p8.toUInt32 >>> ((4 : Int32) &&& 31).toUInt32).toInt32) &&& (3 : Int32))), .val (.long y), .second, .val (.ref b), .val (.int (own_b (A ∧ ¬ Cl))), .val (.int (own_b (((A ∧ ¬ Cl) ∧ y = q0) ∨ (B ∧ y = q2) ∨ (C ∧ y = q4)))), .unset] [])
                      refine own_st (fun _ k => XS.aload X105.here hx rfl (hb hby at_178) rfl rfl k) ?_
                      show own_Go p e s below _ _ _ T105 (mkF m 180 #[.val (.long q0), .second, .val (.long q2), .second, .val (.long q4), .second, .val (.long q6), .second, .val (.int p8), .val (.int (own_b A)), .val (.int (own_b Cl)), .val (.int (own_b B)), .val (.int (own_b C)), .val (.int (((p8.toUInt32 >>> ((4 : Int32) &&& 31).toUInt32).toInt32) &&& (3 : Int32))), .val (.long y), .second, .val (.ref b), .val (.int (own_b (A ∧ ¬ Cl))), .val (.int (own_b (((A ∧ ¬ Cl) ∧ y = q0) ∨ (B ∧ y = q2) ∨ (C ∧ y = q4)))), .unset] [(.ref b)])
                      refine own_st (fun _ k => XS.lload X105.here hx rfl (hb hby at_180) rfl k) ?_
                      show own_Go p e s below _ _ _ T105 (mkF m 182 #[.val (.long q0), .second, .val (.long q2), .second, .val (.long q4), .second, .val (.long q6), .second, .val (.int p8), .val (.int (own_b A)), .val (.int (own_b Cl)), .val (.int (own_b B)), .val (.int (own_b C)), .val (.int (((p8.toUInt32 >>> ((4 : Int32) &&& 31).toUInt32).toInt32) &&& (3 : Int32))), .val (.long y), .second, .val (.ref b), .val (.int (own_b (A ∧ ¬ Cl))), .val (.int (own_b (((A ∧ ¬ Cl) ∧ y = q0) ∨ (B ∧ y = q2) ∨ (C ∧ y = q4)))), .unset] [(.long q6), (.ref b)])
                      refine own_callV X105 hx hZ (y := (⟨"com/example/phonomark/phonomark/LongSet", "contains", "(J)Z"⟩ : MethodName)) hown (hw _ (List.mem_of_getElem? (i := 34) rfl)) (hw _ (List.mem_of_getElem? (i := 35) rfl)) (hw _ (List.mem_of_getElem? (i := 37) rfl)) (hw _ (List.mem_of_getElem? (i := 36) rfl)) (hw _ (List.mem_of_getElem? (i := 2) rfl)) (hw _ (List.mem_of_getElem? (i := 38) rfl)) (by decide) e105 (rm7 l Z a0 hw [] b q6 (fun x => (((A ∧ ¬ Cl) ∧ x = q0) ∨ (B ∧ x = q2)) ∨ (C ∧ x = q4)) 3 T104.heap n0 Z104 HS104 (by decide)) 0 (by decide) (by decide) E_b (g := (mkF m 182 #[.val (.long q0), .second, .val (.long q2), .second, .val (.long q4), .second, .val (.long q6), .second, .val (.int p8), .val (.int (own_b A)), .val (.int (own_b Cl)), .val (.int (own_b B)), .val (.int (own_b C)), .val (.int (((p8.toUInt32 >>> ((4 : Int32) &&& 31).toUInt32).toInt32) &&& (3 : Int32))), .val (.long y), .second, .val (.ref b), .val (.int (own_b (A ∧ ¬ Cl))), .val (.int (own_b (((A ∧ ¬ Cl) ∧ y = q0) ∨ (B ∧ y = q2) ∨ (C ∧ y = q4)))), .unset] [(.long q6), (.ref b)])) rfl (by rw [hml]; rfl) (argsL := [(.long q6)]) (rest := []) pd4 rfl rfl rfl (by show 2 * 0 + _ ≤ _; exact Nat.le_of_eq rfl) (hb hby at_182) (by decide) (by decide) ?_
                      intro T106 v106 L106 X106 hQ106
                      obtain ⟨r1, rfl, hr1, N106q, e106⟩ := hQ106
                      have N106 := Fr.app N105 N106q
                      have hb1 : r1 = own_b (((A ∧ ¬ Cl) ∧ q6 = q0) ∨ (B ∧ q6 = q2) ∨ (C ∧ q6 = q4)) := own_r hr1 (by simp only [or_assoc])
                      subst hb1
                      show own_Go p e s below _ _ _ T106 (mkF m 185 #[.val (.long q0), .second, .val (.long q2), .second, .val (.long q4), .second, .val (.long q6), .second, .val (.int p8), .val (.int (own_b A)), .val (.int (own_b Cl)), .val (.int (own_b B)), .val (.int (own_b C)), .val (.int (((p8.toUInt32 >>> ((4 : Int32) &&& 31).toUInt32).toInt32) &&& (3 : Int32))), .val (.long y), .second, .val (.ref b), .val (.int (own_b (A ∧ ¬ Cl))), .val (.int (own_b (((A ∧ ¬ Cl) ∧ y = q0) ∨ (B ∧ y = q2) ∨ (C ∧ y = q4)))), .unset] [(.int (own_b (((A ∧ ¬ Cl) ∧ q6 = q0) ∨ (B ∧ q6 = q2) ∨ (C ∧ q6 = q4))))])
                      refine own_st (fun _ k => XS.istore X106.here hx rfl (hb hby at_185) rfl (l' := #[.val (.long q0), .second, .val (.long q2), .second, .val (.long q4), .second, .val (.long q6), .second, .val (.int p8), .val (.int (own_b A)), .val (.int (own_b Cl)), .val (.int (own_b B)), .val (.int (own_b C)), .val (.int (((p8.toUInt32 >>> ((4 : Int32) &&& 31).toUInt32).toInt32) &&& (3 : Int32))), .val (.long y), .second, .val (.ref b), .val (.int (own_b (A ∧ ¬ Cl))), .val (.int (own_b (((A ∧ ¬ Cl) ∧ y = q0) ∨ (B ∧ y = q2) ∨ (C ∧ y = q4)))), .val (.int (own_b (((A ∧ ¬ Cl) ∧ q6 = q0) ∨ (B ∧ q6 = q2) ∨ (C ∧ q6 = q4))))]) rfl k) ?_
                      show own_Go p e s below _ _ _ T106 (mkF m 187 #[.val (.long q0), .second, .val (.long q2), .second, .val (.long q4), .second, .val (.long q6), .second, .val (.int p8), .val (.int (own_b A)), .val (.int (own_b Cl)), .val (.int (own_b B)), .val (.int (own_b C)), .val (.int (((p8.toUInt32 >>> ((4 : Int32) &&& 31).toUInt32).toInt32) &&& (3 : Int32))), .val (.long y), .second, .val (.ref b), .val (.int (own_b (A ∧ ¬ Cl))), .val (.int (own_b (((A ∧ ¬ Cl) ∧ y = q0) ∨ (B ∧ y = q2) ∨ (C ∧ y = q4)))), .val (.int (own_b (((A ∧ ¬ Cl) ∧ q6 = q0) ∨ (B ∧ q6 = q2) ∨ (C ∧ q6 = q4))))] [])
                      refine own_st (fun _ k => XS.iload X106.here hx rfl (hb hby at_187) rfl k) ?_
                      show own_Go p e s below _ _ _ T106 (mkF m 189 #[.val (.long q0), .second, .val (.long q2), .second, .val (.long q4), .second, .val (.long q6), .second, .val (.int p8), .val (.int (own_b A)), .val (.int (own_b Cl)), .val (.int (own_b B)), .val (.int (own_b C)), .val (.int (((p8.toUInt32 >>> ((4 : Int32) &&& 31).toUInt32).toInt32) &&& (3 : Int32))), .val (.long y), .second, .val (.ref b), .val (.int (own_b (A ∧ ¬ Cl))), .val (.int (own_b (((A ∧ ¬ Cl) ∧ y = q0) ∨ (B ∧ y = q2) ∨ (C ∧ y = q4)))), .val (.int (own_b (((A ∧ ¬ Cl) ∧ q6 = q0) ∨ (B ∧ q6 = q2) ∨ (C ∧ q6 = q4))))] [(.int (own_b (((A ∧ ¬ Cl) ∧ y = q0) ∨ (B ∧ y = q2) ∨ (C ∧ y = q4))))])
                      refine own_st (fun _ k => XS.lload X106.here hx rfl (hb hby at_189) rfl k) ?_
                      show own_Go p e s below _ _ _ T106 (mkF m 191 #[.val (.long q0), .second, .val (.long q2), .second, .val (.long q4), .second, .val (.long q6), .second, .val (.int p8), .val (.int (own_b A)), .val (.int (own_b Cl)), .val (.int (own_b B)), .val (.int (own_b C)), .val (.int (((p8.toUInt32 >>> ((4 : Int32) &&& 31).toUInt32).toInt32) &&& (3 : Int32))), .val (.long y), .second, .val (.ref b), .val (.int (own_b (A ∧ ¬ Cl))), .val (.int (own_b (((A ∧ ¬ Cl) ∧ y = q0) ∨ (B ∧ y = q2) ∨ (C ∧ y = q4)))), .val (.int (own_b (((A ∧ ¬ Cl) ∧ q6 = q0) ∨ (B ∧ q6 = q2) ∨ (C ∧ q6 = q4))))] [(.long y), (.int (own_b (((A ∧ ¬ Cl) ∧ y = q0) ∨ (B ∧ y = q2) ∨ (C ∧ y = q4))))])
                      refine own_st (fun _ k => XS.lloadN X106.here hx rfl (hb hby at_191) rfl k) ?_
                      show own_Go p e s below _ _ _ T106 (mkF m 192 #[.val (.long q0), .second, .val (.long q2), .second, .val (.long q4), .second, .val (.long q6), .second, .val (.int p8), .val (.int (own_b A)), .val (.int (own_b Cl)), .val (.int (own_b B)), .val (.int (own_b C)), .val (.int (((p8.toUInt32 >>> ((4 : Int32) &&& 31).toUInt32).toInt32) &&& (3 : Int32))), .val (.long y), .second, .val (.ref b), .val (.int (own_b (A ∧ ¬ Cl))), .val (.int (own_b (((A ∧ ¬ Cl) ∧ y = q0) ∨ (B ∧ y = q2) ∨ (C ∧ y = q4)))), .val (.int (own_b (((A ∧ ¬ Cl) ∧ q6 = q0) ∨ (B ∧ q6 = q2) ∨ (C ∧ q6 = q4))))] [(.long q0), (.long y), (.int (own_b (((A ∧ ¬ Cl) ∧ y = q0) ∨ (B ∧ y = q2) ∨ (C ∧ y = q4))))])
                      refine own_st (fun _ k => XS.lloadN X106.here hx rfl (hb hby at_192) rfl k) ?_
                      show own_Go p e s below _ _ _ T106 (mkF m 193 #[.val (.long q0), .second, .val (.long q2), .second, .val (.long q4), .second, .val (.long q6), .second, .val (.int p8), .val (.int (own_b A)), .val (.int (own_b Cl)), .val (.int (own_b B)), .val (.int (own_b C)), .val (.int (((p8.toUInt32 >>> ((4 : Int32) &&& 31).toUInt32).toInt32) &&& (3 : Int32))), .val (.long y), .second, .val (.ref b), .val (.int (own_b (A ∧ ¬ Cl))), .val (.int (own_b (((A ∧ ¬ Cl) ∧ y = q0) ∨ (B ∧ y = q2) ∨ (C ∧ y = q4)))), .val (.int (own_b (((A ∧ ¬ Cl) ∧ q6 = q0) ∨ (B ∧ q6 = q2) ∨ (C ∧ q6 = q4))))] [(.long q2), (.long q0), (.long y), (.int (own_b (((A ∧ ¬ Cl) ∧ y = q0) ∨ (B ∧ y = q2) ∨ (C ∧ y = q4))))])
                      refine own_st (fun _ k => XS.lload X106.here hx rfl (hb hby at_193) rfl k) ?_
                      show own_Go p e s below _ _ _ T106 (mkF m 195 #[.val (.long q0), .second, .val (.long q2), .second, .val (.long q4), .second, .val (.long q6), .second, .val (.int p8), .val (.int (own_b A)), .val (.int (own_b Cl)), .val (.int (own_b B)), .val (.int (own_b C)), .val (.int (((p8.toUInt32 >>> ((4 : Int32) &&& 31).toUInt32).toInt32) &&& (3 : Int32))), .val (.long y), .second, .val (.ref b), .val (.int (own_b (A ∧ ¬ Cl))), .val (.int (own_b (((A ∧ ¬ Cl) ∧ y = q0) ∨ (B ∧ y = q2) ∨ (C ∧ y = q4)))), .val (.int (own_b (((A ∧ ¬ Cl) ∧ q6 = q0) ∨ (B ∧ q6 = q2) ∨ (C ∧ q6 = q4))))] [(.long q4), (.long q2), (.long q0), (.long y), (.int (own_b (((A ∧ ¬ Cl) ∧ y = q0) ∨ (B ∧ y = q2) ∨ (C ∧ y = q4))))])
                      refine own_st (fun _ k => XS.iload X106.here hx rfl (hb hby at_195) rfl k) ?_
                      show own_Go p e s below _ _ _ T106 (mkF m 197 #[.val (.long q0), .second, .val (.long q2), .second, .val (.long q4), .second, .val (.long q6), .second, .val (.int p8), .val (.int (own_b A)), .val (.int (own_b Cl)), .val (.int (own_b B)), .val (.int (own_b C)), .val (.int (((p8.toUInt32 >>> ((4 : Int32) &&& 31).toUInt32).toInt32) &&& (3 : Int32))), .val (.long y), .second, .val (.ref b), .val (.int (own_b (A ∧ ¬ Cl))), .val (.int (own_b (((A ∧ ¬ Cl) ∧ y = q0) ∨ (B ∧ y = q2) ∨ (C ∧ y = q4)))), .val (.int (own_b (((A ∧ ¬ Cl) ∧ q6 = q0) ∨ (B ∧ q6 = q2) ∨ (C ∧ q6 = q4))))] [(.int (own_b (A ∧ ¬ Cl))), (.long q4), (.long q2), (.long q0), (.long y), (.int (own_b (((A ∧ ¬ Cl) ∧ y = q0) ∨ (B ∧ y = q2) ∨ (C ∧ y = q4))))])
                      refine own_st (fun _ k => XS.iload X106.here hx rfl (hb hby at_197) rfl k) ?_
                      show own_Go p e s below _ _ _ T106 (mkF m 199 #[.val (.long q0), .second, .val (.long q2), .second, .val (.long q4), .second, .val (.long q6), .second, .val (.int p8), .val (.int (own_b A)), .val (.int (own_b Cl)), .val (.int (own_b B)), .val (.int (own_b C)), .val (.int (((p8.toUInt32 >>> ((4 : Int32) &&& 31).toUInt32).toInt32) &&& (3 : Int32))), .val (.long y), .second, .val (.ref b), .val (.int (own_b (A ∧ ¬ Cl))), .val (.int (own_b (((A ∧ ¬ Cl) ∧ y = q0) ∨ (B ∧ y = q2) ∨ (C ∧ y = q4)))), .val (.int (own_b (((A ∧ ¬ Cl) ∧ q6 = q0) ∨ (B ∧ q6 = q2) ∨ (C ∧ q6 = q4))))] [(.int (own_b B)), (.int (own_b (A ∧ ¬ Cl))), (.long q4), (.long q2), (.long q0), (.long y), (.int (own_b (((A ∧ ¬ Cl) ∧ y = q0) ∨ (B ∧ y = q2) ∨ (C ∧ y = q4))))])
                      refine own_st (fun _ k => XS.iload X106.here hx rfl (hb hby at_199) rfl k) ?_
                      show own_Go p e s below _ _ _ T106 (mkF m 201 #[.val (.long q0), .second, .val (.long q2), .second, .val (.long q4), .second, .val (.long q6), .second, .val (.int p8), .val (.int (own_b A)), .val (.int (own_b Cl)), .val (.int (own_b B)), .val (.int (own_b C)), .val (.int (((p8.toUInt32 >>> ((4 : Int32) &&& 31).toUInt32).toInt32) &&& (3 : Int32))), .val (.long y), .second, .val (.ref b), .val (.int (own_b (A ∧ ¬ Cl))), .val (.int (own_b (((A ∧ ¬ Cl) ∧ y = q0) ∨ (B ∧ y = q2) ∨ (C ∧ y = q4)))), .val (.int (own_b (((A ∧ ¬ Cl) ∧ q6 = q0) ∨ (B ∧ q6 = q2) ∨ (C ∧ q6 = q4))))] [(.int (own_b C)), (.int (own_b B)), (.int (own_b (A ∧ ¬ Cl))), (.long q4), (.long q2), (.long q0), (.long y), (.int (own_b (((A ∧ ¬ Cl) ∧ y = q0) ∨ (B ∧ y = q2) ∨ (C ∧ y = q4))))])
                      refine own_callS X106 hx hZ (y := (⟨"com/example/phonomark/phonomark/LongSetContainsPinLaw", "expected", "(JJJJZZZ)Z"⟩ : MethodName)) hown (hw _ (List.mem_of_getElem? (i := 39) rfl)) (hw _ (List.mem_of_getElem? (i := 40) rfl)) (hw _ (List.mem_of_getElem? (i := 41) rfl)) (hw _ (List.mem_of_getElem? (i := 42) rfl)) (by decide) e106 (rm8 l Z a0 hw [] y q0 q2 q4 (A ∧ ¬ Cl) B C T104.heap n0 Z104) 1 (by decide) (by decide) (g := (mkF m 201 #[.val (.long q0), .second, .val (.long q2), .second, .val (.long q4), .second, .val (.long q6), .second, .val (.int p8), .val (.int (own_b A)), .val (.int (own_b Cl)), .val (.int (own_b B)), .val (.int (own_b C)), .val (.int (((p8.toUInt32 >>> ((4 : Int32) &&& 31).toUInt32).toInt32) &&& (3 : Int32))), .val (.long y), .second, .val (.ref b), .val (.int (own_b (A ∧ ¬ Cl))), .val (.int (own_b (((A ∧ ¬ Cl) ∧ y = q0) ∨ (B ∧ y = q2) ∨ (C ∧ y = q4)))), .val (.int (own_b (((A ∧ ¬ Cl) ∧ q6 = q0) ∨ (B ∧ q6 = q2) ∨ (C ∧ q6 = q4))))] [(.int (own_b C)), (.int (own_b B)), (.int (own_b (A ∧ ¬ Cl))), (.long q4), (.long q2), (.long q0), (.long y), (.int (own_b (((A ∧ ¬ Cl) ∧ y = q0) ∨ (B ∧ y = q2) ∨ (C ∧ y = q4))))])) rfl (by rw [hml]; rfl) (argsL := [(.long y), (.long q0), (.long q2), (.long q4), (.int (own_b (A ∧ ¬ Cl))), (.int (own_b B)), (.int (own_b C))]) (rest := [(.int (own_b (((A ∧ ¬ Cl) ∧ y = q0) ∨ (B ∧ y = q2) ∨ (C ∧ y = q4))))]) pd5 rfl rfl rfl (by show 2 * 0 + _ ≤ _; exact Nat.le_of_eq rfl) (hb hby at_201) (by decide) (by decide) ?_
                      intro T107 v107 L107 X107 hQ107
                      obtain ⟨rfl, N107q, e107⟩ := hQ107
                      have N107 := Fr.app N106 N107q
                      show own_Go p e s below _ _ _ T107 (mkF m 204 #[.val (.long q0), .second, .val (.long q2), .second, .val (.long q4), .second, .val (.long q6), .second, .val (.int p8), .val (.int (own_b A)), .val (.int (own_b Cl)), .val (.int (own_b B)), .val (.int (own_b C)), .val (.int (((p8.toUInt32 >>> ((4 : Int32) &&& 31).toUInt32).toInt32) &&& (3 : Int32))), .val (.long y), .second, .val (.ref b), .val (.int (own_b (A ∧ ¬ Cl))), .val (.int (own_b (((A ∧ ¬ Cl) ∧ y = q0) ∨ (B ∧ y = q2) ∨ (C ∧ y = q4)))), .val (.int (own_b (((A ∧ ¬ Cl) ∧ q6 = q0) ∨ (B ∧ q6 = q2) ∨ (C ∧ q6 = q4))))] [(.int (own_b (((A ∧ ¬ Cl) ∧ y = q0) ∨ (B ∧ y = q2) ∨ (C ∧ y = q4)))), (.int (own_b (((A ∧ ¬ Cl) ∧ y = q0) ∨ (B ∧ y = q2) ∨ (C ∧ y = q4))))])
                      refine own_st (fun _ k => XS.icmpNo X107.here hx rfl (hb hby at_204) rfl (teq (rfl : (own_b (((A ∧ ¬ Cl) ∧ y = q0) ∨ (B ∧ y = q2) ∨ (C ∧ y = q4))) = (own_b (((A ∧ ¬ Cl) ∧ y = q0) ∨ (B ∧ y = q2) ∨ (C ∧ y = q4))))).2 k) ?_
                      show own_Go p e s below _ _ _ T107 (mkF m 207 #[.val (.long q0), .second, .val (.long q2), .second, .val (.long q4), .second, .val (.long q6), .second, .val (.int p8), .val (.int (own_b A)), .val (.int (own_b Cl)), .val (.int (own_b B)), .val (.int (own_b C)), .val (.int (((p8.toUInt32 >>> ((4 : Int32) &&& 31).toUInt32).toInt32) &&& (3 : Int32))), .val (.long y), .second, .val (.ref b), .val (.int (own_b (A ∧ ¬ Cl))), .val (.int (own_b (((A ∧ ¬ Cl) ∧ y = q0) ∨ (B ∧ y = q2) ∨ (C ∧ y = q4)))), .val (.int (own_b (((A ∧ ¬ Cl) ∧ q6 = q0) ∨ (B ∧ q6 = q2) ∨ (C ∧ q6 = q4))))] [])
                      refine own_st (fun _ k => XS.iload X107.here hx rfl (hb hby at_207) rfl k) ?_
                      show own_Go p e s below _ _ _ T107 (mkF m 209 #[.val (.long q0), .second, .val (.long q2), .second, .val (.long q4), .second, .val (.long q6), .second, .val (.int p8), .val (.int (own_b A)), .val (.int (own_b Cl)), .val (.int (own_b B)), .val (.int (own_b C)), .val (.int (((p8.toUInt32 >>> ((4 : Int32) &&& 31).toUInt32).toInt32) &&& (3 : Int32))), .val (.long y), .second, .val (.ref b), .val (.int (own_b (A ∧ ¬ Cl))), .val (.int (own_b (((A ∧ ¬ Cl) ∧ y = q0) ∨ (B ∧ y = q2) ∨ (C ∧ y = q4)))), .val (.int (own_b (((A ∧ ¬ Cl) ∧ q6 = q0) ∨ (B ∧ q6 = q2) ∨ (C ∧ q6 = q4))))] [(.int (own_b (((A ∧ ¬ Cl) ∧ q6 = q0) ∨ (B ∧ q6 = q2) ∨ (C ∧ q6 = q4))))])
                      refine own_st (fun _ k => XS.lload X107.here hx rfl (hb hby at_209) rfl k) ?_
                      show own_Go p e s below _ _ _ T107 (mkF m 211 #[.val (.long q0), .second, .val (.long q2), .second, .val (.long q4), .second, .val (.long q6), .second, .val (.int p8), .val (.int (own_b A)), .val (.int (own_b Cl)), .val (.int (own_b B)), .val (.int (own_b C)), .val (.int (((p8.toUInt32 >>> ((4 : Int32) &&& 31).toUInt32).toInt32) &&& (3 : Int32))), .val (.long y), .second, .val (.ref b), .val (.int (own_b (A ∧ ¬ Cl))), .val (.int (own_b (((A ∧ ¬ Cl) ∧ y = q0) ∨ (B ∧ y = q2) ∨ (C ∧ y = q4)))), .val (.int (own_b (((A ∧ ¬ Cl) ∧ q6 = q0) ∨ (B ∧ q6 = q2) ∨ (C ∧ q6 = q4))))] [(.long q6), (.int (own_b (((A ∧ ¬ Cl) ∧ q6 = q0) ∨ (B ∧ q6 = q2) ∨ (C ∧ q6 = q4))))])
                      refine own_st (fun _ k => XS.lloadN X107.here hx rfl (hb hby at_211) rfl k) ?_
                      show own_Go p e s below _ _ _ T107 (mkF m 212 #[.val (.long q0), .second, .val (.long q2), .second, .val (.long q4), .second, .val (.long q6), .second, .val (.int p8), .val (.int (own_b A)), .val (.int (own_b Cl)), .val (.int (own_b B)), .val (.int (own_b C)), .val (.int (((p8.toUInt32 >>> ((4 : Int32) &&& 31).toUInt32).toInt32) &&& (3 : Int32))), .val (.long y), .second, .val (.ref b), .val (.int (own_b (A ∧ ¬ Cl))), .val (.int (own_b (((A ∧ ¬ Cl) ∧ y = q0) ∨ (B ∧ y = q2) ∨ (C ∧ y = q4)))), .val (.int (own_b (((A ∧ ¬ Cl) ∧ q6 = q0) ∨ (B ∧ q6 = q2) ∨ (C ∧ q6 = q4))))] [(.long q0), (.long q6), (.int (own_b (((A ∧ ¬ Cl) ∧ q6 = q0) ∨ (B ∧ q6 = q2) ∨ (C ∧ q6 = q4))))])
                      refine own_st (fun _ k => XS.lloadN X107.here hx rfl (hb hby at_212) rfl k) ?_
                      show own_Go p e s below _ _ _ T107 (mkF m 213 #[.val (.long q0), .second, .val (.long q2), .second, .val (.long q4), .second, .val (.long q6), .second, .val (.int p8), .val (.int (own_b A)), .val (.int (own_b Cl)), .val (.int (own_b B)), .val (.int (own_b C)), .val (.int (((p8.toUInt32 >>> ((4 : Int32) &&& 31).toUInt32).toInt32) &&& (3 : Int32))), .val (.long y), .second, .val (.ref b), .val (.int (own_b (A ∧ ¬ Cl))), .val (.int (own_b (((A ∧ ¬ Cl) ∧ y = q0) ∨ (B ∧ y = q2) ∨ (C ∧ y = q4)))), .val (.int (own_b (((A ∧ ¬ Cl) ∧ q6 = q0) ∨ (B ∧ q6 = q2) ∨ (C ∧ q6 = q4))))] [(.long q2), (.long q0), (.long q6), (.int (own_b (((A ∧ ¬ Cl) ∧ q6 = q0) ∨ (B ∧ q6 = q2) ∨ (C ∧ q6 = q4))))])
                      refine own_st (fun _ k => XS.lload X107.here hx rfl (hb hby at_213) rfl k) ?_
                      show own_Go p e s below _ _ _ T107 (mkF m 215 #[.val (.long q0), .second, .val (.long q2), .second, .val (.long q4), .second, .val (.long q6), .second, .val (.int p8), .val (.int (own_b A)), .val (.int (own_b Cl)), .val (.int (own_b B)), .val (.int (own_b C)), .val (.int (((p8.toUInt32 >>> ((4 : Int32) &&& 31).toUInt32).toInt32) &&& (3 : Int32))), .val (.long y), .second, .val (.ref b), .val (.int (own_b (A ∧ ¬ Cl))), .val (.int (own_b (((A ∧ ¬ Cl) ∧ y = q0) ∨ (B ∧ y = q2) ∨ (C ∧ y = q4)))), .val (.int (own_b (((A ∧ ¬ Cl) ∧ q6 = q0) ∨ (B ∧ q6 = q2) ∨ (C ∧ q6 = q4))))] [(.long q4), (.long q2), (.long q0), (.long q6), (.int (own_b (((A ∧ ¬ Cl) ∧ q6 = q0) ∨ (B ∧ q6 = q2) ∨ (C ∧ q6 = q4))))])
                      refine own_st (fun _ k => XS.iload X107.here hx rfl (hb hby at_215) rfl k) ?_
                      show own_Go p e s below _ _ _ T107 (mkF m 217 #[.val (.long q0), .second, .val (.long q2), .second, .val (.long q4), .second, .val (.long q6), .second, .val (.int p8), .val (.int (own_b A)), .val (.int (own_b Cl)), .val (.int (own_b B)), .val (.int (own_b C)), .val (.int (((p8.toUInt32 >>> ((4 : Int32) &&& 31).toUInt32).toInt32) &&& (3 : Int32))), .val (.long y), .second, .val (.ref b), .val (.int (own_b (A ∧ ¬ Cl))), .val (.int (own_b (((A ∧ ¬ Cl) ∧ y = q0) ∨ (B ∧ y = q2) ∨ (C ∧ y = q4)))), .val (.int (own_b (((A ∧ ¬ Cl) ∧ q6 = q0) ∨ (B ∧ q6 = q2) ∨ (C ∧ q6 = q4))))] [(.int (own_b (A ∧ ¬ Cl))), (.long q4), (.long q2), (.long q0), (.long q6), (.int (own_b (((A ∧ ¬ Cl) ∧ q6 = q0) ∨ (B ∧ q6 = q2) ∨ (C ∧ q6 = q4))))])
                      refine own_st (fun _ k => XS.iload X107.here hx rfl (hb hby at_217) rfl k) ?_
                      show own_Go p e s below _ _ _ T107 (mkF m 219 #[.val (.long q0), .second, .val (.long q2), .second, .val (.long q4), .second, .val (.long q6), .second, .val (.int p8), .val (.int (own_b A)), .val (.int (own_b Cl)), .val (.int (own_b B)), .val (.int (own_b C)), .val (.int (((p8.toUInt32 >>> ((4 : Int32) &&& 31).toUInt32).toInt32) &&& (3 : Int32))), .val (.long y), .second, .val (.ref b), .val (.int (own_b (A ∧ ¬ Cl))), .val (.int (own_b (((A ∧ ¬ Cl) ∧ y = q0) ∨ (B ∧ y = q2) ∨ (C ∧ y = q4)))), .val (.int (own_b (((A ∧ ¬ Cl) ∧ q6 = q0) ∨ (B ∧ q6 = q2) ∨ (C ∧ q6 = q4))))] [(.int (own_b B)), (.int (own_b (A ∧ ¬ Cl))), (.long q4), (.long q2), (.long q0), (.long q6), (.int (own_b (((A ∧ ¬ Cl) ∧ q6 = q0) ∨ (B ∧ q6 = q2) ∨ (C ∧ q6 = q4))))])
                      refine own_st (fun _ k => XS.iload X107.here hx rfl (hb hby at_219) rfl k) ?_
                      show own_Go p e s below _ _ _ T107 (mkF m 221 #[.val (.long q0), .second, .val (.long q2), .second, .val (.long q4), .second, .val (.long q6), .second, .val (.int p8), .val (.int (own_b A)), .val (.int (own_b Cl)), .val (.int (own_b B)), .val (.int (own_b C)), .val (.int (((p8.toUInt32 >>> ((4 : Int32) &&& 31).toUInt32).toInt32) &&& (3 : Int32))), .val (.long y), .second, .val (.ref b), .val (.int (own_b (A ∧ ¬ Cl))), .val (.int (own_b (((A ∧ ¬ Cl) ∧ y = q0) ∨ (B ∧ y = q2) ∨ (C ∧ y = q4)))), .val (.int (own_b (((A ∧ ¬ Cl) ∧ q6 = q0) ∨ (B ∧ q6 = q2) ∨ (C ∧ q6 = q4))))] [(.int (own_b C)), (.int (own_b B)), (.int (own_b (A ∧ ¬ Cl))), (.long q4), (.long q2), (.long q0), (.long q6), (.int (own_b (((A ∧ ¬ Cl) ∧ q6 = q0) ∨ (B ∧ q6 = q2) ∨ (C ∧ q6 = q4))))])
                      refine own_callS X107 hx hZ (y := (⟨"com/example/phonomark/phonomark/LongSetContainsPinLaw", "expected", "(JJJJZZZ)Z"⟩ : MethodName)) hown (hw _ (List.mem_of_getElem? (i := 39) rfl)) (hw _ (List.mem_of_getElem? (i := 40) rfl)) (hw _ (List.mem_of_getElem? (i := 41) rfl)) (hw _ (List.mem_of_getElem? (i := 42) rfl)) (by decide) e107 (rm8 l Z a0 hw [] q6 q0 q2 q4 (A ∧ ¬ Cl) B C T104.heap n0 Z104) 1 (by decide) (by decide) (g := (mkF m 221 #[.val (.long q0), .second, .val (.long q2), .second, .val (.long q4), .second, .val (.long q6), .second, .val (.int p8), .val (.int (own_b A)), .val (.int (own_b Cl)), .val (.int (own_b B)), .val (.int (own_b C)), .val (.int (((p8.toUInt32 >>> ((4 : Int32) &&& 31).toUInt32).toInt32) &&& (3 : Int32))), .val (.long y), .second, .val (.ref b), .val (.int (own_b (A ∧ ¬ Cl))), .val (.int (own_b (((A ∧ ¬ Cl) ∧ y = q0) ∨ (B ∧ y = q2) ∨ (C ∧ y = q4)))), .val (.int (own_b (((A ∧ ¬ Cl) ∧ q6 = q0) ∨ (B ∧ q6 = q2) ∨ (C ∧ q6 = q4))))] [(.int (own_b C)), (.int (own_b B)), (.int (own_b (A ∧ ¬ Cl))), (.long q4), (.long q2), (.long q0), (.long q6), (.int (own_b (((A ∧ ¬ Cl) ∧ q6 = q0) ∨ (B ∧ q6 = q2) ∨ (C ∧ q6 = q4))))])) rfl (by rw [hml]; rfl) (argsL := [(.long q6), (.long q0), (.long q2), (.long q4), (.int (own_b (A ∧ ¬ Cl))), (.int (own_b B)), (.int (own_b C))]) (rest := [(.int (own_b (((A ∧ ¬ Cl) ∧ q6 = q0) ∨ (B ∧ q6 = q2) ∨ (C ∧ q6 = q4))))]) pd5 rfl rfl rfl (by show 2 * 0 + _ ≤ _; exact Nat.le_of_eq rfl) (hb hby at_221) (by decide) (by decide) ?_
                      intro T108 v108 L108 X108 hQ108
                      obtain ⟨rfl, N108q, e108⟩ := hQ108
                      have N108 := Fr.app N107 N108q
                      show own_Go p e s below _ _ _ T108 (mkF m 224 #[.val (.long q0), .second, .val (.long q2), .second, .val (.long q4), .second, .val (.long q6), .second, .val (.int p8), .val (.int (own_b A)), .val (.int (own_b Cl)), .val (.int (own_b B)), .val (.int (own_b C)), .val (.int (((p8.toUInt32 >>> ((4 : Int32) &&& 31).toUInt32).toInt32) &&& (3 : Int32))), .val (.long y), .second, .val (.ref b), .val (.int (own_b (A ∧ ¬ Cl))), .val (.int (own_b (((A ∧ ¬ Cl) ∧ y = q0) ∨ (B ∧ y = q2) ∨ (C ∧ y = q4)))), .val (.int (own_b (((A ∧ ¬ Cl) ∧ q6 = q0) ∨ (B ∧ q6 = q2) ∨ (C ∧ q6 = q4))))] [(.int (own_b (((A ∧ ¬ Cl) ∧ q6 = q0) ∨ (B ∧ q6 = q2) ∨ (C ∧ q6 = q4)))), (.int (own_b (((A ∧ ¬ Cl) ∧ q6 = q0) ∨ (B ∧ q6 = q2) ∨ (C ∧ q6 = q4))))])
                      refine own_st (fun _ k => XS.icmpNo X108.here hx rfl (hb hby at_224) rfl (teq (rfl : (own_b (((A ∧ ¬ Cl) ∧ q6 = q0) ∨ (B ∧ q6 = q2) ∨ (C ∧ q6 = q4))) = (own_b (((A ∧ ¬ Cl) ∧ q6 = q0) ∨ (B ∧ q6 = q2) ∨ (C ∧ q6 = q4))))).2 k) ?_
                      show own_Go p e s below _ _ _ T108 (mkF m 227 #[.val (.long q0), .second, .val (.long q2), .second, .val (.long q4), .second, .val (.long q6), .second, .val (.int p8), .val (.int (own_b A)), .val (.int (own_b Cl)), .val (.int (own_b B)), .val (.int (own_b C)), .val (.int (((p8.toUInt32 >>> ((4 : Int32) &&& 31).toUInt32).toInt32) &&& (3 : Int32))), .val (.long y), .second, .val (.ref b), .val (.int (own_b (A ∧ ¬ Cl))), .val (.int (own_b (((A ∧ ¬ Cl) ∧ y = q0) ∨ (B ∧ y = q2) ∨ (C ∧ y = q4)))), .val (.int (own_b (((A ∧ ¬ Cl) ∧ q6 = q0) ∨ (B ∧ q6 = q2) ∨ (C ∧ q6 = q4))))] [])
                      refine own_st (fun _ k => XS.iconst X108.here hx rfl (hb hby at_227) k) ?_
                      show own_Go p e s below _ _ _ T108 (mkF m 228 #[.val (.long q0), .second, .val (.long q2), .second, .val (.long q4), .second, .val (.long q6), .second, .val (.int p8), .val (.int (own_b A)), .val (.int (own_b Cl)), .val (.int (own_b B)), .val (.int (own_b C)), .val (.int (((p8.toUInt32 >>> ((4 : Int32) &&& 31).toUInt32).toInt32) &&& (3 : Int32))), .val (.long y), .second, .val (.ref b), .val (.int (own_b (A ∧ ¬ Cl))), .val (.int (own_b (((A ∧ ¬ Cl) ∧ y = q0) ∨ (B ∧ y = q2) ∨ (C ∧ y = q4)))), .val (.int (own_b (((A ∧ ¬ Cl) ∧ q6 = q0) ∨ (B ∧ q6 = q2) ∨ (C ∧ q6 = q4))))] [(.int (1 : Int32))])
                      refine own_st (fun _ k => XS.goto X108.here hx rfl (pc0 := 228) (pc' := 232) rfl (hb hby at_228) (by decide) (by decide) k) ?_
                      show own_Go p e s below _ _ _ T108 (mkF m 232 #[.val (.long q0), .second, .val (.long q2), .second, .val (.long q4), .second, .val (.long q6), .second, .val (.int p8), .val (.int (own_b A)), .val (.int (own_b Cl)), .val (.int (own_b B)), .val (.int (own_b C)), .val (.int (((p8.toUInt32 >>> ((4 : Int32) &&& 31).toUInt32).toInt32) &&& (3 : Int32))), .val (.long y), .second, .val (.ref b), .val (.int (own_b (A ∧ ¬ Cl))), .val (.int (own_b (((A ∧ ¬ Cl) ∧ y = q0) ∨ (B ∧ y = q2) ∨ (C ∧ y = q4)))), .val (.int (own_b (((A ∧ ¬ Cl) ∧ q6 = q0) ∨ (B ∧ q6 = q2) ∨ (C ∧ q6 = q4))))] [(.int (1 : Int32))])
                      exact own_retN X108 hx hlk (t := .boolean) hret (by simp) (hb hby at_232) (z' := (1 : Int32)) rfl (by decide) (by decide) ⟨rfl, N108⟩
                    refine own_st (fun _ k => XS.iload X104.here hx rfl (hb hby at_152) rfl k) ?_
                    show own_Go p e s below _ _ _ T104 (mkF m 154 #[.val (.long q0), .second, .val (.long q2), .second, .val (.long q4), .second, .val (.long q6), .second, .val (.int p8), .val (.int (own_b A)), .val (.int (own_b Cl)), .val (.int (own_b B)), .val (.int (own_b C)), .val (.int (((p8.toUInt32 >>> ((4 : Int32) &&& 31).toUInt32).toInt32) &&& (3 : Int32))), .val (.long y), .second, .val (.ref b), .unset, .unset, .unset] [(.int (own_b A))])
                    by_cases c154_109 : A
                    · refine own_st (fun _ k => XS.ifNo X104.here hx rfl (hb hby at_154) rfl (own_by c154_109).2 k) ?_
                      show own_Go p e s below _ _ _ T104 (mkF m 157 #[.val (.long q0), .second, .val (.long q2), .second, .val (.long q4), .second, .val (.long q6), .second, .val (.int p8), .val (.int (own_b A)), .val (.int (own_b Cl)), .val (.int (own_b B)), .val (.int (own_b C)), .val (.int (((p8.toUInt32 >>> ((4 : Int32) &&& 31).toUInt32).toInt32) &&& (3 : Int32))), .val (.long y), .second, .val (.ref b), .unset, .unset, .unset] [])
                      refine own_st (fun _ k => XS.iload X104.here hx rfl (hb hby at_157) rfl k) ?_
                      show own_Go p e s below _ _ _ T104 (mkF m 159 #[.val (.long q0), .second, .val (.long q2), .second, .val (.long q4), .second, .val (.long q6), .second, .val (.int p8), .val (.int (own_b A)), .val (.int (own_b Cl)), .val (.int (own_b B)), .val (.int (own_b C)), .val (.int (((p8.toUInt32 >>> ((4 : Int32) &&& 31).toUInt32).toInt32) &&& (3 : Int32))), .val (.long y), .second, .val (.ref b), .unset, .unset, .unset] [(.int (own_b Cl))])
                      by_cases c159_110 : Cl
                      · refine own_st (fun _ k => XS.ifYes X104.here hx rfl (pc0 := 159) (pc' := 166) rfl (hb hby at_159) rfl (own_by c159_110).1 (by decide) (by decide) k) ?_
                        show own_Go p e s below _ _ _ T104 (mkF m 166 #[.val (.long q0), .second, .val (.long q2), .second, .val (.long q4), .second, .val (.long q6), .second, .val (.int p8), .val (.int (own_b A)), .val (.int (own_b Cl)), .val (.int (own_b B)), .val (.int (own_b C)), .val (.int (((p8.toUInt32 >>> ((4 : Int32) &&& 31).toUInt32).toInt32) &&& (3 : Int32))), .val (.long y), .second, .val (.ref b), .unset, .unset, .unset] [])
                        refine own_st (fun _ k => XS.iconst X104.here hx rfl (hb hby at_166) k) ?_
                        show own_Go p e s below _ _ _ T104 (mkF m 167 #[.val (.long q0), .second, .val (.long q2), .second, .val (.long q4), .second, .val (.long q6), .second, .val (.int p8), .val (.int (own_b A)), .val (.int (own_b Cl)), .val (.int (own_b B)), .val (.int (own_b C)), .val (.int (((p8.toUInt32 >>> ((4 : Int32) &&& 31).toUInt32).toInt32) &&& (3 : Int32))), .val (.long y), .second, .val (.ref b), .unset, .unset, .unset] [(.int (0 : Int32))])
                        exact J167  _ (by rw [own_bf (P := (A ∧ ¬ Cl)) (by simp [c154_109, c159_110])])
                      · refine own_st (fun _ k => XS.ifNo X104.here hx rfl (hb hby at_159) rfl (own_bn c159_110).2 k) ?_
                        show own_Go p e s below _ _ _ T104 (mkF m 162 #[.val (.long q0), .second, .val (.long q2), .second, .val (.long q4), .second, .val (.long q6), .second, .val (.int p8), .val (.int (own_b A)), .val (.int (own_b Cl)), .val (.int (own_b B)), .val (.int (own_b C)), .val (.int (((p8.toUInt32 >>> ((4 : Int32) &&& 31).toUInt32).toInt32) &&& (3 : Int32))), .val (.long y), .second, .val (.ref b), .unset, .unset, .unset] [])
                        refine own_st (fun _ k => XS.iconst X104.here hx rfl (hb hby at_162) k) ?_
                        show own_Go p e s below _ _ _ T104 (mkF m 163 #[.val (.long q0), .second, .val (.long q2), .second, .val (.long q4), .second, .val (.long q6), .second, .val (.int p8), .val (.int (own_b A)), .val (.int (own_b Cl)), .val (.int (own_b B)), .val (.int (own_b C)), .val (.int (((p8.toUInt32 >>> ((4 : Int32) &&& 31).toUInt32).toInt32) &&& (3 : Int32))), .val (.long y), .second, .val (.ref b), .unset, .unset, .unset] [(.int (1 : Int32))])
                        refine own_st (fun _ k => XS.goto X104.here hx rfl (pc0 := 163) (pc' := 167) rfl (hb hby at_163) (by decide) (by decide) k) ?_
                        show own_Go p e s below _ _ _ T104 (mkF m 167 #[.val (.long q0), .second, .val (.long q2), .second, .val (.long q4), .second, .val (.long q6), .second, .val (.int p8), .val (.int (own_b A)), .val (.int (own_b Cl)), .val (.int (own_b B)), .val (.int (own_b C)), .val (.int (((p8.toUInt32 >>> ((4 : Int32) &&& 31).toUInt32).toInt32) &&& (3 : Int32))), .val (.long y), .second, .val (.ref b), .unset, .unset, .unset] [(.int (1 : Int32))])
                        exact J167  _ (by rw [own_bt (P := (A ∧ ¬ Cl)) (by simp [c154_109, c159_110])])
                    · refine own_st (fun _ k => XS.ifYes X104.here hx rfl (pc0 := 154) (pc' := 166) rfl (hb hby at_154) rfl (own_bn c154_109).1 (by decide) (by decide) k) ?_
                      show own_Go p e s below _ _ _ T104 (mkF m 166 #[.val (.long q0), .second, .val (.long q2), .second, .val (.long q4), .second, .val (.long q6), .second, .val (.int p8), .val (.int (own_b A)), .val (.int (own_b Cl)), .val (.int (own_b B)), .val (.int (own_b C)), .val (.int (((p8.toUInt32 >>> ((4 : Int32) &&& 31).toUInt32).toInt32) &&& (3 : Int32))), .val (.long y), .second, .val (.ref b), .unset, .unset, .unset] [])
                      refine own_st (fun _ k => XS.iconst X104.here hx rfl (hb hby at_166) k) ?_
                      show own_Go p e s below _ _ _ T104 (mkF m 167 #[.val (.long q0), .second, .val (.long q2), .second, .val (.long q4), .second, .val (.long q6), .second, .val (.int p8), .val (.int (own_b A)), .val (.int (own_b Cl)), .val (.int (own_b B)), .val (.int (own_b C)), .val (.int (((p8.toUInt32 >>> ((4 : Int32) &&& 31).toUInt32).toInt32) &&& (3 : Int32))), .val (.long y), .second, .val (.ref b), .unset, .unset, .unset] [(.int (0 : Int32))])
                      exact J167  _ (by rw [own_bf (P := (A ∧ ¬ Cl)) (by simp [c154_109])])
                  refine own_st (fun _ k => XS.iload X103.here hx rfl (hb hby at_140) rfl k) ?_
                  show own_Go p e s below _ _ _ T103 (mkF m 142 #[.val (.long q0), .second, .val (.long q2), .second, .val (.long q4), .second, .val (.long q6), .second, .val (.int p8), .val (.int (own_b A)), .val (.int (own_b Cl)), .val (.int (own_b B)), .val (.int (own_b C)), .val (.int (((p8.toUInt32 >>> ((4 : Int32) &&& 31).toUInt32).toInt32) &&& (3 : Int32))), .val (.long y), .second, .val (.ref b), .unset, .unset, .unset] [(.int (own_b C))])
                  by_cases c142_111 : C
                  · refine own_st (fun _ k => XS.ifNo X103.here hx rfl (hb hby at_142) rfl (own_by c142_111).2 k) ?_
                    show own_Go p e s below _ _ _ T103 (mkF m 145 #[.val (.long q0), .second, .val (.long q2), .second, .val (.long q4), .second, .val (.long q6), .second, .val (.int p8), .val (.int (own_b A)), .val (.int (own_b Cl)), .val (.int (own_b B)), .val (.int (own_b C)), .val (.int (((p8.toUInt32 >>> ((4 : Int32) &&& 31).toUInt32).toInt32) &&& (3 : Int32))), .val (.long y), .second, .val (.ref b), .unset, .unset, .unset] [])
                    refine own_st (fun _ k => XS.aload X103.here hx rfl (hb hby at_145) rfl rfl k) ?_
                    show own_Go p e s below _ _ _ T103 (mkF m 147 #[.val (.long q0), .second, .val (.long q2), .second, .val (.long q4), .second, .val (.long q6), .second, .val (.int p8), .val (.int (own_b A)), .val (.int (own_b Cl)), .val (.int (own_b B)), .val (.int (own_b C)), .val (.int (((p8.toUInt32 >>> ((4 : Int32) &&& 31).toUInt32).toInt32) &&& (3 : Int32))), .val (.long y), .second, .val (.ref b), .unset, .unset, .unset] [(.ref b)])
                    refine own_st (fun _ k => XS.lload X103.here hx rfl (hb hby at_147) rfl k) ?_
                    show own_Go p e s below _ _ _ T103 (mkF m 149 #[.val (.long q0), .second, .val (.long q2), .second, .val (.long q4), .second, .val (.long q6), .second, .val (.int p8), .val (.int (own_b A)), .val (.int (own_b Cl)), .val (.int (own_b B)), .val (.int (own_b C)), .val (.int (((p8.toUInt32 >>> ((4 : Int32) &&& 31).toUInt32).toInt32) &&& (3 : Int32))), .val (.long y), .second, .val (.ref b), .unset, .unset, .unset] [(.long q4), (.ref b)])
                    refine own_callV X103 hx hZ (y := (⟨"com/example/phonomark/phonomark/LongSet", "add", "(J)V"⟩ : MethodName)) hown (hw _ (List.mem_of_getElem? (i := 12) rfl)) (hw _ (List.mem_of_getElem? (i := 13) rfl)) (hw _ (List.mem_of_getElem? (i := 15) rfl)) (hw _ (List.mem_of_getElem? (i := 14) rfl)) (hw _ (List.mem_of_getElem? (i := 2) rfl)) (hw _ (List.mem_of_getElem? (i := 16) rfl)) (by decide) rfl (rm3 l Z a0 hw [] b q4 (fun x => ((A ∧ ¬ Cl) ∧ x = q0) ∨ (B ∧ x = q2)) 2 T103.heap n0 Z103 HS103 (by decide)) 0 (by decide) (by decide) E_b (g := (mkF m 149 #[.val (.long q0), .second, .val (.long q2), .second, .val (.long q4), .second, .val (.long q6), .second, .val (.int p8), .val (.int (own_b A)), .val (.int (own_b Cl)), .val (.int (own_b B)), .val (.int (own_b C)), .val (.int (((p8.toUInt32 >>> ((4 : Int32) &&& 31).toUInt32).toInt32) &&& (3 : Int32))), .val (.long y), .second, .val (.ref b), .unset, .unset, .unset] [(.long q4), (.ref b)])) rfl (by rw [hml]; rfl) (argsL := [(.long q4)]) (rest := []) pd1 rfl rfl rfl (by show 2 * 0 + _ ≤ _; exact Nat.le_of_eq rfl) (hb hby at_149) (by decide) (by decide) ?_
                    intro T112 v112 L112 X112 hQ112
                    obtain ⟨rfl, N112q, HS112⟩ := hQ112
                    have N112 := Fr.app N103 N112q
                    show own_Go p e s below _ _ _ T112 (mkF m 152 #[.val (.long q0), .second, .val (.long q2), .second, .val (.long q4), .second, .val (.long q6), .second, .val (.int p8), .val (.int (own_b A)), .val (.int (own_b Cl)), .val (.int (own_b B)), .val (.int (own_b C)), .val (.int (((p8.toUInt32 >>> ((4 : Int32) &&& 31).toUInt32).toInt32) &&& (3 : Int32))), .val (.long y), .second, .val (.ref b), .unset, .unset, .unset] [])
                    exact J152 T112 _ X112 N112 (own_SetC HS112 (by decide) (fun x => by simp [c142_111]))
                  · refine own_st (fun _ k => XS.ifYes X103.here hx rfl (pc0 := 142) (pc' := 152) rfl (hb hby at_142) rfl (own_bn c142_111).1 (by decide) (by decide) k) ?_
                    show own_Go p e s below _ _ _ T103 (mkF m 152 #[.val (.long q0), .second, .val (.long q2), .second, .val (.long q4), .second, .val (.long q6), .second, .val (.int p8), .val (.int (own_b A)), .val (.int (own_b Cl)), .val (.int (own_b B)), .val (.int (own_b C)), .val (.int (((p8.toUInt32 >>> ((4 : Int32) &&& 31).toUInt32).toInt32) &&& (3 : Int32))), .val (.long y), .second, .val (.ref b), .unset, .unset, .unset] [])
                    exact J152 T103 _ X103 N103 (own_SetC HS103 (by decide) (fun x => by simp [c142_111]))
                refine own_st (fun _ k => XS.iload X102.here hx rfl (hb hby at_129) rfl k) ?_
                show own_Go p e s below _ _ _ T102 (mkF m 131 #[.val (.long q0), .second, .val (.long q2), .second, .val (.long q4), .second, .val (.long q6), .second, .val (.int p8), .val (.int (own_b A)), .val (.int (own_b Cl)), .val (.int (own_b B)), .val (.int (own_b C)), .val (.int (((p8.toUInt32 >>> ((4 : Int32) &&& 31).toUInt32).toInt32) &&& (3 : Int32))), .val (.long y), .second, .val (.ref b), .unset, .unset, .unset] [(.int (own_b B))])
                by_cases c131_113 : B
                · refine own_st (fun _ k => XS.ifNo X102.here hx rfl (hb hby at_131) rfl (own_by c131_113).2 k) ?_
                  show own_Go p e s below _ _ _ T102 (mkF m 134 #[.val (.long q0), .second, .val (.long q2), .second, .val (.long q4), .second, .val (.long q6), .second, .val (.int p8), .val (.int (own_b A)), .val (.int (own_b Cl)), .val (.int (own_b B)), .val (.int (own_b C)), .val (.int (((p8.toUInt32 >>> ((4 : Int32) &&& 31).toUInt32).toInt32) &&& (3 : Int32))), .val (.long y), .second, .val (.ref b), .unset, .unset, .unset] [])
                  refine own_st (fun _ k => XS.aload X102.here hx rfl (hb hby at_134) rfl rfl k) ?_
                  show own_Go p e s below _ _ _ T102 (mkF m 136 #[.val (.long q0), .second, .val (.long q2), .second, .val (.long q4), .second, .val (.long q6), .second, .val (.int p8), .val (.int (own_b A)), .val (.int (own_b Cl)), .val (.int (own_b B)), .val (.int (own_b C)), .val (.int (((p8.toUInt32 >>> ((4 : Int32) &&& 31).toUInt32).toInt32) &&& (3 : Int32))), .val (.long y), .second, .val (.ref b), .unset, .unset, .unset] [(.ref b)])
                  refine own_st (fun _ k => XS.lloadN X102.here hx rfl (hb hby at_136) rfl k) ?_
                  show own_Go p e s below _ _ _ T102 (mkF m 137 #[.val (.long q0), .second, .val (.long q2), .second, .val (.long q4), .second, .val (.long q6), .second, .val (.int p8), .val (.int (own_b A)), .val (.int (own_b Cl)), .val (.int (own_b B)), .val (.int (own_b C)), .val (.int (((p8.toUInt32 >>> ((4 : Int32) &&& 31).toUInt32).toInt32) &&& (3 : Int32))), .val (.long y), .second, .val (.ref b), .unset, .unset, .unset] [(.long q2), (.ref b)])
                  refine own_callV X102 hx hZ (y := (⟨"com/example/phonomark/phonomark/LongSet", "add", "(J)V"⟩ : MethodName)) hown (hw _ (List.mem_of_getElem? (i := 12) rfl)) (hw _ (List.mem_of_getElem? (i := 13) rfl)) (hw _ (List.mem_of_getElem? (i := 15) rfl)) (hw _ (List.mem_of_getElem? (i := 14) rfl)) (hw _ (List.mem_of_getElem? (i := 2) rfl)) (hw _ (List.mem_of_getElem? (i := 16) rfl)) (by decide) rfl (rm3 l Z a0 hw [] b q2 (fun x => (A ∧ ¬ Cl) ∧ x = q0) 1 T102.heap n0 Z102 HS102 (by decide)) 0 (by decide) (by decide) E_b (g := (mkF m 137 #[.val (.long q0), .second, .val (.long q2), .second, .val (.long q4), .second, .val (.long q6), .second, .val (.int p8), .val (.int (own_b A)), .val (.int (own_b Cl)), .val (.int (own_b B)), .val (.int (own_b C)), .val (.int (((p8.toUInt32 >>> ((4 : Int32) &&& 31).toUInt32).toInt32) &&& (3 : Int32))), .val (.long y), .second, .val (.ref b), .unset, .unset, .unset] [(.long q2), (.ref b)])) rfl (by rw [hml]; rfl) (argsL := [(.long q2)]) (rest := []) pd1 rfl rfl rfl (by show 2 * 0 + _ ≤ _; exact Nat.le_of_eq rfl) (hb hby at_137) (by decide) (by decide) ?_
                  intro T114 v114 L114 X114 hQ114
                  obtain ⟨rfl, N114q, HS114⟩ := hQ114
                  have N114 := Fr.app N102 N114q
                  show own_Go p e s below _ _ _ T114 (mkF m 140 #[.val (.long q0), .second, .val (.long q2), .second, .val (.long q4), .second, .val (.long q6), .second, .val (.int p8), .val (.int (own_b A)), .val (.int (own_b Cl)), .val (.int (own_b B)), .val (.int (own_b C)), .val (.int (((p8.toUInt32 >>> ((4 : Int32) &&& 31).toUInt32).toInt32) &&& (3 : Int32))), .val (.long y), .second, .val (.ref b), .unset, .unset, .unset] [])
                  exact J140 T114 _ X114 N114 (own_SetC HS114 (by decide) (fun x => by simp [c131_113]))
                · refine own_st (fun _ k => XS.ifYes X102.here hx rfl (pc0 := 131) (pc' := 140) rfl (hb hby at_131) rfl (own_bn c131_113).1 (by decide) (by decide) k) ?_
                  show own_Go p e s below _ _ _ T102 (mkF m 140 #[.val (.long q0), .second, .val (.long q2), .second, .val (.long q4), .second, .val (.long q6), .second, .val (.int p8), .val (.int (own_b A)), .val (.int (own_b Cl)), .val (.int (own_b B)), .val (.int (own_b C)), .val (.int (((p8.toUInt32 >>> ((4 : Int32) &&& 31).toUInt32).toInt32) &&& (3 : Int32))), .val (.long y), .second, .val (.ref b), .unset, .unset, .unset] [])
                  exact J140 T102 _ X102 N102 (own_SetC HS102 (by decide) (fun x => by simp [c131_113]))
              refine own_st (fun _ k => XS.iload X101.here hx rfl (hb hby at_119) rfl k) ?_
              show own_Go p e s below _ _ _ T101 (mkF m 121 #[.val (.long q0), .second, .val (.long q2), .second, .val (.long q4), .second, .val (.long q6), .second, .val (.int p8), .val (.int (own_b A)), .val (.int (own_b Cl)), .val (.int (own_b B)), .val (.int (own_b C)), .val (.int (((p8.toUInt32 >>> ((4 : Int32) &&& 31).toUInt32).toInt32) &&& (3 : Int32))), .val (.long y), .second, .val (.ref b), .unset, .unset, .unset] [(.int (own_b Cl))])
              by_cases c121_115 : Cl
              · refine own_st (fun _ k => XS.ifNo X101.here hx rfl (hb hby at_121) rfl (own_by c121_115).2 k) ?_
                show own_Go p e s below _ _ _ T101 (mkF m 124 #[.val (.long q0), .second, .val (.long q2), .second, .val (.long q4), .second, .val (.long q6), .second, .val (.int p8), .val (.int (own_b A)), .val (.int (own_b Cl)), .val (.int (own_b B)), .val (.int (own_b C)), .val (.int (((p8.toUInt32 >>> ((4 : Int32) &&& 31).toUInt32).toInt32) &&& (3 : Int32))), .val (.long y), .second, .val (.ref b), .unset, .unset, .unset] [])
                refine own_st (fun _ k => XS.aload X101.here hx rfl (hb hby at_124) rfl rfl k) ?_
                show own_Go p e s below _ _ _ T101 (mkF m 126 #[.val (.long q0), .second, .val (.long q2), .second, .val (.long q4), .second, .val (.long q6), .second, .val (.int p8), .val (.int (own_b A)), .val (.int (own_b Cl)), .val (.int (own_b B)), .val (.int (own_b C)), .val (.int (((p8.toUInt32 >>> ((4 : Int32) &&& 31).toUInt32).toInt32) &&& (3 : Int32))), .val (.long y), .second, .val (.ref b), .unset, .unset, .unset] [(.ref b)])
                refine own_callV X101 hx hZ (y := (⟨"com/example/phonomark/phonomark/LongSet", "clear", "()V"⟩ : MethodName)) hown (hw _ (List.mem_of_getElem? (i := 23) rfl)) (hw _ (List.mem_of_getElem? (i := 24) rfl)) (hw _ (List.mem_of_getElem? (i := 26) rfl)) (hw _ (List.mem_of_getElem? (i := 25) rfl)) (hw _ (List.mem_of_getElem? (i := 2) rfl)) (hw _ (List.mem_of_getElem? (i := 27) rfl)) (by decide) rfl (rm5 l Z a0 hw [] b (fun x => A ∧ x = q0) 1 T101.heap n0 Z101 HS101 (by decide)) 0 (by decide) (by decide) E_b (g := (mkF m 126 #[.val (.long q0), .second, .val (.long q2), .second, .val (.long q4), .second, .val (.long q6), .second, .val (.int p8), .val (.int (own_b A)), .val (.int (own_b Cl)), .val (.int (own_b B)), .val (.int (own_b C)), .val (.int (((p8.toUInt32 >>> ((4 : Int32) &&& 31).toUInt32).toInt32) &&& (3 : Int32))), .val (.long y), .second, .val (.ref b), .unset, .unset, .unset] [(.ref b)])) rfl (by rw [hml]; rfl) (argsL := []) (rest := []) pd0 rfl rfl rfl (by show 2 * 0 + _ ≤ _; exact Nat.le_of_eq rfl) (hb hby at_126) (by decide) (by decide) ?_
                intro T116 v116 L116 X116 hQ116
                obtain ⟨rfl, N116q, HS116⟩ := hQ116
                have N116 := Fr.app N101 N116q
                show own_Go p e s below _ _ _ T116 (mkF m 129 #[.val (.long q0), .second, .val (.long q2), .second, .val (.long q4), .second, .val (.long q6), .second, .val (.int p8), .val (.int (own_b A)), .val (.int (own_b Cl)), .val (.int (own_b B)), .val (.int (own_b C)), .val (.int (((p8.toUInt32 >>> ((4 : Int32) &&& 31).toUInt32).toInt32) &&& (3 : Int32))), .val (.long y), .second, .val (.ref b), .unset, .unset, .unset] [])
                exact J129 T116 _ X116 N116 (own_SetC HS116 (by decide) (fun x => by simp [c121_115]))
              · refine own_st (fun _ k => XS.ifYes X101.here hx rfl (pc0 := 121) (pc' := 129) rfl (hb hby at_121) rfl (own_bn c121_115).1 (by decide) (by decide) k) ?_
                show own_Go p e s below _ _ _ T101 (mkF m 129 #[.val (.long q0), .second, .val (.long q2), .second, .val (.long q4), .second, .val (.long q6), .second, .val (.int p8), .val (.int (own_b A)), .val (.int (own_b Cl)), .val (.int (own_b B)), .val (.int (own_b C)), .val (.int (((p8.toUInt32 >>> ((4 : Int32) &&& 31).toUInt32).toInt32) &&& (3 : Int32))), .val (.long y), .second, .val (.ref b), .unset, .unset, .unset] [])
                exact J129 T101 _ X101 N101 (own_SetC HS101 (by decide) (fun x => by simp [c121_115]))
            refine own_st (fun _ k => XS.iload X100.here hx rfl (hb hby at_108) rfl k) ?_
            show own_Go p e s below _ _ _ T100 (mkF m 110 #[.val (.long q0), .second, .val (.long q2), .second, .val (.long q4), .second, .val (.long q6), .second, .val (.int p8), .val (.int (own_b A)), .val (.int (own_b Cl)), .val (.int (own_b B)), .val (.int (own_b C)), .val (.int (((p8.toUInt32 >>> ((4 : Int32) &&& 31).toUInt32).toInt32) &&& (3 : Int32))), .val (.long y), .second, .val (.ref b), .unset, .unset, .unset] [(.int (own_b A))])
            by_cases c110_117 : A
            · refine own_st (fun _ k => XS.ifNo X100.here hx rfl (hb hby at_110) rfl (own_by c110_117).2 k) ?_
              show own_Go p e s below _ _ _ T100 (mkF m 113 #[.val (.long q0), .second, .val (.long q2), .second, .val (.long q4), .second, .val (.long q6), .second, .val (.int p8), .val (.int (own_b A)), .val (.int (own_b Cl)), .val (.int (own_b B)), .val (.int (own_b C)), .val (.int (((p8.toUInt32 >>> ((4 : Int32) &&& 31).toUInt32).toInt32) &&& (3 : Int32))), .val (.long y), .second, .val (.ref b), .unset, .unset, .unset] [])
              refine own_st (fun _ k => XS.aload X100.here hx rfl (hb hby at_113) rfl rfl k) ?_
              show own_Go p e s below _ _ _ T100 (mkF m 115 #[.val (.long q0), .second, .val (.long q2), .second, .val (.long q4), .second, .val (.long q6), .second, .val (.int p8), .val (.int (own_b A)), .val (.int (own_b Cl)), .val (.int (own_b B)), .val (.int (own_b C)), .val (.int (((p8.toUInt32 >>> ((4 : Int32) &&& 31).toUInt32).toInt32) &&& (3 : Int32))), .val (.long y), .second, .val (.ref b), .unset, .unset, .unset] [(.ref b)])
              refine own_st (fun _ k => XS.lloadN X100.here hx rfl (hb hby at_115) rfl k) ?_
              show own_Go p e s below _ _ _ T100 (mkF m 116 #[.val (.long q0), .second, .val (.long q2), .second, .val (.long q4), .second, .val (.long q6), .second, .val (.int p8), .val (.int (own_b A)), .val (.int (own_b Cl)), .val (.int (own_b B)), .val (.int (own_b C)), .val (.int (((p8.toUInt32 >>> ((4 : Int32) &&& 31).toUInt32).toInt32) &&& (3 : Int32))), .val (.long y), .second, .val (.ref b), .unset, .unset, .unset] [(.long q0), (.ref b)])
              refine own_callV X100 hx hZ (y := (⟨"com/example/phonomark/phonomark/LongSet", "add", "(J)V"⟩ : MethodName)) hown (hw _ (List.mem_of_getElem? (i := 12) rfl)) (hw _ (List.mem_of_getElem? (i := 13) rfl)) (hw _ (List.mem_of_getElem? (i := 15) rfl)) (hw _ (List.mem_of_getElem? (i := 14) rfl)) (hw _ (List.mem_of_getElem? (i := 2) rfl)) (hw _ (List.mem_of_getElem? (i := 16) rfl)) (by decide) rfl (rm3 l Z a0 hw [] b q0 (fun _ => False) 0 T100.heap n0 Zb HS100 (by decide)) 0 (by decide) (by decide) E_b (g := (mkF m 116 #[.val (.long q0), .second, .val (.long q2), .second, .val (.long q4), .second, .val (.long q6), .second, .val (.int p8), .val (.int (own_b A)), .val (.int (own_b Cl)), .val (.int (own_b B)), .val (.int (own_b C)), .val (.int (((p8.toUInt32 >>> ((4 : Int32) &&& 31).toUInt32).toInt32) &&& (3 : Int32))), .val (.long y), .second, .val (.ref b), .unset, .unset, .unset] [(.long q0), (.ref b)])) rfl (by rw [hml]; rfl) (argsL := [(.long q0)]) (rest := []) pd1 rfl rfl rfl (by show 2 * 0 + _ ≤ _; exact Nat.le_of_eq rfl) (hb hby at_116) (by decide) (by decide) ?_
              intro T118 v118 L118 X118 hQ118
              obtain ⟨rfl, N118q, HS118⟩ := hQ118
              have N118 := Fr.app N100 N118q
              show own_Go p e s below _ _ _ T118 (mkF m 119 #[.val (.long q0), .second, .val (.long q2), .second, .val (.long q4), .second, .val (.long q6), .second, .val (.int p8), .val (.int (own_b A)), .val (.int (own_b Cl)), .val (.int (own_b B)), .val (.int (own_b C)), .val (.int (((p8.toUInt32 >>> ((4 : Int32) &&& 31).toUInt32).toInt32) &&& (3 : Int32))), .val (.long y), .second, .val (.ref b), .unset, .unset, .unset] [])
              exact J119 T118 _ X118 N118 (own_SetC HS118 (by decide) (fun x => by simp [c110_117]))
            · refine own_st (fun _ k => XS.ifYes X100.here hx rfl (pc0 := 110) (pc' := 119) rfl (hb hby at_110) rfl (own_bn c110_117).1 (by decide) (by decide) k) ?_
              show own_Go p e s below _ _ _ T100 (mkF m 119 #[.val (.long q0), .second, .val (.long q2), .second, .val (.long q4), .second, .val (.long q6), .second, .val (.int p8), .val (.int (own_b A)), .val (.int (own_b Cl)), .val (.int (own_b B)), .val (.int (own_b C)), .val (.int (((p8.toUInt32 >>> ((4 : Int32) &&& 31).toUInt32).toInt32) &&& (3 : Int32))), .val (.long y), .second, .val (.ref b), .unset, .unset, .unset] [])
              exact J119 T100 _ X100 N100 (own_SetC HS100 (by decide) (fun x => by simp [c110_117]))
          refine own_st (fun _ k => XS.iload X0.here hx rfl (hb hby at_65) rfl k) ?_
          show own_Go p e s below _ _ _ T0 (mkF m 67 #[.val (.long q0), .second, .val (.long q2), .second, .val (.long q4), .second, .val (.long q6), .second, .val (.int p8), .val (.int (own_b A)), .val (.int (own_b Cl)), .val (.int (own_b B)), .val (.int (own_b C)), .val (.int (((p8.toUInt32 >>> ((4 : Int32) &&& 31).toUInt32).toInt32) &&& (3 : Int32))), .unset, .unset, .unset, .unset, .unset, .unset] [(.int (((p8.toUInt32 >>> ((4 : Int32) &&& 31).toUInt32).toInt32) &&& (3 : Int32)))])
          by_cases c67_119 : (((p8.toUInt32 >>> ((4 : Int32) &&& 31).toUInt32).toInt32) &&& (3 : Int32)) = (0 : Int32)
          · refine own_st (fun _ k => XS.ifNo X0.here hx rfl (hb hby at_67) rfl ((if0 _ _).trans (teq c67_119).2) k) ?_
            show own_Go p e s below _ _ _ T0 (mkF m 70 #[.val (.long q0), .second, .val (.long q2), .second, .val (.long q4), .second, .val (.long q6), .second, .val (.int p8), .val (.int (own_b A)), .val (.int (own_b Cl)), .val (.int (own_b B)), .val (.int (own_b C)), .val (.int (((p8.toUInt32 >>> ((4 : Int32) &&& 31).toUInt32).toInt32) &&& (3 : Int32))), .unset, .unset, .unset, .unset, .unset, .unset] [])
            refine own_st (fun _ k => XS.lload X0.here hx rfl (hb hby at_70) rfl k) ?_
            show own_Go p e s below _ _ _ T0 (mkF m 72 #[.val (.long q0), .second, .val (.long q2), .second, .val (.long q4), .second, .val (.long q6), .second, .val (.int p8), .val (.int (own_b A)), .val (.int (own_b Cl)), .val (.int (own_b B)), .val (.int (own_b C)), .val (.int (((p8.toUInt32 >>> ((4 : Int32) &&& 31).toUInt32).toInt32) &&& (3 : Int32))), .unset, .unset, .unset, .unset, .unset, .unset] [(.long q6)])
            refine own_st (fun _ k => XS.goto X0.here hx rfl (pc0 := 72) (pc' := 97) rfl (hb hby at_72) (by decide) (by decide) k) ?_
            show own_Go p e s below _ _ _ T0 (mkF m 97 #[.val (.long q0), .second, .val (.long q2), .second, .val (.long q4), .second, .val (.long q6), .second, .val (.int p8), .val (.int (own_b A)), .val (.int (own_b Cl)), .val (.int (own_b B)), .val (.int (own_b C)), .val (.int (((p8.toUInt32 >>> ((4 : Int32) &&& 31).toUInt32).toInt32) &&& (3 : Int32))), .unset, .unset, .unset, .unset, .unset, .unset] [(.long q6)])
            exact J97 _
          · refine own_st (fun _ k => XS.ifYes X0.here hx rfl (pc0 := 67) (pc' := 75) rfl (hb hby at_67) rfl ((if0 _ _).trans (feq c67_119).2) (by decide) (by decide) k) ?_
            show own_Go p e s below _ _ _ T0 (mkF m 75 #[.val (.long q0), .second, .val (.long q2), .second, .val (.long q4), .second, .val (.long q6), .second, .val (.int p8), .val (.int (own_b A)), .val (.int (own_b Cl)), .val (.int (own_b B)), .val (.int (own_b C)), .val (.int (((p8.toUInt32 >>> ((4 : Int32) &&& 31).toUInt32).toInt32) &&& (3 : Int32))), .unset, .unset, .unset, .unset, .unset, .unset] [])
            refine own_st (fun _ k => XS.iload X0.here hx rfl (hb hby at_75) rfl k) ?_
            show own_Go p e s below _ _ _ T0 (mkF m 77 #[.val (.long q0), .second, .val (.long q2), .second, .val (.long q4), .second, .val (.long q6), .second, .val (.int p8), .val (.int (own_b A)), .val (.int (own_b Cl)), .val (.int (own_b B)), .val (.int (own_b C)), .val (.int (((p8.toUInt32 >>> ((4 : Int32) &&& 31).toUInt32).toInt32) &&& (3 : Int32))), .unset, .unset, .unset, .unset, .unset, .unset] [(.int (((p8.toUInt32 >>> ((4 : Int32) &&& 31).toUInt32).toInt32) &&& (3 : Int32)))])
            refine own_st (fun _ k => XS.iconst X0.here hx rfl (hb hby at_77) k) ?_
            show own_Go p e s below _ _ _ T0 (mkF m 78 #[.val (.long q0), .second, .val (.long q2), .second, .val (.long q4), .second, .val (.long q6), .second, .val (.int p8), .val (.int (own_b A)), .val (.int (own_b Cl)), .val (.int (own_b B)), .val (.int (own_b C)), .val (.int (((p8.toUInt32 >>> ((4 : Int32) &&& 31).toUInt32).toInt32) &&& (3 : Int32))), .unset, .unset, .unset, .unset, .unset, .unset] [(.int (1 : Int32)), (.int (((p8.toUInt32 >>> ((4 : Int32) &&& 31).toUInt32).toInt32) &&& (3 : Int32)))])
            by_cases c78_120 : (((p8.toUInt32 >>> ((4 : Int32) &&& 31).toUInt32).toInt32) &&& (3 : Int32)) = (1 : Int32)
            · refine own_st (fun _ k => XS.icmpNo X0.here hx rfl (hb hby at_78) rfl (teq c78_120).2 k) ?_
              show own_Go p e s below _ _ _ T0 (mkF m 81 #[.val (.long q0), .second, .val (.long q2), .second, .val (.long q4), .second, .val (.long q6), .second, .val (.int p8), .val (.int (own_b A)), .val (.int (own_b Cl)), .val (.int (own_b B)), .val (.int (own_b C)), .val (.int (((p8.toUInt32 >>> ((4 : Int32) &&& 31).toUInt32).toInt32) &&& (3 : Int32))), .unset, .unset, .unset, .unset, .unset, .unset] [])
              refine own_st (fun _ k => XS.lloadN X0.here hx rfl (hb hby at_81) rfl k) ?_
              show own_Go p e s below _ _ _ T0 (mkF m 82 #[.val (.long q0), .second, .val (.long q2), .second, .val (.long q4), .second, .val (.long q6), .second, .val (.int p8), .val (.int (own_b A)), .val (.int (own_b Cl)), .val (.int (own_b B)), .val (.int (own_b C)), .val (.int (((p8.toUInt32 >>> ((4 : Int32) &&& 31).toUInt32).toInt32) &&& (3 : Int32))), .unset, .unset, .unset, .unset, .unset, .unset] [(.long q0)])
              refine own_st (fun _ k => XS.goto X0.here hx rfl (pc0 := 82) (pc' := 97) rfl (hb hby at_82) (by decide) (by decide) k) ?_
              show own_Go p e s below _ _ _ T0 (mkF m 97 #[.val (.long q0), .second, .val (.long q2), .second, .val (.long q4), .second, .val (.long q6), .second, .val (.int p8), .val (.int (own_b A)), .val (.int (own_b Cl)), .val (.int (own_b B)), .val (.int (own_b C)), .val (.int (((p8.toUInt32 >>> ((4 : Int32) &&& 31).toUInt32).toInt32) &&& (3 : Int32))), .unset, .unset, .unset, .unset, .unset, .unset] [(.long q0)])
              exact J97 _
            · refine own_st (fun _ k => XS.icmpYes X0.here hx rfl (pc0 := 78) (pc' := 85) rfl (hb hby at_78) rfl (feq c78_120).2 (by decide) (by decide) k) ?_
              show own_Go p e s below _ _ _ T0 (mkF m 85 #[.val (.long q0), .second, .val (.long q2), .second, .val (.long q4), .second, .val (.long q6), .second, .val (.int p8), .val (.int (own_b A)), .val (.int (own_b Cl)), .val (.int (own_b B)), .val (.int (own_b C)), .val (.int (((p8.toUInt32 >>> ((4 : Int32) &&& 31).toUInt32).toInt32) &&& (3 : Int32))), .unset, .unset, .unset, .unset, .unset, .unset] [])
              refine own_st (fun _ k => XS.iload X0.here hx rfl (hb hby at_85) rfl k) ?_
              show own_Go p e s below _ _ _ T0 (mkF m 87 #[.val (.long q0), .second, .val (.long q2), .second, .val (.long q4), .second, .val (.long q6), .second, .val (.int p8), .val (.int (own_b A)), .val (.int (own_b Cl)), .val (.int (own_b B)), .val (.int (own_b C)), .val (.int (((p8.toUInt32 >>> ((4 : Int32) &&& 31).toUInt32).toInt32) &&& (3 : Int32))), .unset, .unset, .unset, .unset, .unset, .unset] [(.int (((p8.toUInt32 >>> ((4 : Int32) &&& 31).toUInt32).toInt32) &&& (3 : Int32)))])
              refine own_st (fun _ k => XS.iconst X0.here hx rfl (hb hby at_87) k) ?_
              show own_Go p e s below _ _ _ T0 (mkF m 88 #[.val (.long q0), .second, .val (.long q2), .second, .val (.long q4), .second, .val (.long q6), .second, .val (.int p8), .val (.int (own_b A)), .val (.int (own_b Cl)), .val (.int (own_b B)), .val (.int (own_b C)), .val (.int (((p8.toUInt32 >>> ((4 : Int32) &&& 31).toUInt32).toInt32) &&& (3 : Int32))), .unset, .unset, .unset, .unset, .unset, .unset] [(.int (2 : Int32)), (.int (((p8.toUInt32 >>> ((4 : Int32) &&& 31).toUInt32).toInt32) &&& (3 : Int32)))])
              by_cases c88_121 : (((p8.toUInt32 >>> ((4 : Int32) &&& 31).toUInt32).toInt32) &&& (3 : Int32)) = (2 : Int32)
              · refine own_st (fun _ k => XS.icmpNo X0.here hx rfl (hb hby at_88) rfl (teq c88_121).2 k) ?_
                show own_Go p e s below _ _ _ T0 (mkF m 91 #[.val (.long q0), .second, .val (.long q2), .second, .val (.long q4), .second, .val (.long q6), .second, .val (.int p8), .val (.int (own_b A)), .val (.int (own_b Cl)), .val (.int (own_b B)), .val (.int (own_b C)), .val (.int (((p8.toUInt32 >>> ((4 : Int32) &&& 31).toUInt32).toInt32) &&& (3 : Int32))), .unset, .unset, .unset, .unset, .unset, .unset] [])
                refine own_st (fun _ k => XS.lloadN X0.here hx rfl (hb hby at_91) rfl k) ?_
                show own_Go p e s below _ _ _ T0 (mkF m 92 #[.val (.long q0), .second, .val (.long q2), .second, .val (.long q4), .second, .val (.long q6), .second, .val (.int p8), .val (.int (own_b A)), .val (.int (own_b Cl)), .val (.int (own_b B)), .val (.int (own_b C)), .val (.int (((p8.toUInt32 >>> ((4 : Int32) &&& 31).toUInt32).toInt32) &&& (3 : Int32))), .unset, .unset, .unset, .unset, .unset, .unset] [(.long q2)])
                refine own_st (fun _ k => XS.goto X0.here hx rfl (pc0 := 92) (pc' := 97) rfl (hb hby at_92) (by decide) (by decide) k) ?_
                show own_Go p e s below _ _ _ T0 (mkF m 97 #[.val (.long q0), .second, .val (.long q2), .second, .val (.long q4), .second, .val (.long q6), .second, .val (.int p8), .val (.int (own_b A)), .val (.int (own_b Cl)), .val (.int (own_b B)), .val (.int (own_b C)), .val (.int (((p8.toUInt32 >>> ((4 : Int32) &&& 31).toUInt32).toInt32) &&& (3 : Int32))), .unset, .unset, .unset, .unset, .unset, .unset] [(.long q2)])
                exact J97 _
              · refine own_st (fun _ k => XS.icmpYes X0.here hx rfl (pc0 := 88) (pc' := 95) rfl (hb hby at_88) rfl (feq c88_121).2 (by decide) (by decide) k) ?_
                show own_Go p e s below _ _ _ T0 (mkF m 95 #[.val (.long q0), .second, .val (.long q2), .second, .val (.long q4), .second, .val (.long q6), .second, .val (.int p8), .val (.int (own_b A)), .val (.int (own_b Cl)), .val (.int (own_b B)), .val (.int (own_b C)), .val (.int (((p8.toUInt32 >>> ((4 : Int32) &&& 31).toUInt32).toInt32) &&& (3 : Int32))), .unset, .unset, .unset, .unset, .unset, .unset] [])
                refine own_st (fun _ k => XS.lload X0.here hx rfl (hb hby at_95) rfl k) ?_
                show own_Go p e s below _ _ _ T0 (mkF m 97 #[.val (.long q0), .second, .val (.long q2), .second, .val (.long q4), .second, .val (.long q6), .second, .val (.int p8), .val (.int (own_b A)), .val (.int (own_b Cl)), .val (.int (own_b B)), .val (.int (own_b C)), .val (.int (((p8.toUInt32 >>> ((4 : Int32) &&& 31).toUInt32).toInt32) &&& (3 : Int32))), .unset, .unset, .unset, .unset, .unset, .unset] [(.long q4)])
                exact J97 _
        by_cases c47_122 : (p8 &&& (8 : Int32)) = (0 : Int32)
        · refine own_st (fun _ k => XS.ifYes X0.here hx rfl (pc0 := 47) (pc' := 54) rfl (hb hby at_47) rfl ((if0 _ _).trans (teq c47_122).1) (by decide) (by decide) k) ?_
          show own_Go p e s below _ _ _ T0 (mkF m 54 #[.val (.long q0), .second, .val (.long q2), .second, .val (.long q4), .second, .val (.long q6), .second, .val (.int p8), .val (.int (own_b A)), .val (.int (own_b Cl)), .val (.int (own_b B)), .unset, .unset, .unset, .unset, .unset, .unset, .unset, .unset] [])
          refine own_st (fun _ k => XS.iconst X0.here hx rfl (hb hby at_54) k) ?_
          show own_Go p e s below _ _ _ T0 (mkF m 55 #[.val (.long q0), .second, .val (.long q2), .second, .val (.long q4), .second, .val (.long q6), .second, .val (.int p8), .val (.int (own_b A)), .val (.int (own_b Cl)), .val (.int (own_b B)), .unset, .unset, .unset, .unset, .unset, .unset, .unset, .unset] [(.int (0 : Int32))])
          exact Jf55 False _ (by rw [own_bf not_false])
        · refine own_st (fun _ k => XS.ifNo X0.here hx rfl (hb hby at_47) rfl ((if0 _ _).trans (feq c47_122).1) k) ?_
          show own_Go p e s below _ _ _ T0 (mkF m 50 #[.val (.long q0), .second, .val (.long q2), .second, .val (.long q4), .second, .val (.long q6), .second, .val (.int p8), .val (.int (own_b A)), .val (.int (own_b Cl)), .val (.int (own_b B)), .unset, .unset, .unset, .unset, .unset, .unset, .unset, .unset] [])
          refine own_st (fun _ k => XS.iconst X0.here hx rfl (hb hby at_50) k) ?_
          show own_Go p e s below _ _ _ T0 (mkF m 51 #[.val (.long q0), .second, .val (.long q2), .second, .val (.long q4), .second, .val (.long q6), .second, .val (.int p8), .val (.int (own_b A)), .val (.int (own_b Cl)), .val (.int (own_b B)), .unset, .unset, .unset, .unset, .unset, .unset, .unset, .unset] [(.int (1 : Int32))])
          refine own_st (fun _ k => XS.goto X0.here hx rfl (pc0 := 51) (pc' := 55) rfl (hb hby at_51) (by decide) (by decide) k) ?_
          show own_Go p e s below _ _ _ T0 (mkF m 55 #[.val (.long q0), .second, .val (.long q2), .second, .val (.long q4), .second, .val (.long q6), .second, .val (.int p8), .val (.int (own_b A)), .val (.int (own_b Cl)), .val (.int (own_b B)), .unset, .unset, .unset, .unset, .unset, .unset, .unset, .unset] [(.int (1 : Int32))])
          exact Jf55 True _ (by rw [own_bt trivial])
      by_cases c32_123 : (p8 &&& (4 : Int32)) = (0 : Int32)
      · refine own_st (fun _ k => XS.ifYes X0.here hx rfl (pc0 := 32) (pc' := 39) rfl (hb hby at_32) rfl ((if0 _ _).trans (teq c32_123).1) (by decide) (by decide) k) ?_
        show own_Go p e s below _ _ _ T0 (mkF m 39 #[.val (.long q0), .second, .val (.long q2), .second, .val (.long q4), .second, .val (.long q6), .second, .val (.int p8), .val (.int (own_b A)), .val (.int (own_b Cl)), .unset, .unset, .unset, .unset, .unset, .unset, .unset, .unset, .unset] [])
        refine own_st (fun _ k => XS.iconst X0.here hx rfl (hb hby at_39) k) ?_
        show own_Go p e s below _ _ _ T0 (mkF m 40 #[.val (.long q0), .second, .val (.long q2), .second, .val (.long q4), .second, .val (.long q6), .second, .val (.int p8), .val (.int (own_b A)), .val (.int (own_b Cl)), .unset, .unset, .unset, .unset, .unset, .unset, .unset, .unset, .unset] [(.int (0 : Int32))])
        exact Jf40 False _ (by rw [own_bf not_false])
      · refine own_st (fun _ k => XS.ifNo X0.here hx rfl (hb hby at_32) rfl ((if0 _ _).trans (feq c32_123).1) k) ?_
        show own_Go p e s below _ _ _ T0 (mkF m 35 #[.val (.long q0), .second, .val (.long q2), .second, .val (.long q4), .second, .val (.long q6), .second, .val (.int p8), .val (.int (own_b A)), .val (.int (own_b Cl)), .unset, .unset, .unset, .unset, .unset, .unset, .unset, .unset, .unset] [])
        refine own_st (fun _ k => XS.iconst X0.here hx rfl (hb hby at_35) k) ?_
        show own_Go p e s below _ _ _ T0 (mkF m 36 #[.val (.long q0), .second, .val (.long q2), .second, .val (.long q4), .second, .val (.long q6), .second, .val (.int p8), .val (.int (own_b A)), .val (.int (own_b Cl)), .unset, .unset, .unset, .unset, .unset, .unset, .unset, .unset, .unset] [(.int (1 : Int32))])
        refine own_st (fun _ k => XS.goto X0.here hx rfl (pc0 := 36) (pc' := 40) rfl (hb hby at_36) (by decide) (by decide) k) ?_
        show own_Go p e s below _ _ _ T0 (mkF m 40 #[.val (.long q0), .second, .val (.long q2), .second, .val (.long q4), .second, .val (.long q6), .second, .val (.int p8), .val (.int (own_b A)), .val (.int (own_b Cl)), .unset, .unset, .unset, .unset, .unset, .unset, .unset, .unset, .unset] [(.int (1 : Int32))])
        exact Jf40 True _ (by rw [own_bt trivial])
    by_cases c18_124 : (p8 &&& (2 : Int32)) = (0 : Int32)
    · refine own_st (fun _ k => XS.ifYes X0.here hx rfl (pc0 := 18) (pc' := 25) rfl (hb hby at_18) rfl ((if0 _ _).trans (teq c18_124).1) (by decide) (by decide) k) ?_
      show own_Go p e s below _ _ _ T0 (mkF m 25 #[.val (.long q0), .second, .val (.long q2), .second, .val (.long q4), .second, .val (.long q6), .second, .val (.int p8), .val (.int (own_b A)), .unset, .unset, .unset, .unset, .unset, .unset, .unset, .unset, .unset, .unset] [])
      refine own_st (fun _ k => XS.iconst X0.here hx rfl (hb hby at_25) k) ?_
      show own_Go p e s below _ _ _ T0 (mkF m 26 #[.val (.long q0), .second, .val (.long q2), .second, .val (.long q4), .second, .val (.long q6), .second, .val (.int p8), .val (.int (own_b A)), .unset, .unset, .unset, .unset, .unset, .unset, .unset, .unset, .unset, .unset] [(.int (0 : Int32))])
      exact Jf26 False _ (by rw [own_bf not_false])
    · refine own_st (fun _ k => XS.ifNo X0.here hx rfl (hb hby at_18) rfl ((if0 _ _).trans (feq c18_124).1) k) ?_
      show own_Go p e s below _ _ _ T0 (mkF m 21 #[.val (.long q0), .second, .val (.long q2), .second, .val (.long q4), .second, .val (.long q6), .second, .val (.int p8), .val (.int (own_b A)), .unset, .unset, .unset, .unset, .unset, .unset, .unset, .unset, .unset, .unset] [])
      refine own_st (fun _ k => XS.iconst X0.here hx rfl (hb hby at_21) k) ?_
      show own_Go p e s below _ _ _ T0 (mkF m 22 #[.val (.long q0), .second, .val (.long q2), .second, .val (.long q4), .second, .val (.long q6), .second, .val (.int p8), .val (.int (own_b A)), .unset, .unset, .unset, .unset, .unset, .unset, .unset, .unset, .unset, .unset] [(.int (1 : Int32))])
      refine own_st (fun _ k => XS.goto X0.here hx rfl (pc0 := 22) (pc' := 26) rfl (hb hby at_22) (by decide) (by decide) k) ?_
      show own_Go p e s below _ _ _ T0 (mkF m 26 #[.val (.long q0), .second, .val (.long q2), .second, .val (.long q4), .second, .val (.long q6), .second, .val (.int p8), .val (.int (own_b A)), .unset, .unset, .unset, .unset, .unset, .unset, .unset, .unset, .unset, .unset] [(.int (1 : Int32))])
      exact Jf26 True _ (by rw [own_bt trivial])
  by_cases c4_125 : (p8 &&& (1 : Int32)) = (0 : Int32)
  · refine own_st (fun _ k => XS.ifYes X0.here hx rfl (pc0 := 4) (pc' := 11) rfl (hb hby at_4) rfl ((if0 _ _).trans (teq c4_125).1) (by decide) (by decide) k) ?_
    show own_Go p e s below _ _ _ T0 (mkF m 11 #[.val (.long q0), .second, .val (.long q2), .second, .val (.long q4), .second, .val (.long q6), .second, .val (.int p8), .unset, .unset, .unset, .unset, .unset, .unset, .unset, .unset, .unset, .unset, .unset] [])
    refine own_st (fun _ k => XS.iconst X0.here hx rfl (hb hby at_11) k) ?_
    show own_Go p e s below _ _ _ T0 (mkF m 12 #[.val (.long q0), .second, .val (.long q2), .second, .val (.long q4), .second, .val (.long q6), .second, .val (.int p8), .unset, .unset, .unset, .unset, .unset, .unset, .unset, .unset, .unset, .unset, .unset] [(.int (0 : Int32))])
    exact Jf12 False _ (by rw [own_bf not_false])
  · refine own_st (fun _ k => XS.ifNo X0.here hx rfl (hb hby at_4) rfl ((if0 _ _).trans (feq c4_125).1) k) ?_
    show own_Go p e s below _ _ _ T0 (mkF m 7 #[.val (.long q0), .second, .val (.long q2), .second, .val (.long q4), .second, .val (.long q6), .second, .val (.int p8), .unset, .unset, .unset, .unset, .unset, .unset, .unset, .unset, .unset, .unset, .unset] [])
    refine own_st (fun _ k => XS.iconst X0.here hx rfl (hb hby at_7) k) ?_
    show own_Go p e s below _ _ _ T0 (mkF m 8 #[.val (.long q0), .second, .val (.long q2), .second, .val (.long q4), .second, .val (.long q6), .second, .val (.int p8), .unset, .unset, .unset, .unset, .unset, .unset, .unset, .unset, .unset, .unset, .unset] [(.int (1 : Int32))])
    refine own_st (fun _ k => XS.goto X0.here hx rfl (pc0 := 8) (pc' := 12) rfl (hb hby at_8) (by decide) (by decide) k) ?_
    show own_Go p e s below _ _ _ T0 (mkF m 12 #[.val (.long q0), .second, .val (.long q2), .second, .val (.long q4), .second, .val (.long q6), .second, .val (.int p8), .unset, .unset, .unset, .unset, .unset, .unset, .unset, .unset, .unset, .unset, .unset] [(.int (1 : Int32))])
    exact Jf12 True _ (by rw [own_bt trivial])
set_option maxRecDepth 65536 in
set_option maxHeartbeats 40000000 in
theorem comes_1 {Post : Tables → Env → Array Value → State → Outcome → State → Prop} (hpost : ∀ tb e args s v u, (limb_1_1.after args s (.returned v) u = true ∧ limb_1_2.after args s (.returned v) u = true ∧ True) → FrameEnd s (.returned v) u (Jvm.fieldLocs frame_1_writes args s ++ Jvm.arrayLocs frame_1_arrays args s ++ Jvm.staticLocs frame_1_statics s) 16 128 → Post tb e args s (.returned v) u) :
    ArmFor flags0 classFile x code maxLocals ret World_1 tables_1 room_1 Calls_1 rest_1 Pre_1 Post := by
  intro l hfl _ _ p e ha hc hk s m args below hf hA hF happ hP
  obtain ⟨hcalls, hrest, hpre⟩ := hP
  obtain ⟨-, -, -, hnamed, -, -, -, hat⟩ := (Spec.applies_iff hf).mp happ
  obtain ⟨hg, hn⟩ := and_e (Cond.before_iff.mp (show (Jvm.Cond.and given_1 narrow_1).before args s = true from hpre))
  obtain ⟨h1, hr0⟩ := and_e hg
  obtain ⟨w0, w1, w2, w3, w4, rfl⟩ : ∃ w0 w1 w2 w3 w4 : Value, args = #[w0, w1, w2, w3, w4] := by
    have hs : args.size = 5 := by simpa [Cond.value, given_1] using h1
    obtain ⟨L⟩ := args
    match L, hs with
    | [w0, w1, w2, w3, w4], _ => exact ⟨w0, w1, w2, w3, w4, rfl⟩
  have hw := fun d (hd : d ∈ tables_1) => atoms_spec (ws := Jvm.Cond.code x code maxLocals ret :: tables_1) hat d (List.mem_cons_of_mem _ hd)
  obtain ⟨ha0, hr1⟩ := and_e hr0
  obtain ⟨i0, e0⟩ := isL_v ha0
  obtain rfl : w0 = (.long i0) := Option.some.inj e0
  obtain ⟨ha1, hr2⟩ := and_e hr1
  obtain ⟨i1, e1⟩ := isL_v ha1
  obtain rfl : w1 = (.long i1) := Option.some.inj e1
  obtain ⟨ha2, hr3⟩ := and_e hr2
  obtain ⟨i2, e2⟩ := isL_v ha2
  obtain rfl : w2 = (.long i2) := Option.some.inj e2
  obtain ⟨ha3, hr4⟩ := and_e hr3
  obtain ⟨i3, e3⟩ := isL_v ha3
  obtain rfl : w3 = (.long i3) := Option.some.inj e3
  obtain ⟨i4, e4⟩ := is_v hr4
  obtain rfl : w4 = (.int i4) := Option.some.inj e4
  obtain ⟨n, o, h1, h2, h3, _, L, rfl, ⟨rfl, N⟩, hq⟩ := rm0 l s _ hw tables_1 i0 i1 i2 i3 i4 s.heap s.heap.size (Nat.le_refl _) p e ha hc hk s m _ below hf ((Spec.applies_iff_loose hf).mp happ).1 ⟨rfl, State.Warmed39.refl s, rfl⟩ trivial
  refine ⟨n, _, h1, h2, h3, hpost _ _ _ _ _ _ ⟨Cond.after_iff.mpr rfl, Cond.after_iff.mpr (eq_i res_at (Term.int_eval (1)) rfl), trivial⟩ ⟨hq.1, hq.2.1, (hq.2.2.sift fun y hy => Or.inr (N y hy)).mono (by decide) (by decide)⟩⟩
theorem main_1_1 : Claimed_1_1 := comes_1 fun _ _ _ _ _ _ h hF => ⟨h.1, hF⟩
theorem main_1_2 : Claimed_1_2 := comes_1 fun _ _ _ _ _ _ h hF => ⟨h.2.1, hF⟩
end Jvm.Pilot.@@N@@
namespace Jvm.Pilot.@@N@@
open Jvm Jvm.ClassFile Sem Op Lib Jvm.Free Jvm.Stand Jvm.Pilot.@@N@@.Jvm.D
/-! MADE BY PROGRAM (witnessworld.py) out of the Statement's table words and the real class files: 12 classes; the members and pool entries that the words name. The judged class is class 1, her method 1. -/
namespace start1
open Jvm.ClassFile
def u (s : String) : CpInfo := .utf8 (stringToUtf16 s)
/-- a pool by its gaps: so many unusable entries, then the entry; so many at the end -/
def gap : Nat → List CpInfo → List CpInfo
  | 0, r => r
  | n + 1, r => .unusable :: gap n r
def poolList (es : List (Nat × CpInfo)) (last : Nat) : List CpInfo := es.foldr (fun e r => gap e.1 (e.2 :: r)) (gap last [])
def pool (es : List (Nat × CpInfo)) (last : Nat) : Array CpInfo := ⟨poolList es last⟩
def fileOf (pool : Array CpInfo) (this : Nat) (attrs : Array Attribute := #[]) (ms : Array MethodInfo := #[]) (fl : Nat := 33) (sup : Nat := 0) (ifs : Array Nat := #[]) (fds : Array FieldInfo := #[]) : ClassFile where
  minorVersion := 0
  majorVersion := 65
  constantPool := pool
  accessFlags := fl
  thisClass := this
  superClass := sup
  interfaces := ifs
  fields := fds
  methods := ms
  attributes := attrs
def plain (name : String) (sup : Option ClassId) : Class where
  name := name
  kind := .ordinary
  loader := none
  accessFlags := 33
  super := sup
  interfaces := #[]
  cf := none
  fields := #[]
  methods := #[]
  instanceTypes := #[]
  staticTypes := #[]
  resolved := #[]
  callSites := []
  init := .initialized
  statics := none
  mirror := none

def pool0 : Array CpInfo := pool [(5, u "<init>"), (0, u "()V"), (1, .class_ 10), (1, u "java/lang/Object")] 113

def k0c0 : Code := { maxStack := 0, maxLocals := 1, code := object_method_1_code, exceptionTable := #[], attributes := #[] }
def k0m0 : Method := { name := "<init>", desc := "()V", sig := { parameters := [], returnType := none }, accessFlags := 1, code := some k0c0 }
/-- java/lang/Object -/
def k0 : Class := { plain "java/lang/Object" none with
  accessFlags := 33
  interfaces := #[]
  cf := some (fileOf pool0 8 #[] #[{ accessFlags := 1, nameIndex := 5, descriptorIndex := 6, attributes := #[] }] 33 0 #[] #[])
  fields := #[]
  methods := #[k0m0]
  instanceTypes := #[]
  staticTypes := #[]
  resolved := Array.replicate 124 none
  statics := none }

def pool1 : Array CpInfo := pool [(2, .class_ 4), (0, .nameAndType 5 6), (0, u "java/lang/Object"), (0, u "<init>"), (0, u "()V"), (0, .class_ 8), (0, u "com/example/phonomark/phonomark/LongSet"), (0, .methodref 7 3), (0, .methodref 7 11), (0, .nameAndType 12 13), (0, u "add"), (0, u "(J)V"), (0, .methodref 7 15), (0, .nameAndType 16 6), (0, u "clear"), (0, .methodref 7 18), (0, .nameAndType 19 20), (0, u "contains"), (0, u "(J)Z"), (0, .methodref 22 23), (0, .class_ 24), (0, .nameAndType 25 26), (0, u "com/example/phonomark/phonomark/LongSetContainsPinLaw"), (0, u "expected"), (0, u "(JJJJZZZ)Z"), (2, u "law"), (0, u "(JJJJI)Z")] 3

def k1m0 : Method := { name := "<init>", desc := "()V", sig := { parameters := [], returnType := none }, accessFlags := 1, code := none }
def k1c1 : Code := { maxStack := 12, maxLocals := 20, code := code, exceptionTable := #[], attributes := #[] }
def k1m1 : Method := { name := "law", desc := "(JJJJI)Z", sig := { parameters := [.long, .long, .long, .long, .int], returnType := some .boolean }, accessFlags := 9, code := some k1c1 }
def k1c2 : Code := { maxStack := 4, maxLocals := 11, code := method_3_code, exceptionTable := #[], attributes := #[] }
def k1m2 : Method := { name := "expected", desc := "(JJJJZZZ)Z", sig := { parameters := [.long, .long, .long, .long, .boolean, .boolean, .boolean], returnType := some .boolean }, accessFlags := 10, code := some k1c2 }
/-- com/example/phonomark/phonomark/LongSetContainsPinLaw -/
def k1 : Class := { plain "com/example/phonomark/phonomark/LongSetContainsPinLaw" (some 0) with
  accessFlags := 49
  interfaces := #[]
  cf := some (fileOf pool1 22 #[] #[{ accessFlags := 1, nameIndex := 5, descriptorIndex := 6, attributes := #[] }, { accessFlags := 9, nameIndex := 29, descriptorIndex := 30, attributes := #[] }, { accessFlags := 10, nameIndex := 25, descriptorIndex := 26, attributes := #[] }] 49 2 #[] #[])
  fields := #[]
  methods := #[k1m0, k1m1, k1m2]
  instanceTypes := #[]
  staticTypes := #[]
  resolved := Array.replicate 34 none
  statics := none }

def pool2 : Array CpInfo := pool [(1, .methodref 2 3), (0, .class_ 4), (0, .nameAndType 5 6), (0, u "java/lang/Object"), (0, u "<init>"), (0, u "()V"), (0, .class_ 8), (0, u "com/example/phonomark/phonomark/LongSet"), (0, .fieldref 7 10), (0, .nameAndType 11 12), (0, u "table"), (0, u "[J"), (0, .fieldref 7 14), (0, .nameAndType 15 16), (0, u "holdsZero"), (0, u "Z"), (0, .methodref 7 18), (0, .nameAndType 19 20), (0, u "place"), (0, u "([JJ)I"), (0, .fieldref 7 22), (0, .nameAndType 23 24), (0, u "count"), (0, u "I"), (3, .methodref 29 30), (0, .class_ 31), (0, .nameAndType 32 33), (0, u "java/util/Arrays"), (0, u "fill"), (0, u "([JJ)V"), (0, .long 11400714819323198485), (1, u "INITIAL_LENGTH"), (2, u "SPREAD"), (0, u "J"), (2, u "add"), (0, u "(J)V"), (1, u "contains"), (0, u "(J)Z"), (0, u "clear")] 3

def k2c0 : Code := { maxStack := 2, maxLocals := 1, code := prog_28_method_1_code, exceptionTable := #[], attributes := #[] }
def k2m0 : Method := { name := "<init>", desc := "()V", sig := { parameters := [], returnType := none }, accessFlags := 0, code := some k2c0 }
def k2c1 : Code := { maxStack := 4, maxLocals := 4, code := prog_28_method_2_code, exceptionTable := #[], attributes := #[] }
def k2m1 : Method := { name := "add", desc := "(J)V", sig := { parameters := [.long], returnType := none }, accessFlags := 0, code := some k2c1 }
def k2c2 : Code := { maxStack := 4, maxLocals := 3, code := prog_28_method_3_code, exceptionTable := #[], attributes := #[] }
def k2m2 : Method := { name := "contains", desc := "(J)Z", sig := { parameters := [.long], returnType := some .boolean }, accessFlags := 0, code := some k2c2 }
def k2c3 : Code := { maxStack := 3, maxLocals := 1, code := prog_28_method_4_code, exceptionTable := #[], attributes := #[] }
def k2m3 : Method := { name := "clear", desc := "()V", sig := { parameters := [], returnType := none }, accessFlags := 0, code := some k2c3 }
def k2c4 : Code := { maxStack := 4, maxLocals := 5, code := prog_28_method_6_code, exceptionTable := #[], attributes := #[] }
def k2m4 : Method := { name := "place", desc := "([JJ)I", sig := { parameters := [(.array .long), .long], returnType := some .int }, accessFlags := 10, code := some k2c4 }
/-- com/example/phonomark/phonomark/LongSet -/
def k2 : Class := { plain "com/example/phonomark/phonomark/LongSet" (some 0) with
  accessFlags := 48
  interfaces := #[]
  cf := some (fileOf pool2 7 #[] #[{ accessFlags := 0, nameIndex := 5, descriptorIndex := 6, attributes := #[] }, { accessFlags := 0, nameIndex := 43, descriptorIndex := 44, attributes := #[] }, { accessFlags := 0, nameIndex := 46, descriptorIndex := 47, attributes := #[] }, { accessFlags := 0, nameIndex := 48, descriptorIndex := 6, attributes := #[] }, { accessFlags := 10, nameIndex := 19, descriptorIndex := 20, attributes := #[] }] 48 2 #[] #[{ accessFlags := 26, nameIndex := 36, descriptorIndex := 24, attributes := #[] }, { accessFlags := 26, nameIndex := 39, descriptorIndex := 40, attributes := #[] }, { accessFlags := 2, nameIndex := 11, descriptorIndex := 12, attributes := #[] }, { accessFlags := 2, nameIndex := 23, descriptorIndex := 24, attributes := #[] }, { accessFlags := 2, nameIndex := 15, descriptorIndex := 16, attributes := #[] }])
  fields := #[{ name := "INITIAL_LENGTH", type := .int, accessFlags := 26, slot := 0, constantValue := 0 }, { name := "SPREAD", type := .long, accessFlags := 26, slot := 1, constantValue := 0 }, { name := "table", type := (.array .long), accessFlags := 2, slot := 0, constantValue := 0 }, { name := "count", type := .int, accessFlags := 2, slot := 1, constantValue := 0 }, { name := "holdsZero", type := .boolean, accessFlags := 2, slot := 2, constantValue := 0 }]
  methods := #[k2m0, k2m1, k2m2, k2m3, k2m4]
  instanceTypes := #[(.array .long), .int, .boolean]
  staticTypes := #[.int, .long]
  resolved := Array.replicate 52 none
  statics := none }

def pool3 : Array CpInfo := pool [(2, .class_ 4), (1, u "java/lang/Object"), (0, u "<init>"), (0, u "()V"), (7, .class_ 16), (1, u "java/util/Arrays"), (57, .class_ 76), (1, u "java/util/Arrays$NaturalOrder"), (36, .class_ 115), (1, u "java/util/Arrays$LegacyMergeSort"), (1, u "Z"), (257, .class_ 376), (0, u "java/util/Arrays$ArrayList"), (68, u "$assertionsDisabled"), (269, u "MIN_ARRAY_SORT_GRAN"), (0, u "I"), (2, u "INSERTIONSORT_THRESHOLD"), (120, u "fill"), (0, u "([JJ)V"), (133, .class_ 976), (0, u "java/util/Arrays$ArrayItr")] 52

def k3m0 : Method := { name := "<init>", desc := "()V", sig := { parameters := [], returnType := none }, accessFlags := 2, code := none }
def k3c1 : Code := { maxStack := 4, maxLocals := 5, code := jdk_65_method_101_code, exceptionTable := #[], attributes := #[] }
def k3m1 : Method := { name := "fill", desc := "([JJ)V", sig := { parameters := [(.array .long), .long], returnType := none }, accessFlags := 9, code := some k3c1 }
/-- java/util/Arrays -/
def k3 : Class := { plain "java/util/Arrays" (some 0) with
  accessFlags := 49
  interfaces := #[]
  cf := some (fileOf pool3 14 #[.nestMembers #[975, 375, 113, 74]] #[{ accessFlags := 2, nameIndex := 5, descriptorIndex := 6, attributes := #[] }, { accessFlags := 9, nameIndex := 840, descriptorIndex := 841, attributes := #[] }] 49 2 #[] #[{ accessFlags := 26, nameIndex := 715, descriptorIndex := 716, attributes := #[] }, { accessFlags := 26, nameIndex := 719, descriptorIndex := 716, attributes := #[] }, { accessFlags := 4120, nameIndex := 445, descriptorIndex := 117, attributes := #[] }])
  fields := #[{ name := "MIN_ARRAY_SORT_GRAN", type := .int, accessFlags := 26, slot := 0, constantValue := 0 }, { name := "INSERTIONSORT_THRESHOLD", type := .int, accessFlags := 26, slot := 1, constantValue := 0 }, { name := "$assertionsDisabled", type := .boolean, accessFlags := 4120, slot := 2, constantValue := 0 }]
  methods := #[k3m0, k3m1]
  instanceTypes := #[]
  staticTypes := #[.int, .int, .boolean]
  resolved := Array.replicate 1029 none
  statics := none }

def pool4 : Array CpInfo := pool [(1, u "java/lang/Cloneable"), (0, .class_ 1), (0, u "java/lang/Object"), (0, .class_ 3)] 3

/-- java/lang/Cloneable -/
def k4 : Class := { plain "java/lang/Cloneable" (some 0) with
  accessFlags := 1537
  interfaces := #[]
  cf := some (fileOf pool4 2 #[] #[] 1537 4 #[] #[])
  fields := #[]
  methods := #[]
  instanceTypes := #[]
  staticTypes := #[]
  resolved := Array.replicate 8 none
  statics := none }

def pool5 : Array CpInfo := pool [(1, u "java/io/Serializable"), (0, .class_ 1), (0, u "java/lang/Object"), (0, .class_ 3)] 3

/-- java/io/Serializable -/
def k5 : Class := { plain "java/io/Serializable" (some 0) with
  accessFlags := 1537
  interfaces := #[]
  cf := some (fileOf pool5 2 #[] #[] 1537 4 #[] #[])
  fields := #[]
  methods := #[]
  instanceTypes := #[]
  staticTypes := #[]
  resolved := Array.replicate 8 none
  statics := none }

/-- the primitive byte -/
def k6 : Class := { plain "byte" none with kind := .primitive 'B', accessFlags := 0x411 }
/-- [B -/
def k7 : Class := { plain "[B" (some 0) with kind := .array 6 .byte, interfaces := #[4, 5], accessFlags := 1041 }

/-- the primitive int -/
def k8 : Class := { plain "int" none with kind := .primitive 'I', accessFlags := 0x411 }
/-- [I -/
def k9 : Class := { plain "[I" (some 0) with kind := .array 8 .int, interfaces := #[4, 5], accessFlags := 1041 }

/-- the primitive long -/
def k10 : Class := { plain "long" none with kind := .primitive 'J', accessFlags := 0x411 }
/-- [J -/
def k11 : Class := { plain "[J" (some 0) with kind := .array 10 .long, interfaces := #[4, 5], accessFlags := 1041 }

def heap : Heap := #[]
def classes : Array Class := #[k0, k1, k2, k3, k4, k5, k6, k7, k8, k9, k10, k11]
def interned : List (Array UInt16 × Addr) := []
def slotsUsed : Nat := 0
def theMethod : MethodId := ⟨1, 1⟩
def args0 : Array Value := #[.long 7, .long 7, .long 7, .long 7, .int 5]
def aboutOver (below : List Frame) : State where
  vm := { classes := classes, interned := interned.toArray }
  heap := heap
  slotsUsed := slotsUsed
  threads := #[{ frames := .invoking theMethod args0 :: below }]
def below0 : List Frame := [.native { method := ⟨0, 0⟩, args := #[] }]
def about1 : State := aboutOver below0
def p0 : Program := .bare "" "" ""
def e0 : Env := launch0.env 0 0 0
theorem w_frames : about1.frames = Frame.invoking theMethod args0 :: below0 := rfl
set_option maxRecDepth 65536 in
theorem w_args : argsFit about1.vm theMethod args0 = true := by decide +kernel
set_option maxRecDepth 65536 in
theorem w_heap : heapFits about1 = true := by decide +kernel
set_option maxRecDepth 65536 in
theorem w_runnable : about1.curStatus? = some .runnable := by decide +kernel
set_option maxRecDepth 65536 in
theorem w_alone : about1.alone = true := by decide +kernel
set_option maxRecDepth 65536 in
theorem w_named : about1.methodNamed? x = some theMethod := by decide +kernel
set_option maxRecDepth 65536 in
theorem w_hears : about1.hears theMethod below0 = true := by decide +kernel
set_option maxRecDepth 65536 in
theorem w_ripe : about1.ripe theMethod args0 below0 = true := by decide +kernel
theorem w_running : about1.status = .running := rfl
set_option maxRecDepth 65536 in
theorem w_room : about1.hasRoom e0.platform room_1 = true :=
  launch0.hasRoom_least _ room_1 (by decide +kernel) (by decide +kernel) (by decide +kernel) (by decide +kernel) (by decide +kernel) (by decide +kernel)
theorem allAtoms_all (ts : List Jvm.Cond) (a : Array Jvm.Value) (st : Jvm.State) : (allAtoms ts).before a st = ts.all (fun c => c.before a st) := by
  induction ts with
  | nil => rfl
  | cons c t ih =>
    show (Jvm.Cond.and c (allAtoms t)).before a st = _
    rw [Jvm.Cond.before_and, ih, List.all_cons]
def words1 : List Jvm.Cond := Jvm.Cond.code x code maxLocals ret :: tables_1
/-- a 'code' word, met by the world's own term for the bytes: nothing is compared byte by byte -/
theorem code_word {y : MethodName} {bytes : ByteArray} {mx : Nat} {rt : Option FieldType} {a : Array Value} {s : State} {m : MethodId} {meth : Method} {c : Code} (h1 : s.methodNamed? y = some m) (h2 : s.vm.method? m = some meth) (h3 : meth.code = some c) (h4 : c.code = bytes)
    (h5 : (c.maxLocals == mx && c.exceptionTable.isEmpty && decide (c.maxStack ≤ mostOperands) && decide (meth.sig.returnType = rt) && !meth.locks && decide (parseMethodDescriptor y.desc = some meth.sig)) = true) : (Jvm.Cond.code y bytes mx rt).before a s = true := by
  simp only [Bool.and_eq_true, beq_iff_eq, Bool.not_eq_true', decide_eq_true_eq] at h5
  obtain ⟨⟨⟨⟨⟨g1, g2⟩, g3⟩, g4⟩, g5⟩, g6⟩ := h5
  simp [Cond.before, Cond.holds, Cond.value, h1, h2, h3, h4, g1, g2, g3, g4, g5, g6]
def isCode : Jvm.Cond → Bool
  | .code _ _ _ _ => true
  | _ => false
theorem all_split {L : List Jvm.Cond} {P : Jvm.Cond → Bool} (h1 : L.all (fun c => isCode c || P c) = true) (h2 : ∀ c ∈ L.filter isCode, P c = true) : L.all P = true := by
  refine List.all_eq_true.mpr fun c hc => ?_
  have h := List.all_eq_true.mp h1 c hc
  rcases Bool.eq_false_or_eq_true (isCode c) with hi | hi
  · exact h2 c (List.mem_filter.mpr ⟨hc, hi⟩)
  · simpa [hi] using h
set_option maxRecDepth 65536 in
theorem w_c0 : (Jvm.Cond.code x code maxLocals ret).before args0 about1 = true := code_word (m := ⟨1, 1⟩) (meth := k1m1) (c := k1c1) (by decide +kernel) rfl rfl rfl (by decide +kernel)
set_option maxRecDepth 65536 in
theorem w_c1 : (Jvm.Cond.code ({ cls := "com/example/phonomark/phonomark/LongSet", name := "<init>", desc := "()V" } : Jvm.MethodName) prog_28_method_1_code (1 : Nat) (Option.none : Option Jvm.ClassFile.FieldType)).before args0 about1 = true := code_word (m := ⟨2, 0⟩) (meth := k2m0) (c := k2c0) (by decide +kernel) rfl rfl rfl (by decide +kernel)
set_option maxRecDepth 65536 in
theorem w_c2 : (Jvm.Cond.code ({ cls := "java/lang/Object", name := "<init>", desc := "()V" } : Jvm.MethodName) object_method_1_code (1 : Nat) (Option.none : Option Jvm.ClassFile.FieldType)).before args0 about1 = true := code_word (m := ⟨0, 0⟩) (meth := k0m0) (c := k0c0) (by decide +kernel) rfl rfl rfl (by decide +kernel)
set_option maxRecDepth 65536 in
theorem w_c3 : (Jvm.Cond.code ({ cls := "com/example/phonomark/phonomark/LongSet", name := "add", desc := "(J)V" } : Jvm.MethodName) prog_28_method_2_code (4 : Nat) (Option.none : Option Jvm.ClassFile.FieldType)).before args0 about1 = true := code_word (m := ⟨2, 1⟩) (meth := k2m1) (c := k2c1) (by decide +kernel) rfl rfl rfl (by decide +kernel)
set_option maxRecDepth 65536 in
theorem w_c4 : (Jvm.Cond.code ({ cls := "com/example/phonomark/phonomark/LongSet", name := "place", desc := "([JJ)I" } : Jvm.MethodName) prog_28_method_6_code (5 : Nat) (Option.some Jvm.ClassFile.FieldType.int)).before args0 about1 = true := code_word (m := ⟨2, 4⟩) (meth := k2m4) (c := k2c4) (by decide +kernel) rfl rfl rfl (by decide +kernel)
set_option maxRecDepth 65536 in
theorem w_c5 : (Jvm.Cond.code ({ cls := "com/example/phonomark/phonomark/LongSet", name := "clear", desc := "()V" } : Jvm.MethodName) prog_28_method_4_code (1 : Nat) (Option.none : Option Jvm.ClassFile.FieldType)).before args0 about1 = true := code_word (m := ⟨2, 3⟩) (meth := k2m3) (c := k2c3) (by decide +kernel) rfl rfl rfl (by decide +kernel)
set_option maxRecDepth 65536 in
theorem w_c6 : (Jvm.Cond.code ({ cls := "java/util/Arrays", name := "fill", desc := "([JJ)V" } : Jvm.MethodName) jdk_65_method_101_code (5 : Nat) (Option.none : Option Jvm.ClassFile.FieldType)).before args0 about1 = true := code_word (m := ⟨3, 1⟩) (meth := k3m1) (c := k3c1) (by decide +kernel) rfl rfl rfl (by decide +kernel)
set_option maxRecDepth 65536 in
theorem w_c7 : (Jvm.Cond.code ({ cls := "com/example/phonomark/phonomark/LongSet", name := "contains", desc := "(J)Z" } : Jvm.MethodName) prog_28_method_3_code (3 : Nat) (Option.some Jvm.ClassFile.FieldType.boolean)).before args0 about1 = true := code_word (m := ⟨2, 2⟩) (meth := k2m2) (c := k2c2) (by decide +kernel) rfl rfl rfl (by decide +kernel)
set_option maxRecDepth 65536 in
theorem w_c8 : (Jvm.Cond.code ({ cls := "com/example/phonomark/phonomark/LongSetContainsPinLaw", name := "expected", desc := "(JJJJZZZ)Z" } : Jvm.MethodName) method_3_code (11 : Nat) (Option.some Jvm.ClassFile.FieldType.boolean)).before args0 about1 = true := code_word (m := ⟨1, 2⟩) (meth := k1m2) (c := k1c2) (by decide +kernel) rfl rfl rfl (by decide +kernel)
def codes1 : List Jvm.Cond := [Jvm.Cond.code x code maxLocals ret, Jvm.Cond.code ({ cls := "com/example/phonomark/phonomark/LongSet", name := "<init>", desc := "()V" } : Jvm.MethodName) prog_28_method_1_code (1 : Nat) (Option.none : Option Jvm.ClassFile.FieldType), Jvm.Cond.code ({ cls := "java/lang/Object", name := "<init>", desc := "()V" } : Jvm.MethodName) object_method_1_code (1 : Nat) (Option.none : Option Jvm.ClassFile.FieldType), Jvm.Cond.code ({ cls := "com/example/phonomark/phonomark/LongSet", name := "add", desc := "(J)V" } : Jvm.MethodName) prog_28_method_2_code (4 : Nat) (Option.none : Option Jvm.ClassFile.FieldType), Jvm.Cond.code ({ cls := "com/example/phonomark/phonomark/LongSet", name := "place", desc := "([JJ)I" } : Jvm.MethodName) prog_28_method_6_code (5 : Nat) (Option.some Jvm.ClassFile.FieldType.int), Jvm.Cond.code ({ cls := "com/example/phonomark/phonomark/LongSet", name := "clear", desc := "()V" } : Jvm.MethodName) prog_28_method_4_code (1 : Nat) (Option.none : Option Jvm.ClassFile.FieldType), Jvm.Cond.code ({ cls := "java/util/Arrays", name := "fill", desc := "([JJ)V" } : Jvm.MethodName) jdk_65_method_101_code (5 : Nat) (Option.none : Option Jvm.ClassFile.FieldType), Jvm.Cond.code ({ cls := "com/example/phonomark/phonomark/LongSet", name := "contains", desc := "(J)Z" } : Jvm.MethodName) prog_28_method_3_code (3 : Nat) (Option.some Jvm.ClassFile.FieldType.boolean), Jvm.Cond.code ({ cls := "com/example/phonomark/phonomark/LongSetContainsPinLaw", name := "expected", desc := "(JJJJZZZ)Z" } : Jvm.MethodName) method_3_code (11 : Nat) (Option.some Jvm.ClassFile.FieldType.boolean)]
set_option maxRecDepth 65536 in
theorem codes_eq : words1.filter isCode = codes1 := rfl
theorem w_codes : ∀ c ∈ words1.filter isCode, c.before args0 about1 = true := by
  rw [codes_eq]
  intro c hc
  simp only [codes1, List.mem_cons, List.not_mem_nil, or_false] at hc
  rcases hc with rfl | rfl | rfl | rfl | rfl | rfl | rfl | rfl | rfl
  · exact w_c0
  · exact w_c1
  · exact w_c2
  · exact w_c3
  · exact w_c4
  · exact w_c5
  · exact w_c6
  · exact w_c7
  · exact w_c8
set_option maxRecDepth 65536 in
theorem w_t1 : (words1.take 24).all (fun c => isCode c || c.before args0 about1) = true := by decide +kernel
set_option maxRecDepth 65536 in
theorem w_t2 : (words1.drop 24).all (fun c => isCode c || c.before args0 about1) = true := by decide +kernel
theorem w_tables : (allAtoms (Jvm.Cond.code x code maxLocals ret :: tables_1)).before args0 about1 = true := by
  rw [allAtoms_all]
  show words1.all (fun c => c.before args0 about1) = true
  refine all_split ?_ w_codes
  rw [← List.take_append_drop 24 words1, List.all_append, w_t1, w_t2]
  rfl
set_option maxRecDepth 65536 in
theorem w_case : (Jvm.Cond.and given_1 narrow_1).before args0 about1 = true := by decide +kernel
theorem w_applies : (headSpec (Jvm.Cond.code x code maxLocals ret :: tables_1) room_1).applies x e0.platform about1 = true :=
  (Spec.applies_iff w_frames).mpr ⟨w_running, w_runnable, w_alone, w_named, w_hears, w_ripe, w_room, w_tables⟩
theorem atStart : AtStart classFile x code maxLocals ret World_1 tables_1 room_1 Calls_1 rest_1 Pre_1 launch0 p0 e0 about1 theMethod args0 below0 :=
  ⟨lists_1, trivial, launch0.admits_env _ _ _, launch0.least_env, fairChoices_fair.cas, fairChoices_fair.clock, w_frames, w_args, w_heap, w_applies, trivial, trivial, w_case⟩
end start1
theorem witness_1 : WitnessClaimed_1 := ⟨start1.p0, start1.e0, start1.about1, start1.theMethod, start1.args0, start1.below0, start1.atStart⟩
end Jvm.Pilot.@@N@@
