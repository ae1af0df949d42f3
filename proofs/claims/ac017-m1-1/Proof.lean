import JvmDerived
import JvmDerived.Pilot.@@N@@Statement
import JvmDerived.Pilot.@@N@@Code
set_option linter.unusedVariables false
set_option linter.unusedSimpArgs false
namespace Jvm.Pilot.@@N@@
open Jvm Jvm.ClassFile Sem Op Lib Jvm.Free Jvm.Stand Jvm.LawKit Jvm.RoadKit Bundle Jvm.Pilot.@@N@@.Jvm.D
/-! the walk in the form of what is still to be run: own_Go T g says that the run from the frame g on T ends as promised -/
section OwnKit
variable {p : Program} {l : Launch} {e : Env} {R : Room} {s : State} {m : MethodId} {args : Array Value} {below : List Frame} {meth : Method} {c : Code} {T : State} {locs : List Loc} {cells slots : Nat} {Z : State} {h : Heap} {a0 : Array Value} {Q : Option Value → Heap → List Loc → Prop} {cm sm : Nat}
def own_Go (p : Program) (e : Env) (s : State) (below : List Frame) (Q : Option Value → Heap → List Loc → Prop) (cm sm : Nat) (T : State) (g : JFrame) : Prop :=
  ∃ (U : State) (o : Outcome), Steps p.tables e below (T.setTop g) U ∧ U.status = .running ∧ Ended U below o ∧ ∃ v L, o = .returned v ∧ Q v U.heap L ∧ FrameEnd s o U L cm sm
theorem own_st {T' : State} {g g' : JFrame} (h : ∀ t, Steps p.tables e below (T'.setTop g') t → Steps p.tables e below (T.setTop g) t) (k : own_Go p e s below Q cm sm T' g') : own_Go p e s below Q cm sm T g := by
  obtain ⟨U, o, h1, h2⟩ := k
  exact ⟨U, o, h U h1, h2⟩
abbrev own_Met (l : Launch) (Z : State) (y : MethodName) (bytes : ByteArray) (ml : Nat) (ret : Option FieldType) (rm : Room) (ws : List Jvm.Cond) (as : Array Value) (h : Heap) (Q : Option Value → Heap → List Loc → Prop) (cm sm : Nat) : Prop :=
  MetFree l y (head1 (Jvm.Cond.code y bytes ml ret :: ws) rm) (fun a U => a = as ∧ Z.Warmed39 U.vm ∧ U.heap = h) (fun _ _ _ _ _ => True) (fun _ U o U' => ∃ v L, o = .returned v ∧ Q v U'.heap L ∧ FrameEnd U o U' L cm sm)
theorem own_enter {y : MethodName} {bytes : ByteArray} {ml : Nat} {ret : Option FieldType} {rm : Room} {ws : List Jvm.Cond} {as : Array Value} {Ls : Array Slot}
    (hp : plainFor y = true) (hef : ∀ m, entryFrame m as ml = mkF m 0 Ls [])
    (body : ∀ (p : Program) (e : Env) (s : State) (m : MethodId) (below : List Frame) (meth : Method) (c : Code) (T : State), p.tables.exec = Jvm.exec → c.code = bytes → c.maxLocals = ml → s.vm.findClass y.cls = some m.cls → meth.name = y.name → meth.sig.returnType = ret → meth.locks = false → Z.Warmed39 s.vm →
      Stand p l e rm s m as below meth c T [] 0 0 → T.heap = h → own_Go p e s below Q cm sm T (mkF m 0 Ls [])) :
    own_Met l Z y bytes ml ret rm ws as h Q cm sm := by
  refine MetFree.of_bodySF hp hisR ?_
  intro p e s m args below meth c s₁ Bd hml0 hP hK
  obtain ⟨rfl, hZ, hh⟩ := hP
  obtain ⟨U, o, h1, h2⟩ := body p e s m below meth c s₁ Bd.exec Bd.bytes hml0 (findClass_of_methodNamed Bd.named) (name_of_methodNamed Bd.named Bd.method).1 Bd.returns (BodyLoose.notSynchronized Bd) hZ (Stand.of_body Bd) (by rw [← hh, Bd.state]; rfl)
  exact ⟨U, o, castTop (hef m) h1, h2⟩
/-! returns -/
theorem own_retN (X : Stand p l e R s m args below meth c T locs cells slots) (hx : p.tables.exec = Jvm.exec) (hlk : meth.locks = false) {t : FieldType} (hret : meth.sig.returnType = some t) (ht : t = .boolean ∨ t = .byte ∨ t = .char ∨ t = .short) {pc : Nat} {Ls : Array Slot} {z z' : Int32} {rest : List Value}
    (hd : decode c.code pc = .ok (.ireturn, 1)) (hz : nar t z = z') (hc : cells ≤ cm) (hs : slots ≤ sm) (hQ : Q (some (.int z')) T.heap locs) : own_Go p e s below Q cm sm T (mkF m pc Ls (.int z :: rest)) := by
  subst hz
  obtain ⟨fs, hr, hrun, hended, hW, hsame⟩ := X.leave (v := some (.int (nar t z))) (fun h => by rw [hret] at h; cases h) hlk
  exact ⟨_, _, retN X hx hret ht hd hr, hrun, hended, _, _, rfl, hQ, ⟨_, rfl⟩, hW, hsame.mono hc hs⟩
theorem own_retI (X : Stand p l e R s m args below meth c T locs cells slots) (hx : p.tables.exec = Jvm.exec) (hlk : meth.locks = false) (hret : meth.sig.returnType = some .int) {pc : Nat} {Ls : Array Slot} {z : Int32} {rest : List Value}
    (hd : decode c.code pc = .ok (.ireturn, 1)) (hc : cells ≤ cm) (hs : slots ≤ sm) (hQ : Q (some (.int z)) T.heap locs) : own_Go p e s below Q cm sm T (mkF m pc Ls (.int z :: rest)) := by
  obtain ⟨fs, hr, hrun, hended, hW, hsame⟩ := X.leave (v := some (.int z)) (fun h => by rw [hret] at h; cases h) hlk
  exact ⟨_, _, retOut X hx hret rfl (Or.inl ⟨rfl, Or.inl rfl, _, rfl⟩) hd hr, hrun, hended, _, _, rfl, hQ, ⟨_, rfl⟩, hW, hsame.mono hc hs⟩
theorem own_retJ (X : Stand p l e R s m args below meth c T locs cells slots) (hx : p.tables.exec = Jvm.exec) (hlk : meth.locks = false) (hret : meth.sig.returnType = some .long) {pc : Nat} {Ls : Array Slot} {z : Int64} {rest : List Value}
    (hd : decode c.code pc = .ok (.lreturn, 1)) (hc : cells ≤ cm) (hs : slots ≤ sm) (hQ : Q (some (.long z)) T.heap locs) : own_Go p e s below Q cm sm T (mkF m pc Ls (.long z :: rest)) := by
  obtain ⟨fs, hr, hrun, hended, hW, hsame⟩ := X.leave (v := some (.long z)) (fun h => by rw [hret] at h; cases h) hlk
  exact ⟨_, _, retOut X hx hret rfl (Or.inr (Or.inl ⟨rfl, rfl, _, rfl⟩)) hd hr, hrun, hended, _, _, rfl, hQ, ⟨_, rfl⟩, hW, hsame.mono hc hs⟩
theorem own_retR (X : Stand p l e R s m args below meth c T locs cells slots) (hx : p.tables.exec = Jvm.exec) (hlk : meth.locks = false) {t : FieldType} (hret : meth.sig.returnType = some t) (ht : t.isReference = true) {pc : Nat} {Ls : Array Slot} {w : Value} (hw : w.isRef = true) (hn : narrow t w = w) {rest : List Value}
    (hd : decode c.code pc = .ok (.areturn, 1)) (hc : cells ≤ cm) (hs : slots ≤ sm) (hQ : Q (some w) T.heap locs) : own_Go p e s below Q cm sm T (mkF m pc Ls (w :: rest)) := by
  obtain ⟨fs, hr, hrun, hended, hW, hsame⟩ := X.leave (v := some w) (fun h => by rw [hret] at h; cases h) hlk
  exact ⟨_, _, retOut X hx hret hn (Or.inr (Or.inr (Or.inr (Or.inr ⟨rfl, ht, hw⟩)))) hd hr, hrun, hended, _, _, rfl, hQ, ⟨_, rfl⟩, hW, hsame.mono hc hs⟩
theorem own_ret0 (X : Stand p l e R s m args below meth c T locs cells slots) (hx : p.tables.exec = Jvm.exec) (hlk : meth.locks = false) (hret : meth.sig.returnType = none) {pc : Nat} {Ls : Array Slot}
    (hd : decode c.code pc = .ok (.return_, 1)) (hc : cells ≤ cm) (hs : slots ≤ sm) (hQ : Q none T.heap locs) : own_Go p e s below Q cm sm T (mkF m pc Ls []) := by
  obtain ⟨fs, hr, hrun, hended, hW, hsame⟩ := X.leave (v := none) (fun _ => rfl) hlk
  exact ⟨_, _, X.returnOut hx hret hd hr, hrun, hended, _, _, rfl, hQ, ⟨_, rfl⟩, hW, hsame.mono hc hs⟩
/-! calls by the callee's contract -/
theorem own_callS (X : Stand p l e R s m args below meth c T locs cells slots) (hx : p.tables.exec = Jvm.exec) (hZ : Z.Warmed39 s.vm) {own : String} {index : Nat} {y : MethodName} {bytes : ByteArray} {maxL : Nat} {ret : Option FieldType} (hown : s.vm.findClass own = some m.cls)
    (w1 : (Jvm.Cond.methodLink own index y).before a0 Z = true) (w2 : (Jvm.Cond.static y).before a0 Z = true) (w3 : (Jvm.Cond.initialized y.cls).before a0 Z = true) (w4 : (Jvm.Cond.code y bytes maxL ret).before a0 Z = true)
    (hy : y.cls ≠ "java/lang/invoke/MethodHandle" ∧ y.cls ≠ "java/lang/invoke/VarHandle") {rm : Room} {as : Array Value} {Qc : Option Value → Heap → List Loc → Prop} (eT : T.heap = h)
    (hM : own_Met l Z y bytes maxL ret rm [] as h Qc rm.cells rm.slots) (W : Nat) (hf : rm.frames + 1 ≤ R.frames) (hl : W + (maxL + 11) + rm.locals ≤ R.locals)
    {g : JFrame} (hg : g.method = m) (hsize : g.locals.size = c.maxLocals) {argsL rest : List Value} {ps : List FieldType} {r : Option FieldType} (hpd : parseMethodDescriptor y.desc = some ⟨ps, r⟩) (hlen : argsL.length = ps.length) (has : argsL.toArray = as)
    (hstack : g.stack = argsL.reverse ++ rest) (hW : 2 * g.monitorRoom + (rest.map fun v => v.category).sum ≤ W) (hdg : decode c.code g.pc = .ok (.invokestatic index, 3)) (hc : cells + rm.cells ≤ R.cells) (hs : slots + rm.slots ≤ R.slots)
    (k : ∀ (T' : State) (v : Option Value) (Lc : List Loc), Stand p l e R s m args below meth c T' (locs ++ Lc) (cells + rm.cells) (slots + rm.slots) → Qc v T'.heap Lc → own_Go p e s below Q cm sm T' { g with pc := g.pc + 3, stack := v.toList ++ rest }) :
    own_Go p e s below Q cm sm T g := by
  obtain ⟨v, _, ⟨T', L', k', n'⟩, -, X', ⟨Lc, hQ, l1, y1, z1⟩, st⟩ := Jvm.LawKit.callS X hx (y := y) hown (mvT hZ w1) (mvT hZ w2) (mvT hZ w3) (mvT hZ w4) hy (backOf (W := W) hM hZ w4 w3 hf hl) hg hsize (argsL := argsL) (rest := rest) (lenOf hpd hlen) hstack hW hdg (fun _ _ => ⟨has, eT, hc, hs⟩)
  dsimp only [Pt.U, Pt.locs, Pt.cells, Pt.slots] at X' l1 y1 z1 st hQ
  subst l1 y1 z1
  exact own_st st (k T' v Lc X' hQ)
theorem own_callN (X : Stand p l e R s m args below meth c T locs cells slots) (hx : p.tables.exec = Jvm.exec) (hZ : Z.Warmed39 s.vm) {own : String} {index : Nat} {y : MethodName} {bytes : ByteArray} {maxL : Nat} (hy1 : y.name = "<init>") (hown : s.vm.findClass own = some m.cls)
    (w1 : (Jvm.Cond.methodLink own index y).before a0 Z = true) (w2 : (Jvm.Cond.instanceMethod y).before a0 Z = true) (w3 : (Jvm.Cond.initialized y.cls).before a0 Z = true) (w4 : (Jvm.Cond.code y bytes maxL none).before a0 Z = true)
    (hy : y.cls ≠ "java/lang/invoke/MethodHandle" ∧ y.cls ≠ "java/lang/invoke/VarHandle") {rm : Room} {as : Array Value} {Qc : Option Value → Heap → List Loc → Prop} (eT : T.heap = h)
    (hM : own_Met l Z y bytes maxL none rm [] as h Qc rm.cells rm.slots) (W : Nat) (hf : rm.frames + 1 ≤ R.frames) (hl : W + (maxL + 11) + rm.locals ≤ R.locals)
    {g : JFrame} (hg : g.method = m) (hsize : g.locals.size = c.maxLocals) {a : Addr} {argsL rest : List Value} {ps : List FieldType} {r : Option FieldType} (hpd : parseMethodDescriptor y.desc = some ⟨ps, r⟩) (hlen : argsL.length = ps.length) (has : (Value.ref a :: argsL).toArray = as)
    (hstack : g.stack = argsL.reverse ++ .ref a :: rest) (hW : 2 * g.monitorRoom + (rest.map fun v => v.category).sum ≤ W) (hdg : decode c.code g.pc = .ok (.invokespecial index, 3)) (hc : cells + rm.cells ≤ R.cells) (hs : slots + rm.slots ≤ R.slots)
    (k : ∀ (T' : State) (v : Option Value) (Lc : List Loc), Stand p l e R s m args below meth c T' (locs ++ Lc) (cells + rm.cells) (slots + rm.slots) → Qc v T'.heap Lc → own_Go p e s below Q cm sm T' { g with pc := g.pc + 3, stack := v.toList ++ rest }) :
    own_Go p e s below Q cm sm T g := by
  obtain ⟨v, _, ⟨T', L', k', n'⟩, -, X', ⟨Lc, hQ, l1, y1, z1⟩, st⟩ := X.specialBack hx (y := y) hy1 hown (mvT hZ w1) (mvT hZ w2) (mvT hZ w4) hy (backOf (W := W) hM hZ w4 w3 hf hl) hg hsize (Steps.refl _) (a := a) (argsL := argsL) (rest := rest) (lenOf hpd hlen) hstack hW hdg (fun _ _ => ⟨has, eT, hc, hs⟩)
  dsimp only [Pt.U, Pt.locs, Pt.cells, Pt.slots] at X' l1 y1 z1 st hQ
  subst l1 y1 z1
  exact own_st (fun _ q => st.trans q) (k T' v Lc X' hQ)
theorem own_callV (X : Stand p l e R s m args below meth c T locs cells slots) (hx : p.tables.exec = Jvm.exec) (hZ : Z.Warmed39 s.vm) {own C : String} {index : Nat} {y : MethodName} {bytes : ByteArray} {maxL : Nat} {ret : Option FieldType} (hown : s.vm.findClass own = some m.cls)
    (w1 : (Jvm.Cond.methodLink own index y).before a0 Z = true) (w2 : (Jvm.Cond.declares y).before a0 Z = true) (w5 : (Jvm.Cond.selects C y y).before a0 Z = true) (w6 : (Jvm.Cond.instanceMethod y).before a0 Z = true) (w3 : (Jvm.Cond.initialized y.cls).before a0 Z = true) (w4 : (Jvm.Cond.code y bytes maxL ret).before a0 Z = true)
    (hy : y.cls ≠ "java/lang/invoke/MethodHandle" ∧ y.cls ≠ "java/lang/invoke/VarHandle") {rm : Room} {as : Array Value} {Qc : Option Value → Heap → List Loc → Prop} (eT : T.heap = h)
    (hM : own_Met l Z y bytes maxL ret rm [] as h Qc rm.cells rm.slots) (W : Nat) (hf : rm.frames + 1 ≤ R.frames) (hl : W + (maxL + 11) + rm.locals ≤ R.locals) {a : Addr} (E : Exa Z h a C)
    {g : JFrame} (hg : g.method = m) (hsize : g.locals.size = c.maxLocals) {argsL rest : List Value} {ps : List FieldType} {r : Option FieldType} (hpd : parseMethodDescriptor y.desc = some ⟨ps, r⟩) (hlen : argsL.length = ps.length) (has : (Value.ref a :: argsL).toArray = as)
    (hstack : g.stack = argsL.reverse ++ .ref a :: rest) (hW : 2 * g.monitorRoom + (rest.map fun v => v.category).sum ≤ W) (hdg : decode c.code g.pc = .ok (.invokevirtual index, 3)) (hc : cells + rm.cells ≤ R.cells) (hs : slots + rm.slots ≤ R.slots)
    (k : ∀ (T' : State) (v : Option Value) (Lc : List Loc), Stand p l e R s m args below meth c T' (locs ++ Lc) (cells + rm.cells) (slots + rm.slots) → Qc v T'.heap Lc → own_Go p e s below Q cm sm T' { g with pc := g.pc + 3, stack := v.toList ++ rest }) :
    own_Go p e s below Q cm sm T g := by
  obtain ⟨cq, kq, qa, qb, qc⟩ := isOf hZ eT E
  obtain ⟨v, _, ⟨T', L', k', n'⟩, -, X', ⟨Lc, hQ, l1, y1, z1⟩, st⟩ := X.virtualBack hx (y := y) (z := y) hown (mvT hZ w1) (mvT hZ w2) (notFace_of_selects (args := #[]) (mvT hZ w5)) (mvT hZ w5) (mvT hZ w6) hy (backOf (W := W) hM hZ w4 w3 hf hl) qa qc hg hsize (Steps.refl _) (argsL := argsL) (rest := rest) (lenOf hpd hlen) hstack hW hdg (fun _ _ => ⟨has, eT, hc, hs⟩)
  dsimp only [Pt.U, Pt.locs, Pt.cells, Pt.slots] at X' l1 y1 z1 st hQ
  subst l1 y1 z1
  exact own_st (fun _ q => st.trans q) (k T' v Lc X' hQ)
/-! arrays by the list of their values -/
theorem own_ix {n j : Int32} {vs : List Value} {d : Value} {a : Addr} {k : ClassId} {ty : FieldType} (V : Arv Z h a k ty n vs d) (hj : ¬ j < 0 ∧ j < n) : ∃ cl : Cell, Arr Z h a cl ty ∧ ¬ (j < 0 ∨ cl.slots.size ≤ j.toNatClampNeg) ∧ cl.slots[j.toNatClampNeg]? = some (vs.getD j.toNatClampNeg d) := by
  obtain ⟨cl, A, -, S, N, H, -⟩ := V
  have q := inb_of S hj
  exact ⟨cl, A, q, H _ (Nat.lt_of_not_le fun y => q (Or.inr y))⟩
theorem own_len (X : Stand p l e R s m args below meth c T locs cells slots) (hx : p.tables.exec = Jvm.exec) (hZ : Z.Warmed39 s.vm) (eT : T.heap = h) {a : Addr} {k : ClassId} {ty : FieldType} {n : Int32} {vs : List Value} {d : Value} (V : Arv Z h a k ty n vs d)
    {g : JFrame} (hg : g.method = m) {rest : List Value} (hs : g.stack = .ref a :: rest) (hd : decode c.code g.pc = .ok (.arraylength, 1)) :
    ∀ t, Steps p.tables e below (T.setTop { g with pc := g.pc + 1, stack := .int n :: rest }) t → Steps p.tables e below (T.setTop g) t := by
  obtain ⟨cl, A, -, S, N, -, -⟩ := V
  intro t k
  refine X.arraylength hx (by rw [eT]; exact A.1) (State.isArrayOf_alike hZ.alike A.2.1) hg hs hd t ?_
  rw [len_of S N]; exact k
theorem own_ldI (X : Stand p l e R s m args below meth c T locs cells slots) (hx : p.tables.exec = Jvm.exec) (hZ : Z.Warmed39 s.vm) (eT : T.heap = h) {a : Addr} {k : ClassId} {n : Int32} {vs : List Value} {d : Value} (V : Arv Z h a k .int n vs d) {j x : Int32} (hj : ¬ j < 0 ∧ j < n) (hv : vs.getD j.toNatClampNeg d = .int x)
    {g : JFrame} (hg : g.method = m) {rest : List Value} (hs : g.stack = .int j :: .ref a :: rest) (hd : decode c.code g.pc = .ok (.iaload, 1)) :
    ∀ t, Steps p.tables e below (T.setTop { g with pc := g.pc + 1, stack := .int x :: rest }) t → Steps p.tables e below (T.setTop g) t := by
  obtain ⟨cl, A, q, H⟩ := own_ix V hj
  exact X.iaload hx (j := j) (v := .int x) (by rw [eT]; exact A.1) (State.isArrayOf_alike hZ.alike A.2.1) A.2.2 q (hv ▸ H) hg hs hd
theorem own_ldB (X : Stand p l e R s m args below meth c T locs cells slots) (hx : p.tables.exec = Jvm.exec) (hZ : Z.Warmed39 s.vm) (eT : T.heap = h) {a : Addr} {k : ClassId} {n : Int32} {vs : List Value} {d : Value} (V : Arv Z h a k .byte n vs d) {j x : Int32} (hj : ¬ j < 0 ∧ j < n) (hv : vs.getD j.toNatClampNeg d = .int x)
    {g : JFrame} (hg : g.method = m) {rest : List Value} (hs : g.stack = .int j :: .ref a :: rest) (hd : decode c.code g.pc = .ok (.baload, 1)) :
    ∀ t, Steps p.tables e below (T.setTop { g with pc := g.pc + 1, stack := .int x :: rest }) t → Steps p.tables e below (T.setTop g) t := by
  obtain ⟨cl, A, q, H⟩ := own_ix V hj
  exact X.baloadBytes hx (j := j) (v := .int x) (by rw [eT]; exact A.1) (State.isArrayOf_alike hZ.alike A.2.1) A.2.2 q (hv ▸ H) hg hs hd
theorem own_ldJ (X : Stand p l e R s m args below meth c T locs cells slots) (hx : p.tables.exec = Jvm.exec) (hZ : Z.Warmed39 s.vm) (eT : T.heap = h) {a : Addr} {k : ClassId} {n : Int32} {vs : List Value} {d : Value} (V : Arv Z h a k .long n vs d) {j : Int32} {x : Int64} (hj : ¬ j < 0 ∧ j < n) (hv : vs.getD j.toNatClampNeg d = .long x)
    {g : JFrame} (hg : g.method = m) {rest : List Value} (hs : g.stack = .int j :: .ref a :: rest) (hd : decode c.code g.pc = .ok (.laload, 1)) :
    ∀ t, Steps p.tables e below (T.setTop { g with pc := g.pc + 1, stack := .long x :: rest }) t → Steps p.tables e below (T.setTop g) t := by
  obtain ⟨cl, A, q, H⟩ := own_ix V hj
  exact X.laload hx (j := j) (v := .long x) (by rw [eT]; exact A.1) (State.isArrayOf_alike hZ.alike A.2.1) A.2.2 q (hv ▸ H) hg hs hd
theorem own_stI (X : Stand p l e R s m args below meth c T locs cells slots) (hx : p.tables.exec = Jvm.exec) (hZ : Z.Warmed39 s.vm) (eT : T.heap = h) {a : Addr} {k : ClassId} {n : Int32} {vs : List Value} {d : Value} (V : Arv Z h a k .int n vs d) {j x : Int32} (hj : ¬ j < 0 ∧ j < n) (hl : j.toNatClampNeg < vs.length)
    {g : JFrame} (hg : g.method = m) {rest : List Value} (hs : g.stack = .int x :: .int j :: .ref a :: rest) (hd : decode c.code g.pc = .ok (.iastore, 1)) :
    ∃ T' h', Stand p l e R s m args below meth c T' (locs ++ [⟨a, j.toNatClampNeg⟩]) cells slots ∧ T'.heap = h' ∧ Wr h h' a j.toNatClampNeg (.int x) ∧ Arv Z h' a k .int n (vs.set j.toNatClampNeg (.int x)) d ∧ ∀ t, Steps p.tables e below (T'.setTop { g with pc := g.pc + 1, stack := rest }) t → Steps p.tables e below (T.setTop g) t := by
  obtain ⟨cl, A, q1, S, N, H, G⟩ := V
  obtain ⟨T', h', X', e', W, st⟩ := stI X hx hZ eT A (j := j) (inb_of S hj) hg hs hd
  exact ⟨T', h', X', e', W, Arv.set A q1 S N H G rfl W _ rfl hl, st⟩
theorem own_stJ (X : Stand p l e R s m args below meth c T locs cells slots) (hx : p.tables.exec = Jvm.exec) (hZ : Z.Warmed39 s.vm) (eT : T.heap = h) {a : Addr} {k : ClassId} {n : Int32} {vs : List Value} {d : Value} (V : Arv Z h a k .long n vs d) {j : Int32} {x : Int64} (hj : ¬ j < 0 ∧ j < n) (hl : j.toNatClampNeg < vs.length)
    {g : JFrame} (hg : g.method = m) {rest : List Value} (hs : g.stack = .long x :: .int j :: .ref a :: rest) (hd : decode c.code g.pc = .ok (.lastore, 1)) :
    ∃ T' h', Stand p l e R s m args below meth c T' (locs ++ [⟨a, j.toNatClampNeg⟩]) cells slots ∧ T'.heap = h' ∧ Wr h h' a j.toNatClampNeg (.long x) ∧ Arv Z h' a k .long n (vs.set j.toNatClampNeg (.long x)) d ∧ ∀ t, Steps p.tables e below (T'.setTop { g with pc := g.pc + 1, stack := rest }) t → Steps p.tables e below (T.setTop g) t := by
  obtain ⟨cl, A, q1, S, N, H, G⟩ := V
  obtain ⟨T', h', X', e', W, st⟩ := stJ X hx hZ eT A (j := j) (inb_of S hj) hg hs hd
  exact ⟨T', h', X', e', W, Arv.set A q1 S N H G rfl W _ rfl hl, st⟩
theorem own_stB (X : Stand p l e R s m args below meth c T locs cells slots) (hx : p.tables.exec = Jvm.exec) (hZ : Z.Warmed39 s.vm) (eT : T.heap = h) {a : Addr} {k : ClassId} {n : Int32} {vs : List Value} {d : Value} (V : Arv Z h a k .byte n vs d) {j x x' : Int32} (hj : ¬ j < 0 ∧ j < n) (hl : j.toNatClampNeg < vs.length) (hn : x.toInt8.toInt32 = x')
    {g : JFrame} (hg : g.method = m) {rest : List Value} (hs : g.stack = .int x :: .int j :: .ref a :: rest) (hd : decode c.code g.pc = .ok (.bastore, 1)) :
    ∃ T' h', Stand p l e R s m args below meth c T' (locs ++ [⟨a, j.toNatClampNeg⟩]) cells slots ∧ T'.heap = h' ∧ Wr h h' a j.toNatClampNeg (.int x') ∧ Arv Z h' a k .byte n (vs.set j.toNatClampNeg (.int x')) d ∧ ∀ t, Steps p.tables e below (T'.setTop { g with pc := g.pc + 1, stack := rest }) t → Steps p.tables e below (T.setTop g) t := by
  subst hn
  obtain ⟨cl, A, q1, S, N, H, G⟩ := V
  obtain ⟨T', h', X', e', W, st⟩ := stB X hx hZ eT A (j := j) (inb_of S hj) hg hs hd
  exact ⟨T', h', X', e', W, Arv.set A q1 S N H G (fits_nar_byte _) W _ rfl hl, st⟩
theorem own_ldR (X : Stand p l e R s m args below meth c T locs cells slots) (hx : p.tables.exec = Jvm.exec) (hZ : Z.Warmed39 s.vm) (eT : T.heap = h) {a : Addr} {k : ClassId} {ty : FieldType} {n : Int32} {vs : List Value} {d : Value} (V : Arv Z h a k ty n vs d) (hty : ty.isReference = true) {j : Int32} {v : Value} (hj : ¬ j < 0 ∧ j < n) (hv : vs.getD j.toNatClampNeg d = v)
    {g : JFrame} (hg : g.method = m) {rest : List Value} (hs : g.stack = .int j :: .ref a :: rest) (hd : decode c.code g.pc = .ok (.aaload, 1)) :
    ∀ t, Steps p.tables e below (T.setTop { g with pc := g.pc + 1, stack := v :: rest }) t → Steps p.tables e below (T.setTop g) t := by
  obtain ⟨cl, A, q, H⟩ := own_ix V hj
  exact X.aaload hx (j := j) (v := v) (by rw [eT]; exact A.1) (State.isArrayOf_alike hZ.alike A.2.1) hty A.2.2 q (hv ▸ H) hg hs hd
theorem own_stR (X : Stand p l e R s m args below meth c T locs cells slots) (hx : p.tables.exec = Jvm.exec) (hZ : Z.Warmed39 s.vm) (eT : T.heap = h) {a : Addr} {k : ClassId} {ty : FieldType} {n : Int32} {vs : List Value} {d : Value} (V : Arv Z h a k ty n vs d) (hty : ty.isReference = true) {v : Value} (F : ∀ cl : Cell, Arr Z h a cl ty → cl.cls = k → Sto Z h a v) (hf : fits ty v = true) {j : Int32} (hj : ¬ j < 0 ∧ j < n) (hl : j.toNatClampNeg < vs.length)
    {g : JFrame} (hg : g.method = m) {rest : List Value} (hs : g.stack = v :: .int j :: .ref a :: rest) (hd : decode c.code g.pc = .ok (.aastore, 1)) :
    ∃ T' h', Stand p l e R s m args below meth c T' (locs ++ [⟨a, j.toNatClampNeg⟩]) cells slots ∧ T'.heap = h' ∧ Wr h h' a j.toNatClampNeg v ∧ Arv Z h' a k ty n (vs.set j.toNatClampNeg v) d ∧ ∀ t, Steps p.tables e below (T'.setTop { g with pc := g.pc + 1, stack := rest }) t → Steps p.tables e below (T.setTop g) t := by
  obtain ⟨cl, A, q1, S, N, H, G⟩ := V
  obtain ⟨T', h', X', e', W, st⟩ := stR X hx hZ eT A (j := j) (inb_of S hj) hty (F cl A q1) hg hs hd
  exact ⟨T', h', X', e', W, Arv.set A q1 S N H G hf W _ rfl hl, st⟩
/-! booleans -/
def own_b (P : Prop) [Decidable P] : Int32 := if P then 1 else 0
theorem own_bt {P : Prop} [Decidable P] (q : P) : own_b P = 1 := if_pos q
theorem own_bf {P : Prop} [Decidable P] (q : ¬ P) : own_b P = 0 := if_neg q
theorem own_bnar {P : Prop} [Decidable P] : nar .boolean (own_b P) = own_b P := by
  by_cases q : P
  · rw [own_bt q]; decide
  · rw [own_bf q]; decide
theorem own_bnw {P : Prop} [Decidable P] : narrow .boolean (.int (own_b P)) = .int (own_b P) := congrArg Value.int (own_bnar (P := P))
theorem own_by {P : Prop} [Decidable P] (q : P) : ifCond.holds .ne (own_b P) = true ∧ ifCond.holds .eq (own_b P) = false := by rw [own_bt q]; decide
theorem own_bn {P : Prop} [Decidable P] (q : ¬ P) : ifCond.holds .eq (own_b P) = true ∧ ifCond.holds .ne (own_b P) = false := by rw [own_bf q]; decide
theorem own_beq {P P' : Prop} [Decidable P] [Decidable P'] (q : P ↔ P') : own_b P = own_b P' := by
  by_cases r : P
  · rw [own_bt r, own_bt (q.mp r)]
  · rw [own_bf r, own_bf fun x => r (q.mpr x)]
end OwnKit

theorem own_it {n : Nat} (h : n < 2 ^ 31) : n.toInt32.toInt = n := len_toInt h
theorem own_len0 (x : Int32) : ∃ N : Nat, N ≤ 65535 ∧ (x &&& (65535 : Int32)) = N.toInt32 := by
  have m := c_mask x 65535 16 (by decide) (by decide)
  refine ⟨(x &&& (65535 : Int32)).toInt.toNat, by omega, ?_⟩
  rw [← Int32.toInt_inj, own_it (by omega)]
  omega
theorem own_mod (y : Int32) {n : Nat} (h0 : 0 < n) (h1 : n < 2 ^ 31) : ∃ K : Nat, K < n ∧ ((y &&& (2147483647 : Int32)) % n.toInt32) = K.toInt32 := by
  have m := c_mask y 2147483647 31 (by decide) (by decide)
  have b := own_it h1
  have v := (c_iremV (y &&& (2147483647 : Int32)) n.toInt32).1 (by omega) (by omega)
  refine ⟨((y &&& (2147483647 : Int32)) % n.toInt32).toInt.toNat, by omega, ?_⟩
  rw [← Int32.toInt_inj, own_it (by omega)]
  omega
theorem own_lti {i n : Nat} (hi : i < 2 ^ 31) (hn : n < 2 ^ 31) : i.toInt32 < n.toInt32 ↔ i < n := by
  rw [Int32.lt_iff_toInt_lt, own_it hi, own_it hn]
  omega
theorem own_ixn {i n : Nat} (h : i < n) (hn : n < 2 ^ 31) : (¬ i.toInt32 < 0 ∧ i.toInt32 < n.toInt32) ∧ i.toInt32.toNatClampNeg = i := by
  have b := own_it (n := i) (by omega)
  have z : (0 : Int32).toInt = 0 := by decide
  refine ⟨⟨?_, (own_lti (by omega) hn).mpr h⟩, ?_⟩
  · rw [Int32.lt_iff_toInt_lt]; omega
  · rw [Int32.toNatClampNeg, b]; rfl
theorem own_up (i : Nat) (h : i < 100000) : i.toInt32 + 1 = (i + 1).toInt32 := by
  have a := c_iadd i.toInt32 1
  have b := own_it (n := i) (by omega)
  have d := own_it (n := i + 1) (by omega)
  have l : (1 : Int32).toInt = 1 := by decide
  have r := rng32 (i.toInt32 + 1)
  rw [← Int32.toInt_inj]
  omega
theorem own_dn (i : Nat) (h : i < 100000) : (i + 1).toInt32 - 1 = i.toInt32 := by
  have a := c_isub (i + 1).toInt32 1
  have b := own_it (n := i) (by omega)
  have d := own_it (n := i + 1) (by omega)
  have l : (1 : Int32).toInt = 1 := by decide
  have r := rng32 ((i + 1).toInt32 - 1)
  rw [← Int32.toInt_inj]
  omega
theorem own_nz {n : Nat} (h0 : 0 < n) (h1 : n < 2 ^ 31) : n.toInt32 ≠ 0 := fun q => by
  have b := own_it h1
  rw [q] at b
  have z : (0 : Int32).toInt = 0 := by decide
  omega
theorem own_a95 {N : Nat} (h : N ≤ 65535) : (N.toInt32 + (4095 : Int32)).toInt = N + 4095 := by
  have a := c_iadd N.toInt32 4095
  have b := own_it (n := N) (by omega)
  have l : (4095 : Int32).toInt = 4095 := by decide
  have r := rng32 (N.toInt32 + (4095 : Int32))
  omega
theorem own_ushr {N : Nat} (h : N ≤ 65535) : (((N.toInt32 + (4095 : Int32)).toUInt32 >>> ((12 : Int32) &&& 31).toUInt32).toInt32) = ((N + 4095) / 4096).toInt32 := by
  have u := c_iushr (N.toInt32 + (4095 : Int32)) 12 12 (by decide) (by decide)
  have a := own_a95 h
  have d := own_it (n := (N + 4095) / 4096) (by omega)
  rw [← Int32.toInt_inj]
  omega
theorem own_div {N : Nat} (h : N ≤ 65535) : (N.toInt32 + (4095 : Int32)) / (4096 : Int32) = ((N + 4095) / 4096).toInt32 := by
  have a := own_a95 h
  have u := (c_idiv (N.toInt32 + (4095 : Int32)) 4096 4096 (by decide) (by decide)).1 (by omega)
  have d := own_it (n := (N + 4095) / 4096) (by omega)
  rw [← Int32.toInt_inj]
  omega
theorem own_shl {P : Nat} (h : P ≤ 16) : P.toInt32 <<< ((12 : Int32) &&& 31) = (P * 4096).toInt32 := by
  have s := c_ishl P.toInt32 12 12 (by decide)
  have b := own_it (n := P) (by omega)
  have d := own_it (n := P * 4096) (by omega)
  have r := rng32 (P.toInt32 <<< ((12 : Int32) &&& 31))
  rw [← Int32.toInt_inj]
  omega
theorem own_mul {P : Nat} (h : P ≤ 16) : P.toInt32 * (4096 : Int32) = (P * 4096).toInt32 := by
  have s := c_imul P.toInt32 4096
  have l : (4096 : Int32).toInt = 4096 := by decide
  rw [l] at s
  have b := own_it (n := P) (by omega)
  have d := own_it (n := P * 4096) (by omega)
  have r := rng32 (P.toInt32 * (4096 : Int32))
  rw [← Int32.toInt_inj]
  omega
theorem own_gus {K : Nat} (h : K < 2 ^ 31) : ((K.toInt32.toUInt32 >>> ((12 : Int32) &&& 31).toUInt32).toInt32) = (K / 4096).toInt32 := by
  have u := c_iushr K.toInt32 12 12 (by decide) (by decide)
  have b := own_it (n := K) (by omega)
  have d := own_it (n := K / 4096) (by omega)
  rw [← Int32.toInt_inj]
  omega
theorem own_and {K : Nat} (h : K < 2 ^ 31) : (K.toInt32 &&& (4095 : Int32)) = (K % 4096).toInt32 := by
  have m := c_mask K.toInt32 4095 12 (by decide) (by decide)
  have b := own_it (n := K) (by omega)
  have d := own_it (n := K % 4096) (by omega)
  rw [← Int32.toInt_inj]
  omega
theorem own_sb {P N : Nat} (h1 : N ≤ P * 4096) (h2 : P * 4096 < N + 4096) (h3 : P ≤ 16) : ((P * 4096).toInt32 - N.toInt32) < (4096 : Int32) := by
  have a := c_isub (P * 4096).toInt32 N.toInt32
  have b := own_it (n := N) (by omega)
  have d := own_it (n := P * 4096) (by omega)
  have l : (4096 : Int32).toInt = 4096 := by decide
  have r := rng32 ((P * 4096).toInt32 - N.toInt32)
  rw [Int32.lt_iff_toInt_lt]
  omega
theorem own_mg (qs : List Addr) (j : Nat) (h : j < qs.length) : (qs.map Value.ref).getD j .null = .ref (qs.getD j 0) := by
  induction qs generalizing j with
  | nil => exact absurd h (by simp)
  | cons d ds ih => cases j with
    | zero => rfl
    | succ j => exact ih j (by simpa using h)
theorem own_sl (qs : List Addr) (x : Addr) : ((qs.map Value.ref) ++ [Value.null]).set qs.length (.ref x) = (qs ++ [x]).map Value.ref := by
  induction qs with
  | nil => rfl
  | cons d ds ih => exact congrArg (List.cons _) ih
theorem own_gl (qs : List Addr) (x : Addr) (j : Nat) : (qs ++ [x]).getD j 0 = if j < qs.length then qs.getD j 0 else if j = qs.length then x else 0 := by
  induction qs generalizing j with
  | nil => cases j with
    | zero => rfl
    | succ j => rfl
  | cons d ds ih => cases j with
    | zero => rfl
    | succ j =>
      have := ih j
      simpa using this
def own_Pg (Z : State) (h : Heap) (a : Addr) (k : ClassId) (P i : Nat) (M : Int32) (qs : List Addr) : Prop :=
  qs.length = i ∧ Arv Z h a k (.array .long) P.toInt32 (qs.map Value.ref) .null ∧ (∀ j, j < i → qs.getD j 0 ≠ a ∧ ∃ k', Arv Z h (qs.getD j 0) k' .long M [] (.long (0 : Int64))) ∧ (∀ j, 0 < j → j < i → qs.getD 0 0 ≠ qs.getD j 0)
theorem own_Pg_step {Z : State} {h h1 h2 : Heap} {a x : Addr} {k k' : ClassId} {P i : Nat} {M : Int32} {qs : List Addr} {sl : Nat} (G : own_Pg Z h a k P i M qs) (E : Ext h h1) (hx : x = h.size) (Vx : Arv Z h1 x k' .long M [] (.long (0 : Int64))) (W : Wr h1 h2 a sl (.ref x)) (Va : Arv Z h2 a k (.array .long) P.toInt32 (((qs.map Value.ref) ++ [Value.null]).set i (.ref x)) .null) : own_Pg Z h2 a k P (i + 1) M (qs ++ [x]) := by
  obtain ⟨g1, g2, g3, g4⟩ := G
  have ax : x ≠ a := fun q => absurd g2.lt (by rw [← q, hx]; exact Nat.lt_irrefl _)
  subst g1
  refine ⟨by simp, own_sl qs x ▸ Va, fun j hj => ?_, fun j h0 hj => ?_⟩
  · rw [own_gl]
    by_cases q : j < qs.length
    · rw [if_pos q]
      obtain ⟨n1, k2, V2⟩ := g3 j q
      exact ⟨n1, k2, (V2.ext E).other W n1⟩
    · rw [if_neg q, if_pos (by omega)]
      exact ⟨ax, k', Vx.other W ax⟩
  · rw [own_gl, own_gl, if_pos (by omega)]
    by_cases q : j < qs.length
    · rw [if_pos q]; exact g4 j h0 q
    · rw [if_neg q, if_pos (by omega)]
      obtain ⟨n1, k2, V2⟩ := g3 0 (by omega)
      exact fun q => absurd V2.lt (by rw [q, hx]; exact Nat.lt_irrefl _)
theorem own_Pg0 {Z : State} {h : Heap} {a : Addr} {k : ClassId} {P : Nat} {M : Int32} (V : Arv Z h a k (.array .long) P.toInt32 [] .null) : own_Pg Z h a k P 0 M [] := ⟨rfl, V, fun _ q => absurd q (Nat.not_lt_zero _), fun _ _ q => absurd q (Nat.not_lt_zero _)⟩
theorem d1_0 : decode prog_92_method_2_code 0 = .ok (.iload_n 0, 1) := by decide +kernel
theorem d1_1 : decode prog_92_method_2_code 1 = .ok (.sipush 4096, 3) := by decide +kernel
theorem d1_4 : decode prog_92_method_2_code 4 = .ok (.if_icmp .gt 14, 3) := by decide +kernel
theorem d1_7 : decode prog_92_method_2_code 7 = .ok (.iconst 1, 1) := by decide +kernel
theorem d1_8 : decode prog_92_method_2_code 8 = .ok (.anewarray 9, 3) := by decide +kernel
theorem d1_11 : decode prog_92_method_2_code 11 = .ok (.dup, 1) := by decide +kernel
theorem d1_12 : decode prog_92_method_2_code 12 = .ok (.iconst 0, 1) := by decide +kernel
theorem d1_13 : decode prog_92_method_2_code 13 = .ok (.iload_n 0, 1) := by decide +kernel
theorem d1_14 : decode prog_92_method_2_code 14 = .ok (.newarray .long, 2) := by decide +kernel
theorem d1_16 : decode prog_92_method_2_code 16 = .ok (.aastore, 1) := by decide +kernel
theorem d1_17 : decode prog_92_method_2_code 17 = .ok (.areturn, 1) := by decide +kernel
theorem d1_18 : decode prog_92_method_2_code 18 = .ok (.iload_n 0, 1) := by decide +kernel
theorem d1_19 : decode prog_92_method_2_code 19 = .ok (.sipush 4095, 3) := by decide +kernel
theorem d1_22 : decode prog_92_method_2_code 22 = .ok (.iadd, 1) := by decide +kernel
theorem d1_23 : decode prog_92_method_2_code 23 = .ok (.bipush 12, 2) := by decide +kernel
theorem d1_25 : decode prog_92_method_2_code 25 = .ok (.iushr, 1) := by decide +kernel
theorem d1_26 : decode prog_92_method_2_code 26 = .ok (.anewarray 9, 3) := by decide +kernel
theorem d1_29 : decode prog_92_method_2_code 29 = .ok (.astore_n 1, 1) := by decide +kernel
theorem d1_30 : decode prog_92_method_2_code 30 = .ok (.iconst 0, 1) := by decide +kernel
theorem d1_31 : decode prog_92_method_2_code 31 = .ok (.istore_n 2, 1) := by decide +kernel
theorem d1_32 : decode prog_92_method_2_code 32 = .ok (.iload_n 2, 1) := by decide +kernel
theorem d1_33 : decode prog_92_method_2_code 33 = .ok (.aload_n 1, 1) := by decide +kernel
theorem d1_34 : decode prog_92_method_2_code 34 = .ok (.arraylength, 1) := by decide +kernel
theorem d1_35 : decode prog_92_method_2_code 35 = .ok (.if_icmp .ge 17, 3) := by decide +kernel
theorem d1_38 : decode prog_92_method_2_code 38 = .ok (.aload_n 1, 1) := by decide +kernel
theorem d1_39 : decode prog_92_method_2_code 39 = .ok (.iload_n 2, 1) := by decide +kernel
theorem d1_40 : decode prog_92_method_2_code 40 = .ok (.sipush 4096, 3) := by decide +kernel
theorem d1_43 : decode prog_92_method_2_code 43 = .ok (.newarray .long, 2) := by decide +kernel
theorem d1_45 : decode prog_92_method_2_code 45 = .ok (.aastore, 1) := by decide +kernel
theorem d1_46 : decode prog_92_method_2_code 46 = .ok (.iinc 2 1, 3) := by decide +kernel
theorem d1_49 : decode prog_92_method_2_code 49 = .ok (.goto (-17), 3) := by decide +kernel
theorem d1_52 : decode prog_92_method_2_code 52 = .ok (.aload_n 1, 1) := by decide +kernel
theorem d1_53 : decode prog_92_method_2_code 53 = .ok (.areturn, 1) := by decide +kernel
theorem pf1 : plainFor (⟨"com/example/coterie/coterie/core/LongPages", "of", "(I)[[J"⟩ : MethodName) = true := by first | (exact plainFor_of_name (by first | (simp [plainName, overriddenIn]; done) | decide +kernel)) | decide +kernel
theorem d2_0 : decode prog_92_method_3_code 0 = .ok (.aload_n 0, 1) := by decide +kernel
theorem d2_1 : decode prog_92_method_3_code 1 = .ok (.arraylength, 1) := by decide +kernel
theorem d2_2 : decode prog_92_method_3_code 2 = .ok (.iconst 1, 1) := by decide +kernel
theorem d2_3 : decode prog_92_method_3_code 3 = .ok (.if_icmp .ne 10, 3) := by decide +kernel
theorem d2_6 : decode prog_92_method_3_code 6 = .ok (.aload_n 0, 1) := by decide +kernel
theorem d2_7 : decode prog_92_method_3_code 7 = .ok (.iconst 0, 1) := by decide +kernel
theorem d2_8 : decode prog_92_method_3_code 8 = .ok (.aaload, 1) := by decide +kernel
theorem d2_9 : decode prog_92_method_3_code 9 = .ok (.arraylength, 1) := by decide +kernel
theorem d2_10 : decode prog_92_method_3_code 10 = .ok (.goto 8, 3) := by decide +kernel
theorem d2_13 : decode prog_92_method_3_code 13 = .ok (.aload_n 0, 1) := by decide +kernel
theorem d2_14 : decode prog_92_method_3_code 14 = .ok (.arraylength, 1) := by decide +kernel
theorem d2_15 : decode prog_92_method_3_code 15 = .ok (.bipush 12, 2) := by decide +kernel
theorem d2_17 : decode prog_92_method_3_code 17 = .ok (.ishl, 1) := by decide +kernel
theorem d2_18 : decode prog_92_method_3_code 18 = .ok (.ireturn, 1) := by decide +kernel
theorem pf2 : plainFor (⟨"com/example/coterie/coterie/core/LongPages", "length", "([[J)I"⟩ : MethodName) = true := by first | (exact plainFor_of_name (by first | (simp [plainName, overriddenIn]; done) | decide +kernel)) | decide +kernel
theorem d3_0 : decode prog_92_method_4_code 0 = .ok (.aload_n 0, 1) := by decide +kernel
theorem d3_1 : decode prog_92_method_4_code 1 = .ok (.iload_n 1, 1) := by decide +kernel
theorem d3_2 : decode prog_92_method_4_code 2 = .ok (.bipush 12, 2) := by decide +kernel
theorem d3_4 : decode prog_92_method_4_code 4 = .ok (.iushr, 1) := by decide +kernel
theorem d3_5 : decode prog_92_method_4_code 5 = .ok (.aaload, 1) := by decide +kernel
theorem d3_6 : decode prog_92_method_4_code 6 = .ok (.iload_n 1, 1) := by decide +kernel
theorem d3_7 : decode prog_92_method_4_code 7 = .ok (.sipush 4095, 3) := by decide +kernel
theorem d3_10 : decode prog_92_method_4_code 10 = .ok (.iand, 1) := by decide +kernel
theorem d3_11 : decode prog_92_method_4_code 11 = .ok (.laload, 1) := by decide +kernel
theorem d3_12 : decode prog_92_method_4_code 12 = .ok (.lreturn, 1) := by decide +kernel
theorem pf3 : plainFor (⟨"com/example/coterie/coterie/core/LongPages", "get", "([[JI)J"⟩ : MethodName) = true := by first | (exact plainFor_of_name (by first | (simp [plainName, overriddenIn]; done) | decide +kernel)) | decide +kernel
theorem pf0 : plainFor x = true := plainFor_of_name (by first | (simp [x, plainName, overriddenIn]; done) | decide +kernel)
theorem pd0 : parseMethodDescriptor "(I)[[J" = some ⟨[.int], some (.array (.array .long))⟩ := by decide +kernel
theorem pd1 : parseMethodDescriptor "([[J)I" = some ⟨[(.array (.array .long))], some .int⟩ := by decide +kernel
theorem pd2 : parseMethodDescriptor "([[JI)J" = some ⟨[(.array (.array .long)), .int], some .long⟩ := by decide +kernel
theorem ef_rm1_1 (m : MethodId) (z0 : Int32) : entryFrame m #[(.int z0)] 3 = mkF m 0 #[.val (.int z0), .unset, .unset] [] := by first | (simp [entryFrame, mkF, argsToLocals, Value.category]; done) | rfl
set_option maxRecDepth 65536 in
set_option maxHeartbeats 40000000 in
theorem rm1_1 (l : Launch) (Z : State) (a0 : Array Value) (hw : ∀ d ∈ tables_1, d.before a0 Z = true) (ws : List Jvm.Cond) (N : Nat) (h0 : Heap) (n0 : Nat) (Z0 : n0 ≤ h0.size) (hN : N ≤ 4096) :
    own_Met l Z (⟨"com/example/coterie/coterie/core/LongPages", "of", "(I)[[J"⟩ : MethodName) prog_92_method_2_code 3 (some (.array (.array .long))) ({ frames := 0, cells := 2, slots := 4097, locals := 0 } : Room) ws #[(.int N.toInt32)] h0 (fun v h L => ∃ (a : Addr) (k : ClassId) (qs : List Addr), v = some (.ref a) ∧ Fr n0 L ∧ (h0.size ≤ h.size) ∧ own_Pg Z h a k 1 1 N.toInt32 qs) 2 4097 := by
  refine own_enter pf1 (fun m => ef_rm1_1 m N.toInt32) ?_
  intro p e s m below meth c T0 hx hby hml hown hnm hret hlk hZ X0 e0
  have N0 := Fr.nil n0
  show own_Go p e s below _ _ _ T0 (mkF m 0 #[.val (.int N.toInt32), .unset, .unset] [])
  have K_0 := Keep.refl h0 []
  refine own_st (fun _ k => XS.iloadN X0.here hx rfl (hb hby d1_0) rfl k) ?_
  show own_Go p e s below _ _ _ T0 (mkF m 1 #[.val (.int N.toInt32), .unset, .unset] [(.int N.toInt32)])
  refine own_st (fun _ k => XS.sipush X0.here hx rfl (hb hby d1_1) k) ?_
  show own_Go p e s below _ _ _ T0 (mkF m 4 #[.val (.int N.toInt32), .unset, .unset] [(.int (4096 : Int32)), (.int N.toInt32)])
  refine own_st (fun _ k => XS.icmpNo X0.here hx rfl (hb hby d1_4) rfl (flt (fun q => by rw [← show (4096 : Nat).toInt32 = (4096 : Int32) from by decide, own_lti (by omega) (by omega)] at q; omega)).2.2.1 k) ?_
  show own_Go p e s below _ _ _ T0 (mkF m 7 #[.val (.int N.toInt32), .unset, .unset] [])
  refine own_st (fun _ k => XS.iconst X0.here hx rfl (hb hby d1_7) k) ?_
  show own_Go p e s below _ _ _ T0 (mkF m 8 #[.val (.int N.toInt32), .unset, .unset] [(.int (1 : Int32))])
  obtain ⟨T1, h1, k1, X1, e1, E1, A1, Ex1, O1, st1⟩ := newRA X0 hx hZ hown (ty := .long) (C := "[J") (by decide) (hw _ (List.mem_of_getElem? (i := 5) rfl)) (hw _ (List.mem_of_getElem? (i := 6) rfl)) e0 (g := (mkF m 8 #[.val (.int N.toInt32), .unset, .unset] [(.int (1 : Int32))])) rfl (hb hby d1_8) rfl (by decide) (cap := 1) (by decide) (by decide) (by decide) (by decide) (ad := "[[J") (by decide)
  obtain ⟨a, g1⟩ : ∃ z, z = h0.size := ⟨_, rfl⟩
  rw [← g1] at A1 Ex1 st1
  have g_a : n0 ≤ a := Nat.le_trans Z0 (Nat.le_of_eq g1.symm)
  have Z2 := Nat.le_trans Z0 E1.1
  have K3 := K_0.ext E1
  have V_a : Arv Z h1 a k1 (.array .long) (1 : Int32) [] .null := Arv.new A1 (by decide)
  refine own_st st1 ?_
  show own_Go p e s below _ _ _ T1 (mkF m 11 #[.val (.int N.toInt32), .unset, .unset] [(.ref a)])
  have sz_a : h0.size ≤ a := Nat.le_of_eq g1.symm
  refine own_st (fun _ k => XS.dup X1.here hx rfl (hb hby d1_11) rfl rfl k) ?_
  show own_Go p e s below _ _ _ T1 (mkF m 12 #[.val (.int N.toInt32), .unset, .unset] [(.ref a), (.ref a)])
  refine own_st (fun _ k => XS.iconst X1.here hx rfl (hb hby d1_12) k) ?_
  show own_Go p e s below _ _ _ T1 (mkF m 13 #[.val (.int N.toInt32), .unset, .unset] [(.int (0 : Int32)), (.ref a), (.ref a)])
  refine own_st (fun _ k => XS.iloadN X1.here hx rfl (hb hby d1_13) rfl k) ?_
  show own_Go p e s below _ _ _ T1 (mkF m 14 #[.val (.int N.toInt32), .unset, .unset] [(.int N.toInt32), (.int (0 : Int32)), (.ref a), (.ref a)])
  obtain ⟨T4, h4, k4, X4, e4, E4, A4, Ex4, st4⟩ := newPE X1 hx hZ (hw _ (List.mem_of_getElem? (i := 7) rfl)) e1 (g := (mkF m 14 #[.val (.int N.toInt32), .unset, .unset] [(.int N.toInt32), (.int (0 : Int32)), (.ref a), (.ref a)])) rfl (hb hby d1_14) rfl (fun q => by rw [Int32.lt_iff_toInt_lt, own_it (by omega), show (0 : Int32).toInt = 0 from by decide] at q; omega) (cap := 4096) (by rw [Int32.toNatClampNeg, own_it (by omega)]; omega) (by decide) (by decide) (by decide) (ad := "[J") (by decide)
  obtain ⟨x', g4⟩ : ∃ z, z = h1.size := ⟨_, rfl⟩
  rw [← g4] at A4 Ex4 st4
  have Z5 := Nat.le_trans Z2 E4.1
  have K6 := K3.ext E4
  have V_x' : Arv Z h4 x' k4 .long N.toInt32 [] (.long (0 : Int64)) := Arv.new A4 (fun q => by rw [Int32.lt_iff_toInt_lt, own_it (by omega), show (0 : Int32).toInt = 0 from by decide] at q; omega)
  refine own_st st4 ?_
  show own_Go p e s below _ _ _ T4 (mkF m 16 #[.val (.int N.toInt32), .unset, .unset] [(.ref x'), (.int (0 : Int32)), (.ref a), (.ref a)])
  have V_a' : Arv Z h4 a k1 (.array .long) (1 : Nat).toInt32 ([] ++ [Value.null]) .null := (V_a.ext E4).pad (pad_rep [] .null 1)
  have G0 : own_Pg Z h1 a k1 1 0 N.toInt32 [] := own_Pg0 V_a
  obtain ⟨T7, h7, X7, e7, W7, V7, st7⟩ := own_stR X4 hx hZ e4 V_a' rfl (v := .ref x') (fun cl A q => Sto.ofVA A q O1 (Ins.self Ex4)) rfl (j := (0 : Int32)) ⟨by decide, by decide⟩ (by decide) (g := (mkF m 16 #[.val (.int N.toInt32), .unset, .unset] [(.ref x'), (.int (0 : Int32)), (.ref a), (.ref a)])) rfl rfl (hb hby d1_16)
  refine own_st st7 ?_
  have Z8 := Nat.le_trans Z5 (Keep.of_wr W7).1
  have K9 := K6.wr W7 (Or.inr sz_a)
  have N7 := Fr.snoc X7 N0 g_a
  show own_Go p e s below _ _ _ T7 (mkF m 17 #[.val (.int N.toInt32), .unset, .unset] [(.ref a)])
  exact own_retR X7 hx hlk hret rfl rfl rfl (hb hby d1_17) (by decide) (by decide) (by rw [e7]; exact ⟨a, k1, _, rfl, N7, K9.1, own_Pg_step G0 E4 g4 V_x' W7 V7⟩)
theorem ef_rm1_2 (m : MethodId) (z0 : Int32) : entryFrame m #[(.int z0)] 3 = mkF m 0 #[.val (.int z0), .unset, .unset] [] := by first | (simp [entryFrame, mkF, argsToLocals, Value.category]; done) | rfl
set_option maxRecDepth 65536 in
set_option maxHeartbeats 40000000 in
theorem rm1_2 (l : Launch) (Z : State) (a0 : Array Value) (hw : ∀ d ∈ tables_1, d.before a0 Z = true) (ws : List Jvm.Cond) (N P : Nat) (h0 : Heap) (n0 : Nat) (Z0 : n0 ≤ h0.size) (hN : 4096 < N) (hN2 : N ≤ 65535) (hP : P = (N + 4095) / 4096) :
    own_Met l Z (⟨"com/example/coterie/coterie/core/LongPages", "of", "(I)[[J"⟩ : MethodName) prog_92_method_2_code 3 (some (.array (.array .long))) ({ frames := 0, cells := 17, slots := 65552, locals := 0 } : Room) ws #[(.int N.toInt32)] h0 (fun v h L => ∃ (a : Addr) (k : ClassId) (qs : List Addr), v = some (.ref a) ∧ Fr n0 L ∧ (h0.size ≤ h.size) ∧ own_Pg Z h a k P P (4096 : Int32) qs) 17 65552 := by
  refine own_enter pf1 (fun m => ef_rm1_2 m N.toInt32) ?_
  intro p e s m below meth c T0 hx hby hml hown hnm hret hlk hZ X0 e0
  have N0 := Fr.nil n0
  show own_Go p e s below _ _ _ T0 (mkF m 0 #[.val (.int N.toInt32), .unset, .unset] [])
  refine own_st (fun _ k => XS.iloadN X0.here hx rfl (hb hby d1_0) rfl k) ?_
  show own_Go p e s below _ _ _ T0 (mkF m 1 #[.val (.int N.toInt32), .unset, .unset] [(.int N.toInt32)])
  refine own_st (fun _ k => XS.sipush X0.here hx rfl (hb hby d1_1) k) ?_
  show own_Go p e s below _ _ _ T0 (mkF m 4 #[.val (.int N.toInt32), .unset, .unset] [(.int (4096 : Int32)), (.int N.toInt32)])
  refine own_st (fun _ k => XS.icmpYes X0.here hx rfl (pc0 := 4) (pc' := 18) rfl (hb hby d1_4) rfl (tlt (by rw [← show (4096 : Nat).toInt32 = (4096 : Int32) from by decide, own_lti (by omega) (by omega)]; omega)).2.2.1 (by decide) (by decide) k) ?_
  show own_Go p e s below _ _ _ T0 (mkF m 18 #[.val (.int N.toInt32), .unset, .unset] [])
  refine own_st (fun _ k => XS.iloadN X0.here hx rfl (hb hby d1_18) rfl k) ?_
  show own_Go p e s below _ _ _ T0 (mkF m 19 #[.val (.int N.toInt32), .unset, .unset] [(.int N.toInt32)])
  refine own_st (fun _ k => XS.sipush X0.here hx rfl (hb hby d1_19) k) ?_
  show own_Go p e s below _ _ _ T0 (mkF m 22 #[.val (.int N.toInt32), .unset, .unset] [(.int (4095 : Int32)), (.int N.toInt32)])
  refine own_st (fun _ k => XS.iadd X0.here hx rfl (hb hby d1_22) rfl k) ?_
  show own_Go p e s below _ _ _ T0 (mkF m 23 #[.val (.int N.toInt32), .unset, .unset] [(.int (N.toInt32 + (4095 : Int32)))])
  refine own_st (fun _ k => XS.bipush X0.here hx rfl (hb hby d1_23) k) ?_
  show own_Go p e s below _ _ _ T0 (mkF m 25 #[.val (.int N.toInt32), .unset, .unset] [(.int (12 : Int32)), (.int (N.toInt32 + (4095 : Int32)))])
  refine own_st (fun _ k => XS.iushr X0.here hx rfl (hb hby d1_25) rfl k) ?_
  show own_Go p e s below _ _ _ T0 (mkF m 26 #[.val (.int N.toInt32), .unset, .unset] [(.int (((N.toInt32 + (4095 : Int32)).toUInt32 >>> ((12 : Int32) &&& 31).toUInt32).toInt32))])
  rw [own_ushr hN2, ← hP]
  show own_Go p e s below _ _ _ T0 (mkF m 26 #[.val (.int N.toInt32), .unset, .unset] [(.int P.toInt32)])
  obtain ⟨T10, h10, k10, X10, e10, E10, A10, Ex10, O10, st10⟩ := newRA X0 hx hZ hown (ty := .long) (C := "[J") (by decide) (hw _ (List.mem_of_getElem? (i := 5) rfl)) (hw _ (List.mem_of_getElem? (i := 6) rfl)) e0 (g := (mkF m 26 #[.val (.int N.toInt32), .unset, .unset] [(.int P.toInt32)])) rfl (hb hby d1_26) rfl (fun q => by rw [Int32.lt_iff_toInt_lt, own_it (by omega), show (0 : Int32).toInt = 0 from by decide] at q; omega) (cap := 16) (by rw [Int32.toNatClampNeg, own_it (by omega)]; omega) (by decide) (by decide) (by decide) (ad := "[[J") (by decide)
  obtain ⟨a, g10⟩ : ∃ z, z = h0.size := ⟨_, rfl⟩
  rw [← g10] at A10 Ex10 st10
  have g_a : n0 ≤ a := Nat.le_trans Z0 (Nat.le_of_eq g10.symm)
  have Z11 := Nat.le_trans Z0 E10.1
  have V_a : Arv Z h10 a k10 (.array .long) P.toInt32 [] .null := Arv.new A10 (fun q => by rw [Int32.lt_iff_toInt_lt, own_it (by omega), show (0 : Int32).toInt = 0 from by decide] at q; omega)
  refine own_st st10 ?_
  show own_Go p e s below _ _ _ T10 (mkF m 29 #[.val (.int N.toInt32), .unset, .unset] [(.ref a)])
  refine own_st (fun _ k => XS.astoreN X10.here hx rfl (hb hby d1_29) rfl rfl (l' := #[.val (.int N.toInt32), .val (.ref a), .unset]) rfl k) ?_
  show own_Go p e s below _ _ _ T10 (mkF m 30 #[.val (.int N.toInt32), .val (.ref a), .unset] [])
  refine own_st (fun _ k => XS.iconst X10.here hx rfl (hb hby d1_30) k) ?_
  show own_Go p e s below _ _ _ T10 (mkF m 31 #[.val (.int N.toInt32), .val (.ref a), .unset] [(.int (0 : Int32))])
  refine own_st (fun _ k => XS.istoreN X10.here hx rfl (hb hby d1_31) rfl (l' := #[.val (.int N.toInt32), .val (.ref a), .val (.int (0 : Int32))]) rfl k) ?_
  show own_Go p e s below _ _ _ T10 (mkF m 32 #[.val (.int N.toInt32), .val (.ref a), .val (.int (0 : Int32))] [])
  have loop : ∀ (r i : Nat) (T : State) (Ls : List Loc) (hh : Heap) (qs : List Addr), i + r = P → Stand p l e ({ frames := 0, cells := 17, slots := 65552, locals := 0 } : Room) s m #[(.int N.toInt32)] below meth c T Ls (1 + i) (16 + 4096 * i) → T.heap = hh → Fr n0 Ls → n0 ≤ hh.size → h0.size ≤ hh.size → own_Pg Z hh a k10 P i (4096 : Int32) qs → own_Go p e s below (fun (v : Option Value) (h : Heap) (L : List Loc) => ∃ (a : Addr) (k : ClassId) (qs : List Addr), v = some (.ref a) ∧ Fr n0 L ∧ (h0.size ≤ h.size) ∧ own_Pg Z h a k P P (4096 : Int32) qs) 17 65552 T (mkF m 32 #[.val (.int N.toInt32), .val (.ref a), .val (.int i.toInt32)] []) := by
    intro r
    induction r with
    | zero =>
      intro i T Ls hh qs hi X eT NF Zh Zk G
      obtain rfl : i = P := hi
      show own_Go p e s below _ _ _ T (mkF m 32 #[.val (.int N.toInt32), .val (.ref a), .val (.int i.toInt32)] [])
      refine own_st (fun _ k => XS.iloadN X.here hx rfl (hb hby d1_32) rfl k) ?_
      show own_Go p e s below _ _ _ T (mkF m 33 #[.val (.int N.toInt32), .val (.ref a), .val (.int i.toInt32)] [(.int i.toInt32)])
      refine own_st (fun _ k => XS.aloadN X.here hx rfl (hb hby d1_33) rfl rfl k) ?_
      show own_Go p e s below _ _ _ T (mkF m 34 #[.val (.int N.toInt32), .val (.ref a), .val (.int i.toInt32)] [(.ref a), (.int i.toInt32)])
      refine own_st (own_len X hx hZ eT G.2.1 (g := (mkF m 34 #[.val (.int N.toInt32), .val (.ref a), .val (.int i.toInt32)] [(.ref a), (.int i.toInt32)])) rfl rfl (hb hby d1_34)) ?_
      show own_Go p e s below _ _ _ T (mkF m 35 #[.val (.int N.toInt32), .val (.ref a), .val (.int i.toInt32)] [(.int i.toInt32), (.int i.toInt32)])
      refine own_st (fun _ k => XS.icmpYes X.here hx rfl (pc0 := 35) (pc' := 52) rfl (hb hby d1_35) rfl (flt (fun q => by rw [own_lti (by omega) (by omega)] at q; omega)).2.1 (by decide) (by decide) k) ?_
      show own_Go p e s below _ _ _ T (mkF m 52 #[.val (.int N.toInt32), .val (.ref a), .val (.int i.toInt32)] [])
      refine own_st (fun _ k => XS.aloadN X.here hx rfl (hb hby d1_52) rfl rfl k) ?_
      show own_Go p e s below _ _ _ T (mkF m 53 #[.val (.int N.toInt32), .val (.ref a), .val (.int i.toInt32)] [(.ref a)])
      exact own_retR X hx hlk hret rfl rfl rfl (hb hby d1_53) (by show _ ≤ 17; omega) (by show _ ≤ 65552; omega) (by rw [eT]; exact ⟨a, k10, qs, rfl, NF, Zk, G⟩)
    | succ r ih =>
      intro i T Ls hh qs hi X eT NF Zh Zk G
      show own_Go p e s below _ _ _ T (mkF m 32 #[.val (.int N.toInt32), .val (.ref a), .val (.int i.toInt32)] [])
      refine own_st (fun _ k => XS.iloadN X.here hx rfl (hb hby d1_32) rfl k) ?_
      show own_Go p e s below _ _ _ T (mkF m 33 #[.val (.int N.toInt32), .val (.ref a), .val (.int i.toInt32)] [(.int i.toInt32)])
      refine own_st (fun _ k => XS.aloadN X.here hx rfl (hb hby d1_33) rfl rfl k) ?_
      show own_Go p e s below _ _ _ T (mkF m 34 #[.val (.int N.toInt32), .val (.ref a), .val (.int i.toInt32)] [(.ref a), (.int i.toInt32)])
      refine own_st (own_len X hx hZ eT G.2.1 (g := (mkF m 34 #[.val (.int N.toInt32), .val (.ref a), .val (.int i.toInt32)] [(.ref a), (.int i.toInt32)])) rfl rfl (hb hby d1_34)) ?_
      show own_Go p e s below _ _ _ T (mkF m 35 #[.val (.int N.toInt32), .val (.ref a), .val (.int i.toInt32)] [(.int P.toInt32), (.int i.toInt32)])
      refine own_st (fun _ k => XS.icmpNo X.here hx rfl (hb hby d1_35) rfl (tlt (by rw [own_lti (by omega) (by omega)]; omega)).2.1 k) ?_
      show own_Go p e s below _ _ _ T (mkF m 38 #[.val (.int N.toInt32), .val (.ref a), .val (.int i.toInt32)] [])
      refine own_st (fun _ k => XS.aloadN X.here hx rfl (hb hby d1_38) rfl rfl k) ?_
      show own_Go p e s below _ _ _ T (mkF m 39 #[.val (.int N.toInt32), .val (.ref a), .val (.int i.toInt32)] [(.ref a)])
      refine own_st (fun _ k => XS.iloadN X.here hx rfl (hb hby d1_39) rfl k) ?_
      show own_Go p e s below _ _ _ T (mkF m 40 #[.val (.int N.toInt32), .val (.ref a), .val (.int i.toInt32)] [(.int i.toInt32), (.ref a)])
      refine own_st (fun _ k => XS.sipush X.here hx rfl (hb hby d1_40) k) ?_
      show own_Go p e s below _ _ _ T (mkF m 43 #[.val (.int N.toInt32), .val (.ref a), .val (.int i.toInt32)] [(.int (4096 : Int32)), (.int i.toInt32), (.ref a)])
      obtain ⟨T12, h12, k12, X12, e12, E12, A12, Ex12, st12⟩ := newPE X hx hZ (hw _ (List.mem_of_getElem? (i := 7) rfl)) eT (g := (mkF m 43 #[.val (.int N.toInt32), .val (.ref a), .val (.int i.toInt32)] [(.int (4096 : Int32)), (.int i.toInt32), (.ref a)])) rfl (hb hby d1_43) rfl (by decide) (cap := 4096) (by decide) (by decide) (by show _ ≤ 17; omega) (by show _ ≤ 65552; omega) (ad := "[J") (by decide)
      obtain ⟨x', g12⟩ : ∃ z, z = hh.size := ⟨_, rfl⟩
      rw [← g12] at A12 Ex12 st12
      have Z13 := Nat.le_trans Zh E12.1
      have V_x' : Arv Z h12 x' k12 .long (4096 : Int32) [] (.long (0 : Int64)) := Arv.new A12 (by decide)
      refine own_st st12 ?_
      show own_Go p e s below _ _ _ T12 (mkF m 45 #[.val (.int N.toInt32), .val (.ref a), .val (.int i.toInt32)] [(.ref x'), (.int i.toInt32), (.ref a)])
      have V_a' : Arv Z h12 a k10 (.array .long) P.toInt32 (qs.map Value.ref ++ [Value.null]) .null := (G.2.1.ext E12).pad (pad_rep _ .null 1)
      have ii := own_ixn (i := i) (n := P) (by omega) (by omega)
      obtain ⟨T14, h14, X14, e14, W14, V14, st14⟩ := own_stR X12 hx hZ e12 V_a' rfl (v := .ref x') (fun cl A q => Sto.ofVA A q O10 (Ins.self Ex12)) rfl (j := i.toInt32) ii.1 (by rw [ii.2]; simp [G.1]) (g := (mkF m 45 #[.val (.int N.toInt32), .val (.ref a), .val (.int i.toInt32)] [(.ref x'), (.int i.toInt32), (.ref a)])) rfl rfl (hb hby d1_45)
      refine own_st st14 ?_
      have Z15 := Nat.le_trans Z13 (Keep.of_wr W14).1
      have N14 := Fr.snoc X14 NF g_a
      show own_Go p e s below _ _ _ T14 (mkF m 46 #[.val (.int N.toInt32), .val (.ref a), .val (.int i.toInt32)] [])
      have G' := own_Pg_step G E12 g12 V_x' W14 (by have q := V14; rw [ii.2] at q; exact q)
      have up : (i.toInt32 + Int32.ofInt 1) = (i + 1).toInt32 := own_up i (by omega)
      refine own_st (fun _ k => XS.iinc X14.here hx rfl (hb hby d1_46) rfl (l' := #[.val (.int N.toInt32), .val (.ref a), .val (.int (i + 1).toInt32)]) (congrArg (fun z => some (#[.val (.int N.toInt32), .val (.ref a), .val (.int z)] : Array Slot)) up) k) ?_
      show own_Go p e s below _ _ _ T14 (mkF m 49 #[.val (.int N.toInt32), .val (.ref a), .val (.int (i + 1).toInt32)] [])
      refine own_st (fun _ k => XS.goto X14.here hx rfl (pc0 := 49) (pc' := 32) rfl (hb hby d1_49) (by decide) (by decide) k) ?_
      show own_Go p e s below _ _ _ T14 (mkF m 32 #[.val (.int N.toInt32), .val (.ref a), .val (.int (i + 1).toInt32)] [])
      exact ih (i + 1) _ _ _ _ (by omega) (X14.more (by omega) (by omega)) e14 N14 Z15 (Nat.le_trans Zk (Nat.le_trans E12.1 (Keep.of_wr W14).1)) G'
  exact loop P 0 _ _ _ [] (by omega) (X10.more (by decide) (by decide)) e10 N0 Z11 E10.1 (own_Pg0 V_a)
theorem ef_rm2 (m : MethodId) (z0 : Addr) : entryFrame m #[(.ref z0)] 1 = mkF m 0 #[.val (.ref z0)] [] := by first | (simp [entryFrame, mkF, argsToLocals, Value.category]; done) | rfl
set_option maxRecDepth 65536 in
set_option maxHeartbeats 40000000 in
theorem rm2 (l : Launch) (Z : State) (a0 : Array Value) (hw : ∀ d ∈ tables_1, d.before a0 Z = true) (ws : List Jvm.Cond) (a : Addr) (k : ClassId) (P : Nat) (M : Int32) (qs : List Addr) (h0 : Heap) (n0 : Nat) (Z0 : n0 ≤ h0.size) (G : own_Pg Z h0 a k P P M qs) (hP0 : 0 < P) (hP : P ≤ 16) :
    own_Met l Z (⟨"com/example/coterie/coterie/core/LongPages", "length", "([[J)I"⟩ : MethodName) prog_92_method_3_code 1 (some .int) ({ frames := 0, cells := 0, slots := 0, locals := 0 } : Room) ws #[(.ref a)] h0 (fun v h L => v = some (.int (if P = 1 then M else (P * 4096).toInt32)) ∧ Fr n0 L ∧ h = h0) 0 0 := by
  refine own_enter pf2 (fun m => ef_rm2 m a) ?_
  intro p e s m below meth c T0 hx hby hml hown hnm hret hlk hZ X0 e0
  have N0 := Fr.nil n0
  show own_Go p e s below _ _ _ T0 (mkF m 0 #[.val (.ref a)] [])
  refine own_st (fun _ k => XS.aloadN X0.here hx rfl (hb hby d2_0) rfl rfl k) ?_
  show own_Go p e s below _ _ _ T0 (mkF m 1 #[.val (.ref a)] [(.ref a)])
  refine own_st (own_len X0 hx hZ e0 G.2.1 (g := (mkF m 1 #[.val (.ref a)] [(.ref a)])) rfl rfl (hb hby d2_1)) ?_
  show own_Go p e s below _ _ _ T0 (mkF m 2 #[.val (.ref a)] [(.int P.toInt32)])
  refine own_st (fun _ k => XS.iconst X0.here hx rfl (hb hby d2_2) k) ?_
  show own_Go p e s below _ _ _ T0 (mkF m 3 #[.val (.ref a)] [(.int (1 : Int32)), (.int P.toInt32)])
  by_cases c1 : P.toInt32 = (1 : Int32)
  · have hP1 : P = 1 := by have b := own_it (n := P) (by omega); rw [c1] at b; have l : (1 : Int32).toInt = 1 := (by decide); omega
    refine own_st (fun _ k => XS.icmpNo X0.here hx rfl (hb hby d2_3) rfl (teq c1).2 k) ?_
    show own_Go p e s below _ _ _ T0 (mkF m 6 #[.val (.ref a)] [])
    refine own_st (fun _ k => XS.aloadN X0.here hx rfl (hb hby d2_6) rfl rfl k) ?_
    show own_Go p e s below _ _ _ T0 (mkF m 7 #[.val (.ref a)] [(.ref a)])
    refine own_st (fun _ k => XS.iconst X0.here hx rfl (hb hby d2_7) k) ?_
    show own_Go p e s below _ _ _ T0 (mkF m 8 #[.val (.ref a)] [(.int (0 : Int32)), (.ref a)])
    show own_Go p e s below _ _ _ T0 (mkF m 8 #[.val (.ref a)] [(.int (0 : Nat).toInt32), (.ref a)])
    refine own_st (own_ldR X0 hx hZ e0 G.2.1 rfl (j := (0 : Nat).toInt32) (v := .ref (qs.getD 0 0)) (own_ixn (i := 0) (n := P) hP0 (by omega)).1 (by rw [(own_ixn (i := 0) (n := P) hP0 (by omega)).2]; exact own_mg qs _ (by rw [G.1]; exact hP0)) (g := (mkF m 8 #[.val (.ref a)] [(.int (0 : Nat).toInt32), (.ref a)])) rfl rfl (hb hby d2_8)) ?_
    show own_Go p e s below _ _ _ T0 (mkF m 9 #[.val (.ref a)] [(.ref (qs.getD 0 0))])
    obtain ⟨nn0, kk0, VV0⟩ := G.2.2.1 0 hP0
    refine own_st (own_len X0 hx hZ e0 VV0 (g := (mkF m 9 #[.val (.ref a)] [(.ref (qs.getD 0 0))])) rfl rfl (hb hby d2_9)) ?_
    show own_Go p e s below _ _ _ T0 (mkF m 10 #[.val (.ref a)] [(.int M)])
    refine own_st (fun _ k => XS.goto X0.here hx rfl (pc0 := 10) (pc' := 18) rfl (hb hby d2_10) (by decide) (by decide) k) ?_
    show own_Go p e s below _ _ _ T0 (mkF m 18 #[.val (.ref a)] [(.int M)])
    exact own_retI X0 hx hlk hret (hb hby d2_18) (by decide) (by decide) ⟨by rw [if_pos hP1], N0, e0⟩
  refine own_st (fun _ k => XS.icmpYes X0.here hx rfl (pc0 := 3) (pc' := 13) rfl (hb hby d2_3) rfl (feq c1).2 (by decide) (by decide) k) ?_
  show own_Go p e s below _ _ _ T0 (mkF m 13 #[.val (.ref a)] [])
  have hP1 : ¬ P = 1 := fun q => c1 (by rw [q]; decide)
  refine own_st (fun _ k => XS.aloadN X0.here hx rfl (hb hby d2_13) rfl rfl k) ?_
  show own_Go p e s below _ _ _ T0 (mkF m 14 #[.val (.ref a)] [(.ref a)])
  refine own_st (own_len X0 hx hZ e0 G.2.1 (g := (mkF m 14 #[.val (.ref a)] [(.ref a)])) rfl rfl (hb hby d2_14)) ?_
  show own_Go p e s below _ _ _ T0 (mkF m 15 #[.val (.ref a)] [(.int P.toInt32)])
  refine own_st (fun _ k => XS.bipush X0.here hx rfl (hb hby d2_15) k) ?_
  show own_Go p e s below _ _ _ T0 (mkF m 17 #[.val (.ref a)] [(.int (12 : Int32)), (.int P.toInt32)])
  refine own_st (fun _ k => XS.ishl X0.here hx rfl (hb hby d2_17) rfl k) ?_
  show own_Go p e s below _ _ _ T0 (mkF m 18 #[.val (.ref a)] [(.int (P.toInt32 <<< ((12 : Int32) &&& 31)))])
  rw [own_shl hP]
  show own_Go p e s below _ _ _ T0 (mkF m 18 #[.val (.ref a)] [(.int (P * 4096).toInt32)])
  exact own_retI X0 hx hlk hret (hb hby d2_18) (by decide) (by decide) ⟨by rw [if_neg hP1], N0, e0⟩
theorem ef_rm3 (m : MethodId) (z0 : Addr) (z1 : Int32) : entryFrame m #[(.ref z0), (.int z1)] 2 = mkF m 0 #[.val (.ref z0), .val (.int z1)] [] := by first | (simp [entryFrame, mkF, argsToLocals, Value.category]; done) | rfl
set_option maxRecDepth 65536 in
set_option maxHeartbeats 40000000 in
theorem rm3 (l : Launch) (Z : State) (a0 : Array Value) (hw : ∀ d ∈ tables_1, d.before a0 Z = true) (ws : List Jvm.Cond) (a : Addr) (K : Nat) (k : ClassId) (P : Nat) (M : Int32) (qs : List Addr) (h0 : Heap) (n0 : Nat) (Z0 : n0 ≤ h0.size) (G : own_Pg Z h0 a k P P M qs) (hP0 : 0 < P) (hP : P ≤ 16) (hK : K < 2 ^ 31) (hK1 : K / 4096 < P) (hK2 : (K % 4096).toInt32 < M) :
    own_Met l Z (⟨"com/example/coterie/coterie/core/LongPages", "get", "([[JI)J"⟩ : MethodName) prog_92_method_4_code 2 (some .long) ({ frames := 0, cells := 0, slots := 0, locals := 0 } : Room) ws #[(.ref a), (.int K.toInt32)] h0 (fun v h L => v = some (.long (0 : Int64)) ∧ Fr n0 L ∧ h = h0) 0 0 := by
  refine own_enter pf3 (fun m => ef_rm3 m a K.toInt32) ?_
  intro p e s m below meth c T0 hx hby hml hown hnm hret hlk hZ X0 e0
  have N0 := Fr.nil n0
  show own_Go p e s below _ _ _ T0 (mkF m 0 #[.val (.ref a), .val (.int K.toInt32)] [])
  refine own_st (fun _ k => XS.aloadN X0.here hx rfl (hb hby d3_0) rfl rfl k) ?_
  show own_Go p e s below _ _ _ T0 (mkF m 1 #[.val (.ref a), .val (.int K.toInt32)] [(.ref a)])
  refine own_st (fun _ k => XS.iloadN X0.here hx rfl (hb hby d3_1) rfl k) ?_
  show own_Go p e s below _ _ _ T0 (mkF m 2 #[.val (.ref a), .val (.int K.toInt32)] [(.int K.toInt32), (.ref a)])
  refine own_st (fun _ k => XS.bipush X0.here hx rfl (hb hby d3_2) k) ?_
  show own_Go p e s below _ _ _ T0 (mkF m 4 #[.val (.ref a), .val (.int K.toInt32)] [(.int (12 : Int32)), (.int K.toInt32), (.ref a)])
  refine own_st (fun _ k => XS.iushr X0.here hx rfl (hb hby d3_4) rfl k) ?_
  show own_Go p e s below _ _ _ T0 (mkF m 5 #[.val (.ref a), .val (.int K.toInt32)] [(.int ((K.toInt32.toUInt32 >>> ((12 : Int32) &&& 31).toUInt32).toInt32)), (.ref a)])
  rw [own_gus hK]
  show own_Go p e s below _ _ _ T0 (mkF m 5 #[.val (.ref a), .val (.int K.toInt32)] [(.int (K / 4096).toInt32), (.ref a)])
  refine own_st (own_ldR X0 hx hZ e0 G.2.1 rfl (j := (K / 4096).toInt32) (v := .ref (qs.getD (K / 4096) 0)) (own_ixn (i := (K / 4096)) (n := P) hK1 (by omega)).1 (by rw [(own_ixn (i := (K / 4096)) (n := P) hK1 (by omega)).2]; exact own_mg qs _ (by rw [G.1]; exact hK1)) (g := (mkF m 5 #[.val (.ref a), .val (.int K.toInt32)] [(.int (K / 4096).toInt32), (.ref a)])) rfl rfl (hb hby d3_5)) ?_
  show own_Go p e s below _ _ _ T0 (mkF m 6 #[.val (.ref a), .val (.int K.toInt32)] [(.ref (qs.getD (K / 4096) 0))])
  obtain ⟨nn0, kk0, VV0⟩ := G.2.2.1 (K / 4096) hK1
  refine own_st (fun _ k => XS.iloadN X0.here hx rfl (hb hby d3_6) rfl k) ?_
  show own_Go p e s below _ _ _ T0 (mkF m 7 #[.val (.ref a), .val (.int K.toInt32)] [(.int K.toInt32), (.ref (qs.getD (K / 4096) 0))])
  refine own_st (fun _ k => XS.sipush X0.here hx rfl (hb hby d3_7) k) ?_
  show own_Go p e s below _ _ _ T0 (mkF m 10 #[.val (.ref a), .val (.int K.toInt32)] [(.int (4095 : Int32)), (.int K.toInt32), (.ref (qs.getD (K / 4096) 0))])
  refine own_st (fun _ k => XS.iand X0.here hx rfl (hb hby d3_10) rfl k) ?_
  show own_Go p e s below _ _ _ T0 (mkF m 11 #[.val (.ref a), .val (.int K.toInt32)] [(.int (K.toInt32 &&& (4095 : Int32))), (.ref (qs.getD (K / 4096) 0))])
  rw [own_and hK]
  show own_Go p e s below _ _ _ T0 (mkF m 11 #[.val (.ref a), .val (.int K.toInt32)] [(.int (K % 4096).toInt32), (.ref (qs.getD (K / 4096) 0))])
  refine own_st (own_ldJ X0 hx hZ e0 VV0 (j := (K % 4096).toInt32) (x := (0 : Int64)) ⟨fun q => by rw [Int32.lt_iff_toInt_lt, own_it (by omega), show (0 : Int32).toInt = 0 from by decide] at q; omega, hK2⟩ (by simp) (g := (mkF m 11 #[.val (.ref a), .val (.int K.toInt32)] [(.int (K % 4096).toInt32), (.ref (qs.getD (K / 4096) 0))])) rfl rfl (hb hby d3_11)) ?_
  show own_Go p e s below _ _ _ T0 (mkF m 12 #[.val (.ref a), .val (.int K.toInt32)] [(.long (0 : Int64))])
  exact own_retJ X0 hx hlk hret (hb hby d3_12) (by decide) (by decide) ⟨rfl, N0, e0⟩
theorem ef_rm0 (m : MethodId) (z0 : Int32) (z1 : Int32) (z2 : Int32) : entryFrame m #[(.int z0), (.int z1), (.int z2)] maxLocals = mkF m 0 #[.val (.int z0), .val (.int z1), .val (.int z2), .unset, .unset, .unset, .unset, .unset] [] := by first | (simp [entryFrame, mkF, argsToLocals, Value.category, maxLocals]; done) | rfl
set_option maxRecDepth 65536 in
set_option maxHeartbeats 40000000 in
theorem rm0 (l : Launch) (Z : State) (a0 : Array Value) (hw : ∀ d ∈ tables_1, d.before a0 Z = true) (ws : List Jvm.Cond) (p0 p1 p2 : Int32) (h0 : Heap) (n0 : Nat) (Z0 : n0 ≤ h0.size)  :
    own_Met l Z x code maxLocals ret room_1 ws #[(.int p0), (.int p1), (.int p2)] h0 (fun v h L => v = some (.int 1) ∧ Fr n0 L) 48 131200 := by
  refine own_enter pf0 (fun m => ef_rm0 m p0 p1 p2) ?_
  intro p e s m below meth c T0 hx hby hml hown hnm hret hlk hZ X0 e0
  have N0 := Fr.nil n0
  show own_Go p e s below _ _ _ T0 (mkF m 0 #[.val (.int p0), .val (.int p1), .val (.int p2), .unset, .unset, .unset, .unset, .unset] [])
  refine own_st (fun _ k => XS.iloadN X0.here hx rfl (hb hby at_0) rfl k) ?_
  show own_Go p e s below _ _ _ T0 (mkF m 1 #[.val (.int p0), .val (.int p1), .val (.int p2), .unset, .unset, .unset, .unset, .unset] [(.int p0)])
  refine own_st (X0.ldcInt hx hown (mvT hZ (hw _ (List.mem_of_getElem? (i := 0) rfl))) (g := (mkF m 1 #[.val (.int p0), .val (.int p1), .val (.int p2), .unset, .unset, .unset, .unset, .unset] [(.int p0)])) rfl (hb hby at_1)) ?_
  show own_Go p e s below _ _ _ T0 (mkF m 3 #[.val (.int p0), .val (.int p1), .val (.int p2), .unset, .unset, .unset, .unset, .unset] [(.int (65535 : Int32)), (.int p0)])
  refine own_st (fun _ k => XS.iand X0.here hx rfl (hb hby at_3) rfl k) ?_
  show own_Go p e s below _ _ _ T0 (mkF m 4 #[.val (.int p0), .val (.int p1), .val (.int p2), .unset, .unset, .unset, .unset, .unset] [(.int (p0 &&& (65535 : Int32)))])
  obtain ⟨N, hN, hNx⟩ := own_len0 p0
  rw [hNx]
  show own_Go p e s below _ _ _ T0 (mkF m 4 #[.val (.int p0), .val (.int p1), .val (.int p2), .unset, .unset, .unset, .unset, .unset] [(.int N.toInt32)])
  refine own_st (fun _ k => XS.istoreN X0.here hx rfl (hb hby at_4) rfl (l' := #[.val (.int p0), .val (.int p1), .val (.int p2), .val (.int N.toInt32), .unset, .unset, .unset, .unset]) rfl k) ?_
  show own_Go p e s below _ _ _ T0 (mkF m 5 #[.val (.int p0), .val (.int p1), .val (.int p2), .val (.int N.toInt32), .unset, .unset, .unset, .unset] [])
  refine own_st (fun _ k => XS.iloadN X0.here hx rfl (hb hby at_5) rfl k) ?_
  show own_Go p e s below _ _ _ T0 (mkF m 6 #[.val (.int p0), .val (.int p1), .val (.int p2), .val (.int N.toInt32), .unset, .unset, .unset, .unset] [(.int N.toInt32)])
  by_cases big : 4096 < N
  · show own_Go p e s below _ _ _ T0 (mkF m 6 #[.val (.int p0), .val (.int p1), .val (.int p2), .val (.int N.toInt32), .unset, .unset, .unset, .unset] [(.int N.toInt32)])
    obtain ⟨P, hPx⟩ : ∃ P, P = (N + 4095) / 4096 := ⟨_, rfl⟩
    refine own_callS X0 hx hZ (y := (⟨"com/example/coterie/coterie/core/LongPages", "of", "(I)[[J"⟩ : MethodName)) hown (hw _ (List.mem_of_getElem? (i := 1) rfl)) (hw _ (List.mem_of_getElem? (i := 2) rfl)) (hw _ (List.mem_of_getElem? (i := 3) rfl)) (hw _ (List.mem_of_getElem? (i := 4) rfl)) (by decide) e0 (rm1_2 l Z a0 hw [] N P h0 n0 Z0 big hN hPx) 0 (by decide) (by decide) (g := (mkF m 6 #[.val (.int p0), .val (.int p1), .val (.int p2), .val (.int N.toInt32), .unset, .unset, .unset, .unset] [(.int N.toInt32)])) rfl (by rw [hml]; rfl) (argsL := [(.int N.toInt32)]) (rest := []) pd0 rfl rfl rfl (by show 2 * 0 + _ ≤ _; exact Nat.le_of_eq rfl) (hb hby at_6) (by decide) (by decide) ?_
    intro T16 v16 L16 X16 hQ16
    obtain ⟨a, k, qs, rfl, N16q, Zk, G⟩ := hQ16
    have N16 := Fr.app N0 N16q
    have Z16 := Nat.le_trans Z0 Zk
    show own_Go p e s below _ _ _ T16 (mkF m 9 #[.val (.int p0), .val (.int p1), .val (.int p2), .val (.int N.toInt32), .unset, .unset, .unset, .unset] [(.ref a)])
    refine own_st (fun _ k => XS.astore X16.here hx rfl (hb hby at_9) rfl rfl (l' := #[.val (.int p0), .val (.int p1), .val (.int p2), .val (.int N.toInt32), .val (.ref a), .unset, .unset, .unset]) rfl k) ?_
    show own_Go p e s below _ _ _ T16 (mkF m 11 #[.val (.int p0), .val (.int p1), .val (.int p2), .val (.int N.toInt32), .val (.ref a), .unset, .unset, .unset] [])
    refine own_st (fun _ k => XS.iloadN X16.here hx rfl (hb hby at_11) rfl k) ?_
    show own_Go p e s below _ _ _ T16 (mkF m 12 #[.val (.int p0), .val (.int p1), .val (.int p2), .val (.int N.toInt32), .val (.ref a), .unset, .unset, .unset] [(.int N.toInt32)])
    refine own_st (fun _ k => XS.sipush X16.here hx rfl (hb hby at_12) k) ?_
    show own_Go p e s below _ _ _ T16 (mkF m 15 #[.val (.int p0), .val (.int p1), .val (.int p2), .val (.int N.toInt32), .val (.ref a), .unset, .unset, .unset] [(.int (4096 : Int32)), (.int N.toInt32)])
    refine own_st (fun _ k => XS.icmpYes X16.here hx rfl (pc0 := 15) (pc' := 44) rfl (hb hby at_15) rfl (tlt (by rw [← show (4096 : Nat).toInt32 = (4096 : Int32) from by decide, own_lti (by omega) (by omega)]; omega)).2.2.1 (by decide) (by decide) k) ?_
    show own_Go p e s below _ _ _ T16 (mkF m 44 #[.val (.int p0), .val (.int p1), .val (.int p2), .val (.int N.toInt32), .val (.ref a), .unset, .unset, .unset] [])
    refine own_st (fun _ k => XS.iloadN X16.here hx rfl (hb hby at_44) rfl k) ?_
    show own_Go p e s below _ _ _ T16 (mkF m 45 #[.val (.int p0), .val (.int p1), .val (.int p2), .val (.int N.toInt32), .val (.ref a), .unset, .unset, .unset] [(.int N.toInt32)])
    refine own_st (fun _ k => XS.sipush X16.here hx rfl (hb hby at_45) k) ?_
    show own_Go p e s below _ _ _ T16 (mkF m 48 #[.val (.int p0), .val (.int p1), .val (.int p2), .val (.int N.toInt32), .val (.ref a), .unset, .unset, .unset] [(.int (4095 : Int32)), (.int N.toInt32)])
    refine own_st (fun _ k => XS.iadd X16.here hx rfl (hb hby at_48) rfl k) ?_
    show own_Go p e s below _ _ _ T16 (mkF m 49 #[.val (.int p0), .val (.int p1), .val (.int p2), .val (.int N.toInt32), .val (.ref a), .unset, .unset, .unset] [(.int (N.toInt32 + (4095 : Int32)))])
    refine own_st (fun _ k => XS.sipush X16.here hx rfl (hb hby at_49) k) ?_
    show own_Go p e s below _ _ _ T16 (mkF m 52 #[.val (.int p0), .val (.int p1), .val (.int p2), .val (.int N.toInt32), .val (.ref a), .unset, .unset, .unset] [(.int (4096 : Int32)), (.int (N.toInt32 + (4095 : Int32)))])
    refine own_st (fun _ k => XS.idiv X16.here hx rfl (hb hby at_52) rfl (by decide) k) ?_
    show own_Go p e s below _ _ _ T16 (mkF m 53 #[.val (.int p0), .val (.int p1), .val (.int p2), .val (.int N.toInt32), .val (.ref a), .unset, .unset, .unset] [(.int ((N.toInt32 + (4095 : Int32)) / (4096 : Int32)))])
    rw [own_div hN, ← hPx]
    show own_Go p e s below _ _ _ T16 (mkF m 53 #[.val (.int p0), .val (.int p1), .val (.int p2), .val (.int N.toInt32), .val (.ref a), .unset, .unset, .unset] [(.int P.toInt32)])
    refine own_st (fun _ k => XS.istore X16.here hx rfl (hb hby at_53) rfl (l' := #[.val (.int p0), .val (.int p1), .val (.int p2), .val (.int N.toInt32), .val (.ref a), .unset, .val (.int P.toInt32), .unset]) rfl k) ?_
    show own_Go p e s below _ _ _ T16 (mkF m 55 #[.val (.int p0), .val (.int p1), .val (.int p2), .val (.int N.toInt32), .val (.ref a), .unset, .val (.int P.toInt32), .unset] [])
    refine own_st (fun _ k => XS.aload X16.here hx rfl (hb hby at_55) rfl rfl k) ?_
    show own_Go p e s below _ _ _ T16 (mkF m 57 #[.val (.int p0), .val (.int p1), .val (.int p2), .val (.int N.toInt32), .val (.ref a), .unset, .val (.int P.toInt32), .unset] [(.ref a)])
    refine own_st (own_len X16 hx hZ rfl G.2.1 (g := (mkF m 57 #[.val (.int p0), .val (.int p1), .val (.int p2), .val (.int N.toInt32), .val (.ref a), .unset, .val (.int P.toInt32), .unset] [(.ref a)])) rfl rfl (hb hby at_57)) ?_
    show own_Go p e s below _ _ _ T16 (mkF m 58 #[.val (.int p0), .val (.int p1), .val (.int p2), .val (.int N.toInt32), .val (.ref a), .unset, .val (.int P.toInt32), .unset] [(.int P.toInt32)])
    refine own_st (fun _ k => XS.iload X16.here hx rfl (hb hby at_58) rfl k) ?_
    show own_Go p e s below _ _ _ T16 (mkF m 60 #[.val (.int p0), .val (.int p1), .val (.int p2), .val (.int N.toInt32), .val (.ref a), .unset, .val (.int P.toInt32), .unset] [(.int P.toInt32), (.int P.toInt32)])
    refine own_st (fun _ k => XS.icmpYes X16.here hx rfl (pc0 := 60) (pc' := 65) rfl (hb hby at_60) rfl (teq rfl).1 (by decide) (by decide) k) ?_
    show own_Go p e s below _ _ _ T16 (mkF m 65 #[.val (.int p0), .val (.int p1), .val (.int p2), .val (.int N.toInt32), .val (.ref a), .unset, .val (.int P.toInt32), .unset] [])
    refine own_st (fun _ k => XS.iloadN X16.here hx rfl (hb hby at_65) rfl k) ?_
    show own_Go p e s below _ _ _ T16 (mkF m 66 #[.val (.int p0), .val (.int p1), .val (.int p2), .val (.int N.toInt32), .val (.ref a), .unset, .val (.int P.toInt32), .unset] [(.int p1)])
    refine own_st (X16.ldcInt hx hown (mvT hZ (hw _ (List.mem_of_getElem? (i := 12) rfl))) (g := (mkF m 66 #[.val (.int p0), .val (.int p1), .val (.int p2), .val (.int N.toInt32), .val (.ref a), .unset, .val (.int P.toInt32), .unset] [(.int p1)])) rfl (hb hby at_66)) ?_
    show own_Go p e s below _ _ _ T16 (mkF m 68 #[.val (.int p0), .val (.int p1), .val (.int p2), .val (.int N.toInt32), .val (.ref a), .unset, .val (.int P.toInt32), .unset] [(.int (2147483647 : Int32)), (.int p1)])
    refine own_st (fun _ k => XS.iand X16.here hx rfl (hb hby at_68) rfl k) ?_
    show own_Go p e s below _ _ _ T16 (mkF m 69 #[.val (.int p0), .val (.int p1), .val (.int p2), .val (.int N.toInt32), .val (.ref a), .unset, .val (.int P.toInt32), .unset] [(.int (p1 &&& (2147483647 : Int32)))])
    refine own_st (fun _ k => XS.iload X16.here hx rfl (hb hby at_69) rfl k) ?_
    show own_Go p e s below _ _ _ T16 (mkF m 71 #[.val (.int p0), .val (.int p1), .val (.int p2), .val (.int N.toInt32), .val (.ref a), .unset, .val (.int P.toInt32), .unset] [(.int P.toInt32), (.int (p1 &&& (2147483647 : Int32)))])
    refine own_st (fun _ k => Jvm.RoadKit.iremM X16 hx rfl (hb hby at_71) rfl (own_nz (n := P) (by omega) (by omega)) k) ?_
    show own_Go p e s below _ _ _ T16 (mkF m 72 #[.val (.int p0), .val (.int p1), .val (.int p2), .val (.int N.toInt32), .val (.ref a), .unset, .val (.int P.toInt32), .unset] [(.int ((p1 &&& (2147483647 : Int32)) % P.toInt32))])
    obtain ⟨J, hJ, hJx⟩ := own_mod p1 (n := P) (by omega) (by omega)
    rw [hJx]
    show own_Go p e s below _ _ _ T16 (mkF m 72 #[.val (.int p0), .val (.int p1), .val (.int p2), .val (.int N.toInt32), .val (.ref a), .unset, .val (.int P.toInt32), .unset] [(.int J.toInt32)])
    have dn : P.toInt32 - (1 : Int32) = (P - 1).toInt32 := by have q := own_dn (P - 1) (by omega); rw [show P - 1 + 1 = P by omega] at q; exact q
    obtain ⟨nn0, kk0, VV0⟩ := G.2.2.1 0 (by omega)
    obtain ⟨nn1, kk1, VV1⟩ := G.2.2.1 (P - 1) (by omega)
    obtain ⟨nn2, kk2, VV2⟩ := G.2.2.1 J hJ
    refine own_st (fun _ k => XS.istore X16.here hx rfl (hb hby at_72) rfl (l' := #[.val (.int p0), .val (.int p1), .val (.int p2), .val (.int N.toInt32), .val (.ref a), .unset, .val (.int P.toInt32), .val (.int J.toInt32)]) rfl k) ?_
    show own_Go p e s below _ _ _ T16 (mkF m 74 #[.val (.int p0), .val (.int p1), .val (.int p2), .val (.int N.toInt32), .val (.ref a), .unset, .val (.int P.toInt32), .val (.int J.toInt32)] [])
    refine own_st (fun _ k => XS.aload X16.here hx rfl (hb hby at_74) rfl rfl k) ?_
    show own_Go p e s below _ _ _ T16 (mkF m 76 #[.val (.int p0), .val (.int p1), .val (.int p2), .val (.int N.toInt32), .val (.ref a), .unset, .val (.int P.toInt32), .val (.int J.toInt32)] [(.ref a)])
    refine own_st (fun _ k => XS.iconst X16.here hx rfl (hb hby at_76) k) ?_
    show own_Go p e s below _ _ _ T16 (mkF m 77 #[.val (.int p0), .val (.int p1), .val (.int p2), .val (.int N.toInt32), .val (.ref a), .unset, .val (.int P.toInt32), .val (.int J.toInt32)] [(.int (0 : Int32)), (.ref a)])
    show own_Go p e s below _ _ _ T16 (mkF m 77 #[.val (.int p0), .val (.int p1), .val (.int p2), .val (.int N.toInt32), .val (.ref a), .unset, .val (.int P.toInt32), .val (.int J.toInt32)] [(.int (0 : Nat).toInt32), (.ref a)])
    refine own_st (own_ldR X16 hx hZ rfl G.2.1 rfl (j := (0 : Nat).toInt32) (v := .ref (qs.getD 0 0)) (own_ixn (i := 0) (n := P) (by omega : 0 < P) (by omega)).1 (by rw [(own_ixn (i := 0) (n := P) (by omega : 0 < P) (by omega)).2]; exact own_mg qs _ (by rw [G.1]; exact (by omega : 0 < P))) (g := (mkF m 77 #[.val (.int p0), .val (.int p1), .val (.int p2), .val (.int N.toInt32), .val (.ref a), .unset, .val (.int P.toInt32), .val (.int J.toInt32)] [(.int (0 : Nat).toInt32), (.ref a)])) rfl rfl (hb hby at_77)) ?_
    show own_Go p e s below _ _ _ T16 (mkF m 78 #[.val (.int p0), .val (.int p1), .val (.int p2), .val (.int N.toInt32), .val (.ref a), .unset, .val (.int P.toInt32), .val (.int J.toInt32)] [(.ref (qs.getD 0 0))])
    refine own_st (fun _ k => XS.ifnullNo X16.here hx rfl (hb hby at_78) rfl k) ?_
    show own_Go p e s below _ _ _ T16 (mkF m 81 #[.val (.int p0), .val (.int p1), .val (.int p2), .val (.int N.toInt32), .val (.ref a), .unset, .val (.int P.toInt32), .val (.int J.toInt32)] [])
    refine own_st (fun _ k => XS.aload X16.here hx rfl (hb hby at_81) rfl rfl k) ?_
    show own_Go p e s below _ _ _ T16 (mkF m 83 #[.val (.int p0), .val (.int p1), .val (.int p2), .val (.int N.toInt32), .val (.ref a), .unset, .val (.int P.toInt32), .val (.int J.toInt32)] [(.ref a)])
    refine own_st (fun _ k => XS.iload X16.here hx rfl (hb hby at_83) rfl k) ?_
    show own_Go p e s below _ _ _ T16 (mkF m 85 #[.val (.int p0), .val (.int p1), .val (.int p2), .val (.int N.toInt32), .val (.ref a), .unset, .val (.int P.toInt32), .val (.int J.toInt32)] [(.int P.toInt32), (.ref a)])
    refine own_st (fun _ k => XS.iconst X16.here hx rfl (hb hby at_85) k) ?_
    show own_Go p e s below _ _ _ T16 (mkF m 86 #[.val (.int p0), .val (.int p1), .val (.int p2), .val (.int N.toInt32), .val (.ref a), .unset, .val (.int P.toInt32), .val (.int J.toInt32)] [(.int (1 : Int32)), (.int P.toInt32), (.ref a)])
    refine own_st (fun _ k => XS.isub X16.here hx rfl (hb hby at_86) rfl k) ?_
    show own_Go p e s below _ _ _ T16 (mkF m 87 #[.val (.int p0), .val (.int p1), .val (.int p2), .val (.int N.toInt32), .val (.ref a), .unset, .val (.int P.toInt32), .val (.int J.toInt32)] [(.int (P.toInt32 - (1 : Int32))), (.ref a)])
    rw [dn]
    show own_Go p e s below _ _ _ T16 (mkF m 87 #[.val (.int p0), .val (.int p1), .val (.int p2), .val (.int N.toInt32), .val (.ref a), .unset, .val (.int P.toInt32), .val (.int J.toInt32)] [(.int (P - 1).toInt32), (.ref a)])
    refine own_st (own_ldR X16 hx hZ rfl G.2.1 rfl (j := (P - 1).toInt32) (v := .ref (qs.getD (P - 1) 0)) (own_ixn (i := (P - 1)) (n := P) (by omega : P - 1 < P) (by omega)).1 (by rw [(own_ixn (i := (P - 1)) (n := P) (by omega : P - 1 < P) (by omega)).2]; exact own_mg qs _ (by rw [G.1]; exact (by omega : P - 1 < P))) (g := (mkF m 87 #[.val (.int p0), .val (.int p1), .val (.int p2), .val (.int N.toInt32), .val (.ref a), .unset, .val (.int P.toInt32), .val (.int J.toInt32)] [(.int (P - 1).toInt32), (.ref a)])) rfl rfl (hb hby at_87)) ?_
    show own_Go p e s below _ _ _ T16 (mkF m 88 #[.val (.int p0), .val (.int p1), .val (.int p2), .val (.int N.toInt32), .val (.ref a), .unset, .val (.int P.toInt32), .val (.int J.toInt32)] [(.ref (qs.getD (P - 1) 0))])
    refine own_st (fun _ k => XS.ifnullNo X16.here hx rfl (hb hby at_88) rfl k) ?_
    show own_Go p e s below _ _ _ T16 (mkF m 91 #[.val (.int p0), .val (.int p1), .val (.int p2), .val (.int N.toInt32), .val (.ref a), .unset, .val (.int P.toInt32), .val (.int J.toInt32)] [])
    refine own_st (fun _ k => XS.aload X16.here hx rfl (hb hby at_91) rfl rfl k) ?_
    show own_Go p e s below _ _ _ T16 (mkF m 93 #[.val (.int p0), .val (.int p1), .val (.int p2), .val (.int N.toInt32), .val (.ref a), .unset, .val (.int P.toInt32), .val (.int J.toInt32)] [(.ref a)])
    refine own_st (fun _ k => XS.iload X16.here hx rfl (hb hby at_93) rfl k) ?_
    show own_Go p e s below _ _ _ T16 (mkF m 95 #[.val (.int p0), .val (.int p1), .val (.int p2), .val (.int N.toInt32), .val (.ref a), .unset, .val (.int P.toInt32), .val (.int J.toInt32)] [(.int J.toInt32), (.ref a)])
    refine own_st (own_ldR X16 hx hZ rfl G.2.1 rfl (j := J.toInt32) (v := .ref (qs.getD J 0)) (own_ixn (i := J) (n := P) hJ (by omega)).1 (by rw [(own_ixn (i := J) (n := P) hJ (by omega)).2]; exact own_mg qs _ (by rw [G.1]; exact hJ)) (g := (mkF m 95 #[.val (.int p0), .val (.int p1), .val (.int p2), .val (.int N.toInt32), .val (.ref a), .unset, .val (.int P.toInt32), .val (.int J.toInt32)] [(.int J.toInt32), (.ref a)])) rfl rfl (hb hby at_95)) ?_
    show own_Go p e s below _ _ _ T16 (mkF m 96 #[.val (.int p0), .val (.int p1), .val (.int p2), .val (.int N.toInt32), .val (.ref a), .unset, .val (.int P.toInt32), .val (.int J.toInt32)] [(.ref (qs.getD J 0))])
    refine own_st (fun _ k => XS.ifnonnullYes X16.here hx rfl (pc0 := 96) (pc' := 101) rfl (hb hby at_96) rfl (by decide) (by decide) k) ?_
    show own_Go p e s below _ _ _ T16 (mkF m 101 #[.val (.int p0), .val (.int p1), .val (.int p2), .val (.int N.toInt32), .val (.ref a), .unset, .val (.int P.toInt32), .val (.int J.toInt32)] [])
    refine own_st (fun _ k => XS.aload X16.here hx rfl (hb hby at_101) rfl rfl k) ?_
    show own_Go p e s below _ _ _ T16 (mkF m 103 #[.val (.int p0), .val (.int p1), .val (.int p2), .val (.int N.toInt32), .val (.ref a), .unset, .val (.int P.toInt32), .val (.int J.toInt32)] [(.ref a)])
    refine own_st (fun _ k => XS.iconst X16.here hx rfl (hb hby at_103) k) ?_
    show own_Go p e s below _ _ _ T16 (mkF m 104 #[.val (.int p0), .val (.int p1), .val (.int p2), .val (.int N.toInt32), .val (.ref a), .unset, .val (.int P.toInt32), .val (.int J.toInt32)] [(.int (0 : Int32)), (.ref a)])
    show own_Go p e s below _ _ _ T16 (mkF m 104 #[.val (.int p0), .val (.int p1), .val (.int p2), .val (.int N.toInt32), .val (.ref a), .unset, .val (.int P.toInt32), .val (.int J.toInt32)] [(.int (0 : Nat).toInt32), (.ref a)])
    refine own_st (own_ldR X16 hx hZ rfl G.2.1 rfl (j := (0 : Nat).toInt32) (v := .ref (qs.getD 0 0)) (own_ixn (i := 0) (n := P) (by omega : 0 < P) (by omega)).1 (by rw [(own_ixn (i := 0) (n := P) (by omega : 0 < P) (by omega)).2]; exact own_mg qs _ (by rw [G.1]; exact (by omega : 0 < P))) (g := (mkF m 104 #[.val (.int p0), .val (.int p1), .val (.int p2), .val (.int N.toInt32), .val (.ref a), .unset, .val (.int P.toInt32), .val (.int J.toInt32)] [(.int (0 : Nat).toInt32), (.ref a)])) rfl rfl (hb hby at_104)) ?_
    show own_Go p e s below _ _ _ T16 (mkF m 105 #[.val (.int p0), .val (.int p1), .val (.int p2), .val (.int N.toInt32), .val (.ref a), .unset, .val (.int P.toInt32), .val (.int J.toInt32)] [(.ref (qs.getD 0 0))])
    refine own_st (own_len X16 hx hZ rfl VV0 (g := (mkF m 105 #[.val (.int p0), .val (.int p1), .val (.int p2), .val (.int N.toInt32), .val (.ref a), .unset, .val (.int P.toInt32), .val (.int J.toInt32)] [(.ref (qs.getD 0 0))])) rfl rfl (hb hby at_105)) ?_
    show own_Go p e s below _ _ _ T16 (mkF m 106 #[.val (.int p0), .val (.int p1), .val (.int p2), .val (.int N.toInt32), .val (.ref a), .unset, .val (.int P.toInt32), .val (.int J.toInt32)] [(.int (4096 : Int32))])
    refine own_st (fun _ k => XS.sipush X16.here hx rfl (hb hby at_106) k) ?_
    show own_Go p e s below _ _ _ T16 (mkF m 109 #[.val (.int p0), .val (.int p1), .val (.int p2), .val (.int N.toInt32), .val (.ref a), .unset, .val (.int P.toInt32), .val (.int J.toInt32)] [(.int (4096 : Int32)), (.int (4096 : Int32))])
    refine own_st (fun _ k => XS.icmpNo X16.here hx rfl (hb hby at_109) rfl (teq rfl).2 k) ?_
    show own_Go p e s below _ _ _ T16 (mkF m 112 #[.val (.int p0), .val (.int p1), .val (.int p2), .val (.int N.toInt32), .val (.ref a), .unset, .val (.int P.toInt32), .val (.int J.toInt32)] [])
    refine own_st (fun _ k => XS.aload X16.here hx rfl (hb hby at_112) rfl rfl k) ?_
    show own_Go p e s below _ _ _ T16 (mkF m 114 #[.val (.int p0), .val (.int p1), .val (.int p2), .val (.int N.toInt32), .val (.ref a), .unset, .val (.int P.toInt32), .val (.int J.toInt32)] [(.ref a)])
    refine own_st (fun _ k => XS.iload X16.here hx rfl (hb hby at_114) rfl k) ?_
    show own_Go p e s below _ _ _ T16 (mkF m 116 #[.val (.int p0), .val (.int p1), .val (.int p2), .val (.int N.toInt32), .val (.ref a), .unset, .val (.int P.toInt32), .val (.int J.toInt32)] [(.int P.toInt32), (.ref a)])
    refine own_st (fun _ k => XS.iconst X16.here hx rfl (hb hby at_116) k) ?_
    show own_Go p e s below _ _ _ T16 (mkF m 117 #[.val (.int p0), .val (.int p1), .val (.int p2), .val (.int N.toInt32), .val (.ref a), .unset, .val (.int P.toInt32), .val (.int J.toInt32)] [(.int (1 : Int32)), (.int P.toInt32), (.ref a)])
    refine own_st (fun _ k => XS.isub X16.here hx rfl (hb hby at_117) rfl k) ?_
    show own_Go p e s below _ _ _ T16 (mkF m 118 #[.val (.int p0), .val (.int p1), .val (.int p2), .val (.int N.toInt32), .val (.ref a), .unset, .val (.int P.toInt32), .val (.int J.toInt32)] [(.int (P.toInt32 - (1 : Int32))), (.ref a)])
    rw [dn]
    show own_Go p e s below _ _ _ T16 (mkF m 118 #[.val (.int p0), .val (.int p1), .val (.int p2), .val (.int N.toInt32), .val (.ref a), .unset, .val (.int P.toInt32), .val (.int J.toInt32)] [(.int (P - 1).toInt32), (.ref a)])
    refine own_st (own_ldR X16 hx hZ rfl G.2.1 rfl (j := (P - 1).toInt32) (v := .ref (qs.getD (P - 1) 0)) (own_ixn (i := (P - 1)) (n := P) (by omega : P - 1 < P) (by omega)).1 (by rw [(own_ixn (i := (P - 1)) (n := P) (by omega : P - 1 < P) (by omega)).2]; exact own_mg qs _ (by rw [G.1]; exact (by omega : P - 1 < P))) (g := (mkF m 118 #[.val (.int p0), .val (.int p1), .val (.int p2), .val (.int N.toInt32), .val (.ref a), .unset, .val (.int P.toInt32), .val (.int J.toInt32)] [(.int (P - 1).toInt32), (.ref a)])) rfl rfl (hb hby at_118)) ?_
    show own_Go p e s below _ _ _ T16 (mkF m 119 #[.val (.int p0), .val (.int p1), .val (.int p2), .val (.int N.toInt32), .val (.ref a), .unset, .val (.int P.toInt32), .val (.int J.toInt32)] [(.ref (qs.getD (P - 1) 0))])
    refine own_st (own_len X16 hx hZ rfl VV1 (g := (mkF m 119 #[.val (.int p0), .val (.int p1), .val (.int p2), .val (.int N.toInt32), .val (.ref a), .unset, .val (.int P.toInt32), .val (.int J.toInt32)] [(.ref (qs.getD (P - 1) 0))])) rfl rfl (hb hby at_119)) ?_
    show own_Go p e s below _ _ _ T16 (mkF m 120 #[.val (.int p0), .val (.int p1), .val (.int p2), .val (.int N.toInt32), .val (.ref a), .unset, .val (.int P.toInt32), .val (.int J.toInt32)] [(.int (4096 : Int32))])
    refine own_st (fun _ k => XS.sipush X16.here hx rfl (hb hby at_120) k) ?_
    show own_Go p e s below _ _ _ T16 (mkF m 123 #[.val (.int p0), .val (.int p1), .val (.int p2), .val (.int N.toInt32), .val (.ref a), .unset, .val (.int P.toInt32), .val (.int J.toInt32)] [(.int (4096 : Int32)), (.int (4096 : Int32))])
    refine own_st (fun _ k => XS.icmpNo X16.here hx rfl (hb hby at_123) rfl (teq rfl).2 k) ?_
    show own_Go p e s below _ _ _ T16 (mkF m 126 #[.val (.int p0), .val (.int p1), .val (.int p2), .val (.int N.toInt32), .val (.ref a), .unset, .val (.int P.toInt32), .val (.int J.toInt32)] [])
    refine own_st (fun _ k => XS.aload X16.here hx rfl (hb hby at_126) rfl rfl k) ?_
    show own_Go p e s below _ _ _ T16 (mkF m 128 #[.val (.int p0), .val (.int p1), .val (.int p2), .val (.int N.toInt32), .val (.ref a), .unset, .val (.int P.toInt32), .val (.int J.toInt32)] [(.ref a)])
    refine own_st (fun _ k => XS.iload X16.here hx rfl (hb hby at_128) rfl k) ?_
    show own_Go p e s below _ _ _ T16 (mkF m 130 #[.val (.int p0), .val (.int p1), .val (.int p2), .val (.int N.toInt32), .val (.ref a), .unset, .val (.int P.toInt32), .val (.int J.toInt32)] [(.int J.toInt32), (.ref a)])
    refine own_st (own_ldR X16 hx hZ rfl G.2.1 rfl (j := J.toInt32) (v := .ref (qs.getD J 0)) (own_ixn (i := J) (n := P) hJ (by omega)).1 (by rw [(own_ixn (i := J) (n := P) hJ (by omega)).2]; exact own_mg qs _ (by rw [G.1]; exact hJ)) (g := (mkF m 130 #[.val (.int p0), .val (.int p1), .val (.int p2), .val (.int N.toInt32), .val (.ref a), .unset, .val (.int P.toInt32), .val (.int J.toInt32)] [(.int J.toInt32), (.ref a)])) rfl rfl (hb hby at_130)) ?_
    show own_Go p e s below _ _ _ T16 (mkF m 131 #[.val (.int p0), .val (.int p1), .val (.int p2), .val (.int N.toInt32), .val (.ref a), .unset, .val (.int P.toInt32), .val (.int J.toInt32)] [(.ref (qs.getD J 0))])
    refine own_st (own_len X16 hx hZ rfl VV2 (g := (mkF m 131 #[.val (.int p0), .val (.int p1), .val (.int p2), .val (.int N.toInt32), .val (.ref a), .unset, .val (.int P.toInt32), .val (.int J.toInt32)] [(.ref (qs.getD J 0))])) rfl rfl (hb hby at_131)) ?_
    show own_Go p e s below _ _ _ T16 (mkF m 132 #[.val (.int p0), .val (.int p1), .val (.int p2), .val (.int N.toInt32), .val (.ref a), .unset, .val (.int P.toInt32), .val (.int J.toInt32)] [(.int (4096 : Int32))])
    refine own_st (fun _ k => XS.sipush X16.here hx rfl (hb hby at_132) k) ?_
    show own_Go p e s below _ _ _ T16 (mkF m 135 #[.val (.int p0), .val (.int p1), .val (.int p2), .val (.int N.toInt32), .val (.ref a), .unset, .val (.int P.toInt32), .val (.int J.toInt32)] [(.int (4096 : Int32)), (.int (4096 : Int32))])
    refine own_st (fun _ k => XS.icmpYes X16.here hx rfl (pc0 := 135) (pc' := 140) rfl (hb hby at_135) rfl (teq rfl).1 (by decide) (by decide) k) ?_
    show own_Go p e s below _ _ _ T16 (mkF m 140 #[.val (.int p0), .val (.int p1), .val (.int p2), .val (.int N.toInt32), .val (.ref a), .unset, .val (.int P.toInt32), .val (.int J.toInt32)] [])
    refine own_st (fun _ k => XS.aload X16.here hx rfl (hb hby at_140) rfl rfl k) ?_
    show own_Go p e s below _ _ _ T16 (mkF m 142 #[.val (.int p0), .val (.int p1), .val (.int p2), .val (.int N.toInt32), .val (.ref a), .unset, .val (.int P.toInt32), .val (.int J.toInt32)] [(.ref a)])
    refine own_st (fun _ k => XS.iconst X16.here hx rfl (hb hby at_142) k) ?_
    show own_Go p e s below _ _ _ T16 (mkF m 143 #[.val (.int p0), .val (.int p1), .val (.int p2), .val (.int N.toInt32), .val (.ref a), .unset, .val (.int P.toInt32), .val (.int J.toInt32)] [(.int (0 : Int32)), (.ref a)])
    show own_Go p e s below _ _ _ T16 (mkF m 143 #[.val (.int p0), .val (.int p1), .val (.int p2), .val (.int N.toInt32), .val (.ref a), .unset, .val (.int P.toInt32), .val (.int J.toInt32)] [(.int (0 : Nat).toInt32), (.ref a)])
    refine own_st (own_ldR X16 hx hZ rfl G.2.1 rfl (j := (0 : Nat).toInt32) (v := .ref (qs.getD 0 0)) (own_ixn (i := 0) (n := P) (by omega : 0 < P) (by omega)).1 (by rw [(own_ixn (i := 0) (n := P) (by omega : 0 < P) (by omega)).2]; exact own_mg qs _ (by rw [G.1]; exact (by omega : 0 < P))) (g := (mkF m 143 #[.val (.int p0), .val (.int p1), .val (.int p2), .val (.int N.toInt32), .val (.ref a), .unset, .val (.int P.toInt32), .val (.int J.toInt32)] [(.int (0 : Nat).toInt32), (.ref a)])) rfl rfl (hb hby at_143)) ?_
    show own_Go p e s below _ _ _ T16 (mkF m 144 #[.val (.int p0), .val (.int p1), .val (.int p2), .val (.int N.toInt32), .val (.ref a), .unset, .val (.int P.toInt32), .val (.int J.toInt32)] [(.ref (qs.getD 0 0))])
    refine own_st (fun _ k => XS.aload X16.here hx rfl (hb hby at_144) rfl rfl k) ?_
    show own_Go p e s below _ _ _ T16 (mkF m 146 #[.val (.int p0), .val (.int p1), .val (.int p2), .val (.int N.toInt32), .val (.ref a), .unset, .val (.int P.toInt32), .val (.int J.toInt32)] [(.ref a), (.ref (qs.getD 0 0))])
    refine own_st (fun _ k => XS.iload X16.here hx rfl (hb hby at_146) rfl k) ?_
    show own_Go p e s below _ _ _ T16 (mkF m 148 #[.val (.int p0), .val (.int p1), .val (.int p2), .val (.int N.toInt32), .val (.ref a), .unset, .val (.int P.toInt32), .val (.int J.toInt32)] [(.int P.toInt32), (.ref a), (.ref (qs.getD 0 0))])
    refine own_st (fun _ k => XS.iconst X16.here hx rfl (hb hby at_148) k) ?_
    show own_Go p e s below _ _ _ T16 (mkF m 149 #[.val (.int p0), .val (.int p1), .val (.int p2), .val (.int N.toInt32), .val (.ref a), .unset, .val (.int P.toInt32), .val (.int J.toInt32)] [(.int (1 : Int32)), (.int P.toInt32), (.ref a), (.ref (qs.getD 0 0))])
    refine own_st (fun _ k => XS.isub X16.here hx rfl (hb hby at_149) rfl k) ?_
    show own_Go p e s below _ _ _ T16 (mkF m 150 #[.val (.int p0), .val (.int p1), .val (.int p2), .val (.int N.toInt32), .val (.ref a), .unset, .val (.int P.toInt32), .val (.int J.toInt32)] [(.int (P.toInt32 - (1 : Int32))), (.ref a), (.ref (qs.getD 0 0))])
    rw [dn]
    show own_Go p e s below _ _ _ T16 (mkF m 150 #[.val (.int p0), .val (.int p1), .val (.int p2), .val (.int N.toInt32), .val (.ref a), .unset, .val (.int P.toInt32), .val (.int J.toInt32)] [(.int (P - 1).toInt32), (.ref a), (.ref (qs.getD 0 0))])
    refine own_st (own_ldR X16 hx hZ rfl G.2.1 rfl (j := (P - 1).toInt32) (v := .ref (qs.getD (P - 1) 0)) (own_ixn (i := (P - 1)) (n := P) (by omega : P - 1 < P) (by omega)).1 (by rw [(own_ixn (i := (P - 1)) (n := P) (by omega : P - 1 < P) (by omega)).2]; exact own_mg qs _ (by rw [G.1]; exact (by omega : P - 1 < P))) (g := (mkF m 150 #[.val (.int p0), .val (.int p1), .val (.int p2), .val (.int N.toInt32), .val (.ref a), .unset, .val (.int P.toInt32), .val (.int J.toInt32)] [(.int (P - 1).toInt32), (.ref a), (.ref (qs.getD 0 0))])) rfl rfl (hb hby at_150)) ?_
    show own_Go p e s below _ _ _ T16 (mkF m 151 #[.val (.int p0), .val (.int p1), .val (.int p2), .val (.int N.toInt32), .val (.ref a), .unset, .val (.int P.toInt32), .val (.int J.toInt32)] [(.ref (qs.getD (P - 1) 0)), (.ref (qs.getD 0 0))])
    refine own_st (fun _ k => Jvm.RoadKit.acmp (g := (mkF m 151 #[.val (.int p0), .val (.int p1), .val (.int p2), .val (.int N.toInt32), .val (.ref a), .unset, .val (.int P.toInt32), .val (.int J.toInt32)] [(.ref (qs.getD (P - 1) 0)), (.ref (qs.getD 0 0))])) X16 hx rfl rfl rfl (pc0 := 151) (pc' := 156) (same := false) rfl (hb hby at_151) rfl (decide_eq_false fun q => G.2.2.2 (P - 1) (by omega) (by omega) (Value.ref.inj q)) (by decide) (by decide) k) ?_
    show own_Go p e s below _ _ _ T16 (mkF m 156 #[.val (.int p0), .val (.int p1), .val (.int p2), .val (.int N.toInt32), .val (.ref a), .unset, .val (.int P.toInt32), .val (.int J.toInt32)] [])
    refine own_st (fun _ k => XS.aload X16.here hx rfl (hb hby at_156) rfl rfl k) ?_
    show own_Go p e s below _ _ _ T16 (mkF m 158 #[.val (.int p0), .val (.int p1), .val (.int p2), .val (.int N.toInt32), .val (.ref a), .unset, .val (.int P.toInt32), .val (.int J.toInt32)] [(.ref a)])
    refine own_st (fun _ k => XS.iload X16.here hx rfl (hb hby at_158) rfl k) ?_
    show own_Go p e s below _ _ _ T16 (mkF m 160 #[.val (.int p0), .val (.int p1), .val (.int p2), .val (.int N.toInt32), .val (.ref a), .unset, .val (.int P.toInt32), .val (.int J.toInt32)] [(.int J.toInt32), (.ref a)])
    refine own_st (own_ldR X16 hx hZ rfl G.2.1 rfl (j := J.toInt32) (v := .ref (qs.getD J 0)) (own_ixn (i := J) (n := P) hJ (by omega)).1 (by rw [(own_ixn (i := J) (n := P) hJ (by omega)).2]; exact own_mg qs _ (by rw [G.1]; exact hJ)) (g := (mkF m 160 #[.val (.int p0), .val (.int p1), .val (.int p2), .val (.int N.toInt32), .val (.ref a), .unset, .val (.int P.toInt32), .val (.int J.toInt32)] [(.int J.toInt32), (.ref a)])) rfl rfl (hb hby at_160)) ?_
    show own_Go p e s below _ _ _ T16 (mkF m 161 #[.val (.int p0), .val (.int p1), .val (.int p2), .val (.int N.toInt32), .val (.ref a), .unset, .val (.int P.toInt32), .val (.int J.toInt32)] [(.ref (qs.getD J 0))])
    refine own_st (fun _ k => XS.iloadN X16.here hx rfl (hb hby at_161) rfl k) ?_
    show own_Go p e s below _ _ _ T16 (mkF m 162 #[.val (.int p0), .val (.int p1), .val (.int p2), .val (.int N.toInt32), .val (.ref a), .unset, .val (.int P.toInt32), .val (.int J.toInt32)] [(.int p2), (.ref (qs.getD J 0))])
    refine own_st (X16.ldcInt hx hown (mvT hZ (hw _ (List.mem_of_getElem? (i := 12) rfl))) (g := (mkF m 162 #[.val (.int p0), .val (.int p1), .val (.int p2), .val (.int N.toInt32), .val (.ref a), .unset, .val (.int P.toInt32), .val (.int J.toInt32)] [(.int p2), (.ref (qs.getD J 0))])) rfl (hb hby at_162)) ?_
    show own_Go p e s below _ _ _ T16 (mkF m 164 #[.val (.int p0), .val (.int p1), .val (.int p2), .val (.int N.toInt32), .val (.ref a), .unset, .val (.int P.toInt32), .val (.int J.toInt32)] [(.int (2147483647 : Int32)), (.int p2), (.ref (qs.getD J 0))])
    refine own_st (fun _ k => XS.iand X16.here hx rfl (hb hby at_164) rfl k) ?_
    show own_Go p e s below _ _ _ T16 (mkF m 165 #[.val (.int p0), .val (.int p1), .val (.int p2), .val (.int N.toInt32), .val (.ref a), .unset, .val (.int P.toInt32), .val (.int J.toInt32)] [(.int (p2 &&& (2147483647 : Int32))), (.ref (qs.getD J 0))])
    refine own_st (fun _ k => XS.sipush X16.here hx rfl (hb hby at_165) k) ?_
    show own_Go p e s below _ _ _ T16 (mkF m 168 #[.val (.int p0), .val (.int p1), .val (.int p2), .val (.int N.toInt32), .val (.ref a), .unset, .val (.int P.toInt32), .val (.int J.toInt32)] [(.int (4096 : Int32)), (.int (p2 &&& (2147483647 : Int32))), (.ref (qs.getD J 0))])
    refine own_st (fun _ k => Jvm.RoadKit.iremM X16 hx rfl (hb hby at_168) rfl (by decide) k) ?_
    show own_Go p e s below _ _ _ T16 (mkF m 169 #[.val (.int p0), .val (.int p1), .val (.int p2), .val (.int N.toInt32), .val (.ref a), .unset, .val (.int P.toInt32), .val (.int J.toInt32)] [(.int ((p2 &&& (2147483647 : Int32)) % (4096 : Int32))), (.ref (qs.getD J 0))])
    obtain ⟨I', hI, hIx⟩ := own_mod p2 (n := 4096) (by decide) (by decide)
    rw [show (4096 : Nat).toInt32 = (4096 : Int32) from by decide] at hIx
    rw [hIx]
    show own_Go p e s below _ _ _ T16 (mkF m 169 #[.val (.int p0), .val (.int p1), .val (.int p2), .val (.int N.toInt32), .val (.ref a), .unset, .val (.int P.toInt32), .val (.int J.toInt32)] [(.int I'.toInt32), (.ref (qs.getD J 0))])
    refine own_st (own_ldJ X16 hx hZ rfl VV2 (j := I'.toInt32) (x := (0 : Int64)) (own_ixn (i := I') (n := 4096) hI (by decide)).1 (by simp) (g := (mkF m 169 #[.val (.int p0), .val (.int p1), .val (.int p2), .val (.int N.toInt32), .val (.ref a), .unset, .val (.int P.toInt32), .val (.int J.toInt32)] [(.int I'.toInt32), (.ref (qs.getD J 0))])) rfl rfl (hb hby at_169)) ?_
    show own_Go p e s below _ _ _ T16 (mkF m 170 #[.val (.int p0), .val (.int p1), .val (.int p2), .val (.int N.toInt32), .val (.ref a), .unset, .val (.int P.toInt32), .val (.int J.toInt32)] [(.long (0 : Int64))])
    refine own_st (fun _ k => XS.lconst X16.here hx rfl (hb hby at_170) k) ?_
    show own_Go p e s below _ _ _ T16 (mkF m 171 #[.val (.int p0), .val (.int p1), .val (.int p2), .val (.int N.toInt32), .val (.ref a), .unset, .val (.int P.toInt32), .val (.int J.toInt32)] [(.long (0 : Int64)), (.long (0 : Int64))])
    refine own_st (fun _ k => XS.lcmp X16.here hx rfl (hb hby at_171) rfl k) ?_
    show own_Go p e s below _ _ _ T16 (mkF m 172 #[.val (.int p0), .val (.int p1), .val (.int p2), .val (.int N.toInt32), .val (.ref a), .unset, .val (.int P.toInt32), .val (.int J.toInt32)] [(.int (lcmpW (0 : Int64) (0 : Int64)))])
    refine own_st (fun _ k => XS.ifYes X16.here hx rfl (pc0 := 172) (pc' := 177) rfl (hb hby at_172) rfl ((if0 _ _).trans (teq ((lw_eq _ _).mpr rfl)).1) (by decide) (by decide) k) ?_
    show own_Go p e s below _ _ _ T16 (mkF m 177 #[.val (.int p0), .val (.int p1), .val (.int p2), .val (.int N.toInt32), .val (.ref a), .unset, .val (.int P.toInt32), .val (.int J.toInt32)] [])
    refine own_st (fun _ k => XS.iload X16.here hx rfl (hb hby at_177) rfl k) ?_
    show own_Go p e s below _ _ _ T16 (mkF m 179 #[.val (.int p0), .val (.int p1), .val (.int p2), .val (.int N.toInt32), .val (.ref a), .unset, .val (.int P.toInt32), .val (.int J.toInt32)] [(.int P.toInt32)])
    refine own_st (fun _ k => XS.sipush X16.here hx rfl (hb hby at_179) k) ?_
    show own_Go p e s below _ _ _ T16 (mkF m 182 #[.val (.int p0), .val (.int p1), .val (.int p2), .val (.int N.toInt32), .val (.ref a), .unset, .val (.int P.toInt32), .val (.int J.toInt32)] [(.int (4096 : Int32)), (.int P.toInt32)])
    refine own_st (fun _ k => XS.imul X16.here hx rfl (hb hby at_182) rfl k) ?_
    show own_Go p e s below _ _ _ T16 (mkF m 183 #[.val (.int p0), .val (.int p1), .val (.int p2), .val (.int N.toInt32), .val (.ref a), .unset, .val (.int P.toInt32), .val (.int J.toInt32)] [(.int (P.toInt32 * (4096 : Int32)))])
    rw [own_mul (P := P) (by omega)]
    show own_Go p e s below _ _ _ T16 (mkF m 183 #[.val (.int p0), .val (.int p1), .val (.int p2), .val (.int N.toInt32), .val (.ref a), .unset, .val (.int P.toInt32), .val (.int J.toInt32)] [(.int (P * 4096).toInt32)])
    refine own_st (fun _ k => XS.istore X16.here hx rfl (hb hby at_183) rfl (l' := #[.val (.int p0), .val (.int p1), .val (.int p2), .val (.int N.toInt32), .val (.ref a), .val (.int (P * 4096).toInt32), .val (.int P.toInt32), .val (.int J.toInt32)]) rfl k) ?_
    show own_Go p e s below _ _ _ T16 (mkF m 185 #[.val (.int p0), .val (.int p1), .val (.int p2), .val (.int N.toInt32), .val (.ref a), .val (.int (P * 4096).toInt32), .val (.int P.toInt32), .val (.int J.toInt32)] [])
    refine own_st (fun _ k => XS.aload X16.here hx rfl (hb hby at_185) rfl rfl k) ?_
    show own_Go p e s below _ _ _ T16 (mkF m 187 #[.val (.int p0), .val (.int p1), .val (.int p2), .val (.int N.toInt32), .val (.ref a), .val (.int (P * 4096).toInt32), .val (.int P.toInt32), .val (.int J.toInt32)] [(.ref a)])
    refine own_callS X16 hx hZ (y := (⟨"com/example/coterie/coterie/core/LongPages", "length", "([[J)I"⟩ : MethodName)) hown (hw _ (List.mem_of_getElem? (i := 9) rfl)) (hw _ (List.mem_of_getElem? (i := 10) rfl)) (hw _ (List.mem_of_getElem? (i := 3) rfl)) (hw _ (List.mem_of_getElem? (i := 11) rfl)) (by decide) rfl (rm2 l Z a0 hw [] a k P (4096 : Int32) qs T16.heap n0 Z16 G (by omega) (by omega)) 0 (by decide) (by decide) (g := (mkF m 187 #[.val (.int p0), .val (.int p1), .val (.int p2), .val (.int N.toInt32), .val (.ref a), .val (.int (P * 4096).toInt32), .val (.int P.toInt32), .val (.int J.toInt32)] [(.ref a)])) rfl (by rw [hml]; rfl) (argsL := [(.ref a)]) (rest := []) pd1 rfl rfl rfl (by show 2 * 0 + _ ≤ _; exact Nat.le_of_eq rfl) (hb hby at_187) (by decide) (by decide) ?_
    intro T17 v17 L17 X17 hQ17
    obtain ⟨rfl, N17q, e17⟩ := hQ17
    have N17 := Fr.app N16 N17q
    rw [if_neg (by omega : ¬ P = 1)]
    show own_Go p e s below _ _ _ T17 (mkF m 190 #[.val (.int p0), .val (.int p1), .val (.int p2), .val (.int N.toInt32), .val (.ref a), .val (.int (P * 4096).toInt32), .val (.int P.toInt32), .val (.int J.toInt32)] [(.int (P * 4096).toInt32)])
    refine own_st (fun _ k => XS.istore X17.here hx rfl (hb hby at_190) rfl (l' := #[.val (.int p0), .val (.int p1), .val (.int p2), .val (.int N.toInt32), .val (.ref a), .val (.int (P * 4096).toInt32), .val (.int (P * 4096).toInt32), .val (.int J.toInt32)]) rfl k) ?_
    show own_Go p e s below _ _ _ T17 (mkF m 192 #[.val (.int p0), .val (.int p1), .val (.int p2), .val (.int N.toInt32), .val (.ref a), .val (.int (P * 4096).toInt32), .val (.int (P * 4096).toInt32), .val (.int J.toInt32)] [])
    refine own_st (fun _ k => XS.iload X17.here hx rfl (hb hby at_192) rfl k) ?_
    show own_Go p e s below _ _ _ T17 (mkF m 194 #[.val (.int p0), .val (.int p1), .val (.int p2), .val (.int N.toInt32), .val (.ref a), .val (.int (P * 4096).toInt32), .val (.int (P * 4096).toInt32), .val (.int J.toInt32)] [(.int (P * 4096).toInt32)])
    refine own_st (fun _ k => XS.iload X17.here hx rfl (hb hby at_194) rfl k) ?_
    show own_Go p e s below _ _ _ T17 (mkF m 196 #[.val (.int p0), .val (.int p1), .val (.int p2), .val (.int N.toInt32), .val (.ref a), .val (.int (P * 4096).toInt32), .val (.int (P * 4096).toInt32), .val (.int J.toInt32)] [(.int (P * 4096).toInt32), (.int (P * 4096).toInt32)])
    refine own_st (fun _ k => XS.icmpYes X17.here hx rfl (pc0 := 196) (pc' := 201) rfl (hb hby at_196) rfl (teq rfl).1 (by decide) (by decide) k) ?_
    show own_Go p e s below _ _ _ T17 (mkF m 201 #[.val (.int p0), .val (.int p1), .val (.int p2), .val (.int N.toInt32), .val (.ref a), .val (.int (P * 4096).toInt32), .val (.int (P * 4096).toInt32), .val (.int J.toInt32)] [])
    refine own_st (fun _ k => XS.iload X17.here hx rfl (hb hby at_201) rfl k) ?_
    show own_Go p e s below _ _ _ T17 (mkF m 203 #[.val (.int p0), .val (.int p1), .val (.int p2), .val (.int N.toInt32), .val (.ref a), .val (.int (P * 4096).toInt32), .val (.int (P * 4096).toInt32), .val (.int J.toInt32)] [(.int (P * 4096).toInt32)])
    refine own_st (fun _ k => XS.iloadN X17.here hx rfl (hb hby at_203) rfl k) ?_
    show own_Go p e s below _ _ _ T17 (mkF m 204 #[.val (.int p0), .val (.int p1), .val (.int p2), .val (.int N.toInt32), .val (.ref a), .val (.int (P * 4096).toInt32), .val (.int (P * 4096).toInt32), .val (.int J.toInt32)] [(.int N.toInt32), (.int (P * 4096).toInt32)])
    refine own_st (fun _ k => XS.icmpNo X17.here hx rfl (hb hby at_204) rfl (flt (fun q => by rw [own_lti (by omega) (by omega)] at q; omega)).1 k) ?_
    show own_Go p e s below _ _ _ T17 (mkF m 207 #[.val (.int p0), .val (.int p1), .val (.int p2), .val (.int N.toInt32), .val (.ref a), .val (.int (P * 4096).toInt32), .val (.int (P * 4096).toInt32), .val (.int J.toInt32)] [])
    refine own_st (fun _ k => XS.iload X17.here hx rfl (hb hby at_207) rfl k) ?_
    show own_Go p e s below _ _ _ T17 (mkF m 209 #[.val (.int p0), .val (.int p1), .val (.int p2), .val (.int N.toInt32), .val (.ref a), .val (.int (P * 4096).toInt32), .val (.int (P * 4096).toInt32), .val (.int J.toInt32)] [(.int (P * 4096).toInt32)])
    refine own_st (fun _ k => XS.iloadN X17.here hx rfl (hb hby at_209) rfl k) ?_
    show own_Go p e s below _ _ _ T17 (mkF m 210 #[.val (.int p0), .val (.int p1), .val (.int p2), .val (.int N.toInt32), .val (.ref a), .val (.int (P * 4096).toInt32), .val (.int (P * 4096).toInt32), .val (.int J.toInt32)] [(.int N.toInt32), (.int (P * 4096).toInt32)])
    refine own_st (fun _ k => XS.isub X17.here hx rfl (hb hby at_210) rfl k) ?_
    show own_Go p e s below _ _ _ T17 (mkF m 211 #[.val (.int p0), .val (.int p1), .val (.int p2), .val (.int N.toInt32), .val (.ref a), .val (.int (P * 4096).toInt32), .val (.int (P * 4096).toInt32), .val (.int J.toInt32)] [(.int ((P * 4096).toInt32 - N.toInt32))])
    refine own_st (fun _ k => XS.sipush X17.here hx rfl (hb hby at_211) k) ?_
    show own_Go p e s below _ _ _ T17 (mkF m 214 #[.val (.int p0), .val (.int p1), .val (.int p2), .val (.int N.toInt32), .val (.ref a), .val (.int (P * 4096).toInt32), .val (.int (P * 4096).toInt32), .val (.int J.toInt32)] [(.int (4096 : Int32)), (.int ((P * 4096).toInt32 - N.toInt32))])
    refine own_st (fun _ k => XS.icmpYes X17.here hx rfl (pc0 := 214) (pc' := 219) rfl (hb hby at_214) rfl (tlt (own_sb (P := P) (N := N) (by omega) (by omega) (by omega))).1 (by decide) (by decide) k) ?_
    show own_Go p e s below _ _ _ T17 (mkF m 219 #[.val (.int p0), .val (.int p1), .val (.int p2), .val (.int N.toInt32), .val (.ref a), .val (.int (P * 4096).toInt32), .val (.int (P * 4096).toInt32), .val (.int J.toInt32)] [])
    refine own_st (fun _ k => XS.iload X17.here hx rfl (hb hby at_219) rfl k) ?_
    show own_Go p e s below _ _ _ T17 (mkF m 221 #[.val (.int p0), .val (.int p1), .val (.int p2), .val (.int N.toInt32), .val (.ref a), .val (.int (P * 4096).toInt32), .val (.int (P * 4096).toInt32), .val (.int J.toInt32)] [(.int (P * 4096).toInt32)])
    by_cases pos : 0 < (P * 4096)
    · have posI : (0 : Int32) < ((P * 4096)).toInt32 := by rw [← show (0 : Nat).toInt32 = (0 : Int32) from by decide, own_lti (by omega) (by omega)]; omega
      refine own_st (fun _ k => XS.ifNo X17.here hx rfl (hb hby at_221) rfl ((if0 _ _).trans (tlt posI).2.2.2) k) ?_
      show own_Go p e s below _ _ _ T17 (mkF m 224 #[.val (.int p0), .val (.int p1), .val (.int p2), .val (.int N.toInt32), .val (.ref a), .val (.int (P * 4096).toInt32), .val (.int (P * 4096).toInt32), .val (.int J.toInt32)] [])
      refine own_st (fun _ k => XS.iloadN X17.here hx rfl (hb hby at_224) rfl k) ?_
      show own_Go p e s below _ _ _ T17 (mkF m 225 #[.val (.int p0), .val (.int p1), .val (.int p2), .val (.int N.toInt32), .val (.ref a), .val (.int (P * 4096).toInt32), .val (.int (P * 4096).toInt32), .val (.int J.toInt32)] [(.int p2)])
      refine own_st (X17.ldcInt hx hown (mvT hZ (hw _ (List.mem_of_getElem? (i := 12) rfl))) (g := (mkF m 225 #[.val (.int p0), .val (.int p1), .val (.int p2), .val (.int N.toInt32), .val (.ref a), .val (.int (P * 4096).toInt32), .val (.int (P * 4096).toInt32), .val (.int J.toInt32)] [(.int p2)])) rfl (hb hby at_225)) ?_
      show own_Go p e s below _ _ _ T17 (mkF m 227 #[.val (.int p0), .val (.int p1), .val (.int p2), .val (.int N.toInt32), .val (.ref a), .val (.int (P * 4096).toInt32), .val (.int (P * 4096).toInt32), .val (.int J.toInt32)] [(.int (2147483647 : Int32)), (.int p2)])
      refine own_st (fun _ k => XS.iand X17.here hx rfl (hb hby at_227) rfl k) ?_
      show own_Go p e s below _ _ _ T17 (mkF m 228 #[.val (.int p0), .val (.int p1), .val (.int p2), .val (.int N.toInt32), .val (.ref a), .val (.int (P * 4096).toInt32), .val (.int (P * 4096).toInt32), .val (.int J.toInt32)] [(.int (p2 &&& (2147483647 : Int32)))])
      refine own_st (fun _ k => XS.iload X17.here hx rfl (hb hby at_228) rfl k) ?_
      show own_Go p e s below _ _ _ T17 (mkF m 230 #[.val (.int p0), .val (.int p1), .val (.int p2), .val (.int N.toInt32), .val (.ref a), .val (.int (P * 4096).toInt32), .val (.int (P * 4096).toInt32), .val (.int J.toInt32)] [(.int (P * 4096).toInt32), (.int (p2 &&& (2147483647 : Int32)))])
      refine own_st (fun _ k => Jvm.RoadKit.iremM X17 hx rfl (hb hby at_230) rfl (own_nz pos (by omega)) k) ?_
      show own_Go p e s below _ _ _ T17 (mkF m 231 #[.val (.int p0), .val (.int p1), .val (.int p2), .val (.int N.toInt32), .val (.ref a), .val (.int (P * 4096).toInt32), .val (.int (P * 4096).toInt32), .val (.int J.toInt32)] [(.int ((p2 &&& (2147483647 : Int32)) % (P * 4096).toInt32))])
      obtain ⟨K, hK, hKx⟩ := own_mod p2 pos (by omega)
      rw [hKx]
      show own_Go p e s below _ _ _ T17 (mkF m 231 #[.val (.int p0), .val (.int p1), .val (.int p2), .val (.int N.toInt32), .val (.ref a), .val (.int (P * 4096).toInt32), .val (.int (P * 4096).toInt32), .val (.int J.toInt32)] [(.int K.toInt32)])
      refine own_st (fun _ k => XS.istore X17.here hx rfl (hb hby at_231) rfl (l' := #[.val (.int p0), .val (.int p1), .val (.int p2), .val (.int N.toInt32), .val (.ref a), .val (.int (P * 4096).toInt32), .val (.int (P * 4096).toInt32), .val (.int K.toInt32)]) rfl k) ?_
      show own_Go p e s below _ _ _ T17 (mkF m 233 #[.val (.int p0), .val (.int p1), .val (.int p2), .val (.int N.toInt32), .val (.ref a), .val (.int (P * 4096).toInt32), .val (.int (P * 4096).toInt32), .val (.int K.toInt32)] [])
      refine own_st (fun _ k => XS.aload X17.here hx rfl (hb hby at_233) rfl rfl k) ?_
      show own_Go p e s below _ _ _ T17 (mkF m 235 #[.val (.int p0), .val (.int p1), .val (.int p2), .val (.int N.toInt32), .val (.ref a), .val (.int (P * 4096).toInt32), .val (.int (P * 4096).toInt32), .val (.int K.toInt32)] [(.ref a)])
      refine own_st (fun _ k => XS.iload X17.here hx rfl (hb hby at_235) rfl k) ?_
      show own_Go p e s below _ _ _ T17 (mkF m 237 #[.val (.int p0), .val (.int p1), .val (.int p2), .val (.int N.toInt32), .val (.ref a), .val (.int (P * 4096).toInt32), .val (.int (P * 4096).toInt32), .val (.int K.toInt32)] [(.int K.toInt32), (.ref a)])
      refine own_callS X17 hx hZ (y := (⟨"com/example/coterie/coterie/core/LongPages", "get", "([[JI)J"⟩ : MethodName)) hown (hw _ (List.mem_of_getElem? (i := 13) rfl)) (hw _ (List.mem_of_getElem? (i := 14) rfl)) (hw _ (List.mem_of_getElem? (i := 3) rfl)) (hw _ (List.mem_of_getElem? (i := 15) rfl)) (by decide) e17 (rm3 l Z a0 hw [] a K k P (4096 : Int32) qs T16.heap n0 Z16 G (by omega) (by omega) (by omega) (by omega) (by rw [← show (4096 : Nat).toInt32 = (4096 : Int32) from by decide, own_lti (by omega) (by omega)]; omega)) 0 (by decide) (by decide) (g := (mkF m 237 #[.val (.int p0), .val (.int p1), .val (.int p2), .val (.int N.toInt32), .val (.ref a), .val (.int (P * 4096).toInt32), .val (.int (P * 4096).toInt32), .val (.int K.toInt32)] [(.int K.toInt32), (.ref a)])) rfl (by rw [hml]; rfl) (argsL := [(.ref a), (.int K.toInt32)]) (rest := []) pd2 rfl rfl rfl (by show 2 * 0 + _ ≤ _; exact Nat.le_of_eq rfl) (hb hby at_237) (by decide) (by decide) ?_
      intro T18 v18 L18 X18 hQ18
      obtain ⟨rfl, N18q, e18⟩ := hQ18
      have N18 := Fr.app N17 N18q
      show own_Go p e s below _ _ _ T18 (mkF m 240 #[.val (.int p0), .val (.int p1), .val (.int p2), .val (.int N.toInt32), .val (.ref a), .val (.int (P * 4096).toInt32), .val (.int (P * 4096).toInt32), .val (.int K.toInt32)] [(.long (0 : Int64))])
      refine own_st (fun _ k => XS.lconst X18.here hx rfl (hb hby at_240) k) ?_
      show own_Go p e s below _ _ _ T18 (mkF m 241 #[.val (.int p0), .val (.int p1), .val (.int p2), .val (.int N.toInt32), .val (.ref a), .val (.int (P * 4096).toInt32), .val (.int (P * 4096).toInt32), .val (.int K.toInt32)] [(.long (0 : Int64)), (.long (0 : Int64))])
      refine own_st (fun _ k => XS.lcmp X18.here hx rfl (hb hby at_241) rfl k) ?_
      show own_Go p e s below _ _ _ T18 (mkF m 242 #[.val (.int p0), .val (.int p1), .val (.int p2), .val (.int N.toInt32), .val (.ref a), .val (.int (P * 4096).toInt32), .val (.int (P * 4096).toInt32), .val (.int K.toInt32)] [(.int (lcmpW (0 : Int64) (0 : Int64)))])
      refine own_st (fun _ k => XS.ifYes X18.here hx rfl (pc0 := 242) (pc' := 247) rfl (hb hby at_242) rfl ((if0 _ _).trans (teq ((lw_eq _ _).mpr rfl)).1) (by decide) (by decide) k) ?_
      show own_Go p e s below _ _ _ T18 (mkF m 247 #[.val (.int p0), .val (.int p1), .val (.int p2), .val (.int N.toInt32), .val (.ref a), .val (.int (P * 4096).toInt32), .val (.int (P * 4096).toInt32), .val (.int K.toInt32)] [])
      refine own_st (fun _ k => XS.aload X18.here hx rfl (hb hby at_247) rfl rfl k) ?_
      show own_Go p e s below _ _ _ T18 (mkF m 249 #[.val (.int p0), .val (.int p1), .val (.int p2), .val (.int N.toInt32), .val (.ref a), .val (.int (P * 4096).toInt32), .val (.int (P * 4096).toInt32), .val (.int K.toInt32)] [(.ref a)])
      refine own_st (fun _ k => XS.iload X18.here hx rfl (hb hby at_249) rfl k) ?_
      show own_Go p e s below _ _ _ T18 (mkF m 251 #[.val (.int p0), .val (.int p1), .val (.int p2), .val (.int N.toInt32), .val (.ref a), .val (.int (P * 4096).toInt32), .val (.int (P * 4096).toInt32), .val (.int K.toInt32)] [(.int (P * 4096).toInt32), (.ref a)])
      refine own_st (fun _ k => XS.iconst X18.here hx rfl (hb hby at_251) k) ?_
      show own_Go p e s below _ _ _ T18 (mkF m 252 #[.val (.int p0), .val (.int p1), .val (.int p2), .val (.int N.toInt32), .val (.ref a), .val (.int (P * 4096).toInt32), .val (.int (P * 4096).toInt32), .val (.int K.toInt32)] [(.int (1 : Int32)), (.int (P * 4096).toInt32), (.ref a)])
      refine own_st (fun _ k => XS.isub X18.here hx rfl (hb hby at_252) rfl k) ?_
      show own_Go p e s below _ _ _ T18 (mkF m 253 #[.val (.int p0), .val (.int p1), .val (.int p2), .val (.int N.toInt32), .val (.ref a), .val (.int (P * 4096).toInt32), .val (.int (P * 4096).toInt32), .val (.int K.toInt32)] [(.int ((P * 4096).toInt32 - (1 : Int32))), (.ref a)])
      have dn : ((P * 4096)).toInt32 - (1 : Int32) = ((P * 4096) - 1).toInt32 := by have q := own_dn ((P * 4096) - 1) (by omega); rw [show (P * 4096) - 1 + 1 = (P * 4096) by omega] at q; exact q
      rw [dn]
      show own_Go p e s below _ _ _ T18 (mkF m 253 #[.val (.int p0), .val (.int p1), .val (.int p2), .val (.int N.toInt32), .val (.ref a), .val (.int (P * 4096).toInt32), .val (.int (P * 4096).toInt32), .val (.int K.toInt32)] [(.int ((P * 4096) - 1).toInt32), (.ref a)])
      refine own_callS X18 hx hZ (y := (⟨"com/example/coterie/coterie/core/LongPages", "get", "([[JI)J"⟩ : MethodName)) hown (hw _ (List.mem_of_getElem? (i := 13) rfl)) (hw _ (List.mem_of_getElem? (i := 14) rfl)) (hw _ (List.mem_of_getElem? (i := 3) rfl)) (hw _ (List.mem_of_getElem? (i := 15) rfl)) (by decide) e18 (rm3 l Z a0 hw [] a ((P * 4096) - 1) k P (4096 : Int32) qs T16.heap n0 Z16 G (by omega) (by omega) (by omega) (by omega) (by rw [← show (4096 : Nat).toInt32 = (4096 : Int32) from by decide, own_lti (by omega) (by omega)]; omega)) 0 (by decide) (by decide) (g := (mkF m 253 #[.val (.int p0), .val (.int p1), .val (.int p2), .val (.int N.toInt32), .val (.ref a), .val (.int (P * 4096).toInt32), .val (.int (P * 4096).toInt32), .val (.int K.toInt32)] [(.int ((P * 4096) - 1).toInt32), (.ref a)])) rfl (by rw [hml]; rfl) (argsL := [(.ref a), (.int ((P * 4096) - 1).toInt32)]) (rest := []) pd2 rfl rfl rfl (by show 2 * 0 + _ ≤ _; exact Nat.le_of_eq rfl) (hb hby at_253) (by decide) (by decide) ?_
      intro T19 v19 L19 X19 hQ19
      obtain ⟨rfl, N19q, e19⟩ := hQ19
      have N19 := Fr.app N18 N19q
      show own_Go p e s below _ _ _ T19 (mkF m 256 #[.val (.int p0), .val (.int p1), .val (.int p2), .val (.int N.toInt32), .val (.ref a), .val (.int (P * 4096).toInt32), .val (.int (P * 4096).toInt32), .val (.int K.toInt32)] [(.long (0 : Int64))])
      refine own_st (fun _ k => XS.lconst X19.here hx rfl (hb hby at_256) k) ?_
      show own_Go p e s below _ _ _ T19 (mkF m 257 #[.val (.int p0), .val (.int p1), .val (.int p2), .val (.int N.toInt32), .val (.ref a), .val (.int (P * 4096).toInt32), .val (.int (P * 4096).toInt32), .val (.int K.toInt32)] [(.long (0 : Int64)), (.long (0 : Int64))])
      refine own_st (fun _ k => XS.lcmp X19.here hx rfl (hb hby at_257) rfl k) ?_
      show own_Go p e s below _ _ _ T19 (mkF m 258 #[.val (.int p0), .val (.int p1), .val (.int p2), .val (.int N.toInt32), .val (.ref a), .val (.int (P * 4096).toInt32), .val (.int (P * 4096).toInt32), .val (.int K.toInt32)] [(.int (lcmpW (0 : Int64) (0 : Int64)))])
      refine own_st (fun _ k => XS.ifYes X19.here hx rfl (pc0 := 258) (pc' := 263) rfl (hb hby at_258) rfl ((if0 _ _).trans (teq ((lw_eq _ _).mpr rfl)).1) (by decide) (by decide) k) ?_
      show own_Go p e s below _ _ _ T19 (mkF m 263 #[.val (.int p0), .val (.int p1), .val (.int p2), .val (.int N.toInt32), .val (.ref a), .val (.int (P * 4096).toInt32), .val (.int (P * 4096).toInt32), .val (.int K.toInt32)] [])
      refine own_st (fun _ k => XS.iconst X19.here hx rfl (hb hby at_263) k) ?_
      show own_Go p e s below _ _ _ T19 (mkF m 264 #[.val (.int p0), .val (.int p1), .val (.int p2), .val (.int N.toInt32), .val (.ref a), .val (.int (P * 4096).toInt32), .val (.int (P * 4096).toInt32), .val (.int K.toInt32)] [(.int (1 : Int32))])
      exact own_retN X19 hx hlk (t := .boolean) hret (by simp) (hb hby at_264) (z' := (1 : Int32)) rfl (by decide) (by decide) ⟨rfl, N19⟩
    have posI : ¬ (0 : Int32) < ((P * 4096)).toInt32 := by rw [← show (0 : Nat).toInt32 = (0 : Int32) from by decide, own_lti (by omega) (by omega)]; omega
    refine own_st (fun _ k => XS.ifYes X17.here hx rfl (pc0 := 221) (pc' := 263) rfl (hb hby at_221) rfl ((if0 _ _).trans (flt posI).2.2.2) (by decide) (by decide) k) ?_
    show own_Go p e s below _ _ _ T17 (mkF m 263 #[.val (.int p0), .val (.int p1), .val (.int p2), .val (.int N.toInt32), .val (.ref a), .val (.int (P * 4096).toInt32), .val (.int (P * 4096).toInt32), .val (.int J.toInt32)] [])
    refine own_st (fun _ k => XS.iconst X17.here hx rfl (hb hby at_263) k) ?_
    show own_Go p e s below _ _ _ T17 (mkF m 264 #[.val (.int p0), .val (.int p1), .val (.int p2), .val (.int N.toInt32), .val (.ref a), .val (.int (P * 4096).toInt32), .val (.int (P * 4096).toInt32), .val (.int J.toInt32)] [(.int (1 : Int32))])
    exact own_retN X17 hx hlk (t := .boolean) hret (by simp) (hb hby at_264) (z' := (1 : Int32)) rfl (by decide) (by decide) ⟨rfl, N17⟩
  · show own_Go p e s below _ _ _ T0 (mkF m 6 #[.val (.int p0), .val (.int p1), .val (.int p2), .val (.int N.toInt32), .unset, .unset, .unset, .unset] [(.int N.toInt32)])
    refine own_callS X0 hx hZ (y := (⟨"com/example/coterie/coterie/core/LongPages", "of", "(I)[[J"⟩ : MethodName)) hown (hw _ (List.mem_of_getElem? (i := 1) rfl)) (hw _ (List.mem_of_getElem? (i := 2) rfl)) (hw _ (List.mem_of_getElem? (i := 3) rfl)) (hw _ (List.mem_of_getElem? (i := 4) rfl)) (by decide) e0 (rm1_1 l Z a0 hw [] N h0 n0 Z0 (by omega)) 0 (by decide) (by decide) (g := (mkF m 6 #[.val (.int p0), .val (.int p1), .val (.int p2), .val (.int N.toInt32), .unset, .unset, .unset, .unset] [(.int N.toInt32)])) rfl (by rw [hml]; rfl) (argsL := [(.int N.toInt32)]) (rest := []) pd0 rfl rfl rfl (by show 2 * 0 + _ ≤ _; exact Nat.le_of_eq rfl) (hb hby at_6) (by decide) (by decide) ?_
    intro T20 v20 L20 X20 hQ20
    obtain ⟨a, k, qs, rfl, N20q, Zk, G⟩ := hQ20
    have N20 := Fr.app N0 N20q
    have Z20 := Nat.le_trans Z0 Zk
    show own_Go p e s below _ _ _ T20 (mkF m 9 #[.val (.int p0), .val (.int p1), .val (.int p2), .val (.int N.toInt32), .unset, .unset, .unset, .unset] [(.ref a)])
    refine own_st (fun _ k => XS.astore X20.here hx rfl (hb hby at_9) rfl rfl (l' := #[.val (.int p0), .val (.int p1), .val (.int p2), .val (.int N.toInt32), .val (.ref a), .unset, .unset, .unset]) rfl k) ?_
    show own_Go p e s below _ _ _ T20 (mkF m 11 #[.val (.int p0), .val (.int p1), .val (.int p2), .val (.int N.toInt32), .val (.ref a), .unset, .unset, .unset] [])
    refine own_st (fun _ k => XS.iloadN X20.here hx rfl (hb hby at_11) rfl k) ?_
    show own_Go p e s below _ _ _ T20 (mkF m 12 #[.val (.int p0), .val (.int p1), .val (.int p2), .val (.int N.toInt32), .val (.ref a), .unset, .unset, .unset] [(.int N.toInt32)])
    refine own_st (fun _ k => XS.sipush X20.here hx rfl (hb hby at_12) k) ?_
    show own_Go p e s below _ _ _ T20 (mkF m 15 #[.val (.int p0), .val (.int p1), .val (.int p2), .val (.int N.toInt32), .val (.ref a), .unset, .unset, .unset] [(.int (4096 : Int32)), (.int N.toInt32)])
    refine own_st (fun _ k => XS.icmpNo X20.here hx rfl (hb hby at_15) rfl (flt (fun q => by rw [← show (4096 : Nat).toInt32 = (4096 : Int32) from by decide, own_lti (by omega) (by omega)] at q; omega)).2.2.1 k) ?_
    show own_Go p e s below _ _ _ T20 (mkF m 18 #[.val (.int p0), .val (.int p1), .val (.int p2), .val (.int N.toInt32), .val (.ref a), .unset, .unset, .unset] [])
    refine own_st (fun _ k => XS.aload X20.here hx rfl (hb hby at_18) rfl rfl k) ?_
    show own_Go p e s below _ _ _ T20 (mkF m 20 #[.val (.int p0), .val (.int p1), .val (.int p2), .val (.int N.toInt32), .val (.ref a), .unset, .unset, .unset] [(.ref a)])
    refine own_st (own_len X20 hx hZ rfl G.2.1 (g := (mkF m 20 #[.val (.int p0), .val (.int p1), .val (.int p2), .val (.int N.toInt32), .val (.ref a), .unset, .unset, .unset] [(.ref a)])) rfl rfl (hb hby at_20)) ?_
    show own_Go p e s below _ _ _ T20 (mkF m 21 #[.val (.int p0), .val (.int p1), .val (.int p2), .val (.int N.toInt32), .val (.ref a), .unset, .unset, .unset] [(.int (1 : Nat).toInt32)])
    refine own_st (fun _ k => XS.iconst X20.here hx rfl (hb hby at_21) k) ?_
    show own_Go p e s below _ _ _ T20 (mkF m 22 #[.val (.int p0), .val (.int p1), .val (.int p2), .val (.int N.toInt32), .val (.ref a), .unset, .unset, .unset] [(.int (1 : Int32)), (.int (1 : Nat).toInt32)])
    refine own_st (fun _ k => XS.icmpYes X20.here hx rfl (pc0 := 22) (pc' := 27) rfl (hb hby at_22) rfl (teq (by decide)).1 (by decide) (by decide) k) ?_
    show own_Go p e s below _ _ _ T20 (mkF m 27 #[.val (.int p0), .val (.int p1), .val (.int p2), .val (.int N.toInt32), .val (.ref a), .unset, .unset, .unset] [])
    refine own_st (fun _ k => XS.aload X20.here hx rfl (hb hby at_27) rfl rfl k) ?_
    show own_Go p e s below _ _ _ T20 (mkF m 29 #[.val (.int p0), .val (.int p1), .val (.int p2), .val (.int N.toInt32), .val (.ref a), .unset, .unset, .unset] [(.ref a)])
    refine own_st (fun _ k => XS.iconst X20.here hx rfl (hb hby at_29) k) ?_
    show own_Go p e s below _ _ _ T20 (mkF m 30 #[.val (.int p0), .val (.int p1), .val (.int p2), .val (.int N.toInt32), .val (.ref a), .unset, .unset, .unset] [(.int (0 : Int32)), (.ref a)])
    show own_Go p e s below _ _ _ T20 (mkF m 30 #[.val (.int p0), .val (.int p1), .val (.int p2), .val (.int N.toInt32), .val (.ref a), .unset, .unset, .unset] [(.int (0 : Nat).toInt32), (.ref a)])
    refine own_st (own_ldR X20 hx hZ rfl G.2.1 rfl (j := (0 : Nat).toInt32) (v := .ref (qs.getD 0 0)) (own_ixn (i := 0) (n := 1) (by decide) (by omega)).1 (by rw [(own_ixn (i := 0) (n := 1) (by decide) (by omega)).2]; exact own_mg qs _ (by rw [G.1]; exact (by decide))) (g := (mkF m 30 #[.val (.int p0), .val (.int p1), .val (.int p2), .val (.int N.toInt32), .val (.ref a), .unset, .unset, .unset] [(.int (0 : Nat).toInt32), (.ref a)])) rfl rfl (hb hby at_30)) ?_
    show own_Go p e s below _ _ _ T20 (mkF m 31 #[.val (.int p0), .val (.int p1), .val (.int p2), .val (.int N.toInt32), .val (.ref a), .unset, .unset, .unset] [(.ref (qs.getD 0 0))])
    obtain ⟨nn0, kk0, VV0⟩ := G.2.2.1 0 (by decide)
    refine own_st (own_len X20 hx hZ rfl VV0 (g := (mkF m 31 #[.val (.int p0), .val (.int p1), .val (.int p2), .val (.int N.toInt32), .val (.ref a), .unset, .unset, .unset] [(.ref (qs.getD 0 0))])) rfl rfl (hb hby at_31)) ?_
    show own_Go p e s below _ _ _ T20 (mkF m 32 #[.val (.int p0), .val (.int p1), .val (.int p2), .val (.int N.toInt32), .val (.ref a), .unset, .unset, .unset] [(.int N.toInt32)])
    refine own_st (fun _ k => XS.iloadN X20.here hx rfl (hb hby at_32) rfl k) ?_
    show own_Go p e s below _ _ _ T20 (mkF m 33 #[.val (.int p0), .val (.int p1), .val (.int p2), .val (.int N.toInt32), .val (.ref a), .unset, .unset, .unset] [(.int N.toInt32), (.int N.toInt32)])
    refine own_st (fun _ k => XS.icmpYes X20.here hx rfl (pc0 := 33) (pc' := 38) rfl (hb hby at_33) rfl (teq rfl).1 (by decide) (by decide) k) ?_
    show own_Go p e s below _ _ _ T20 (mkF m 38 #[.val (.int p0), .val (.int p1), .val (.int p2), .val (.int N.toInt32), .val (.ref a), .unset, .unset, .unset] [])
    refine own_st (fun _ k => XS.iloadN X20.here hx rfl (hb hby at_38) rfl k) ?_
    show own_Go p e s below _ _ _ T20 (mkF m 39 #[.val (.int p0), .val (.int p1), .val (.int p2), .val (.int N.toInt32), .val (.ref a), .unset, .unset, .unset] [(.int N.toInt32)])
    refine own_st (fun _ k => XS.istore X20.here hx rfl (hb hby at_39) rfl (l' := #[.val (.int p0), .val (.int p1), .val (.int p2), .val (.int N.toInt32), .val (.ref a), .val (.int N.toInt32), .unset, .unset]) rfl k) ?_
    show own_Go p e s below _ _ _ T20 (mkF m 41 #[.val (.int p0), .val (.int p1), .val (.int p2), .val (.int N.toInt32), .val (.ref a), .val (.int N.toInt32), .unset, .unset] [])
    refine own_st (fun _ k => XS.goto X20.here hx rfl (pc0 := 41) (pc' := 185) rfl (hb hby at_41) (by decide) (by decide) k) ?_
    show own_Go p e s below _ _ _ T20 (mkF m 185 #[.val (.int p0), .val (.int p1), .val (.int p2), .val (.int N.toInt32), .val (.ref a), .val (.int N.toInt32), .unset, .unset] [])
    refine own_st (fun _ k => XS.aload X20.here hx rfl (hb hby at_185) rfl rfl k) ?_
    show own_Go p e s below _ _ _ T20 (mkF m 187 #[.val (.int p0), .val (.int p1), .val (.int p2), .val (.int N.toInt32), .val (.ref a), .val (.int N.toInt32), .unset, .unset] [(.ref a)])
    refine own_callS X20 hx hZ (y := (⟨"com/example/coterie/coterie/core/LongPages", "length", "([[J)I"⟩ : MethodName)) hown (hw _ (List.mem_of_getElem? (i := 9) rfl)) (hw _ (List.mem_of_getElem? (i := 10) rfl)) (hw _ (List.mem_of_getElem? (i := 3) rfl)) (hw _ (List.mem_of_getElem? (i := 11) rfl)) (by decide) rfl (rm2 l Z a0 hw [] a k 1 N.toInt32 qs T20.heap n0 Z20 G (by decide) (by decide)) 0 (by decide) (by decide) (g := (mkF m 187 #[.val (.int p0), .val (.int p1), .val (.int p2), .val (.int N.toInt32), .val (.ref a), .val (.int N.toInt32), .unset, .unset] [(.ref a)])) rfl (by rw [hml]; rfl) (argsL := [(.ref a)]) (rest := []) pd1 rfl rfl rfl (by show 2 * 0 + _ ≤ _; exact Nat.le_of_eq rfl) (hb hby at_187) (by decide) (by decide) ?_
    intro T21 v21 L21 X21 hQ21
    obtain ⟨rfl, N21q, e21⟩ := hQ21
    have N21 := Fr.app N20 N21q
    show own_Go p e s below _ _ _ T21 (mkF m 190 #[.val (.int p0), .val (.int p1), .val (.int p2), .val (.int N.toInt32), .val (.ref a), .val (.int N.toInt32), .unset, .unset] [(.int N.toInt32)])
    refine own_st (fun _ k => XS.istore X21.here hx rfl (hb hby at_190) rfl (l' := #[.val (.int p0), .val (.int p1), .val (.int p2), .val (.int N.toInt32), .val (.ref a), .val (.int N.toInt32), .val (.int N.toInt32), .unset]) rfl k) ?_
    show own_Go p e s below _ _ _ T21 (mkF m 192 #[.val (.int p0), .val (.int p1), .val (.int p2), .val (.int N.toInt32), .val (.ref a), .val (.int N.toInt32), .val (.int N.toInt32), .unset] [])
    refine own_st (fun _ k => XS.iload X21.here hx rfl (hb hby at_192) rfl k) ?_
    show own_Go p e s below _ _ _ T21 (mkF m 194 #[.val (.int p0), .val (.int p1), .val (.int p2), .val (.int N.toInt32), .val (.ref a), .val (.int N.toInt32), .val (.int N.toInt32), .unset] [(.int N.toInt32)])
    refine own_st (fun _ k => XS.iload X21.here hx rfl (hb hby at_194) rfl k) ?_
    show own_Go p e s below _ _ _ T21 (mkF m 196 #[.val (.int p0), .val (.int p1), .val (.int p2), .val (.int N.toInt32), .val (.ref a), .val (.int N.toInt32), .val (.int N.toInt32), .unset] [(.int N.toInt32), (.int N.toInt32)])
    refine own_st (fun _ k => XS.icmpYes X21.here hx rfl (pc0 := 196) (pc' := 201) rfl (hb hby at_196) rfl (teq rfl).1 (by decide) (by decide) k) ?_
    show own_Go p e s below _ _ _ T21 (mkF m 201 #[.val (.int p0), .val (.int p1), .val (.int p2), .val (.int N.toInt32), .val (.ref a), .val (.int N.toInt32), .val (.int N.toInt32), .unset] [])
    refine own_st (fun _ k => XS.iload X21.here hx rfl (hb hby at_201) rfl k) ?_
    show own_Go p e s below _ _ _ T21 (mkF m 203 #[.val (.int p0), .val (.int p1), .val (.int p2), .val (.int N.toInt32), .val (.ref a), .val (.int N.toInt32), .val (.int N.toInt32), .unset] [(.int N.toInt32)])
    refine own_st (fun _ k => XS.iloadN X21.here hx rfl (hb hby at_203) rfl k) ?_
    show own_Go p e s below _ _ _ T21 (mkF m 204 #[.val (.int p0), .val (.int p1), .val (.int p2), .val (.int N.toInt32), .val (.ref a), .val (.int N.toInt32), .val (.int N.toInt32), .unset] [(.int N.toInt32), (.int N.toInt32)])
    refine own_st (fun _ k => XS.icmpNo X21.here hx rfl (hb hby at_204) rfl (flt (fun q => by rw [own_lti (by omega) (by omega)] at q; omega)).1 k) ?_
    show own_Go p e s below _ _ _ T21 (mkF m 207 #[.val (.int p0), .val (.int p1), .val (.int p2), .val (.int N.toInt32), .val (.ref a), .val (.int N.toInt32), .val (.int N.toInt32), .unset] [])
    refine own_st (fun _ k => XS.iload X21.here hx rfl (hb hby at_207) rfl k) ?_
    show own_Go p e s below _ _ _ T21 (mkF m 209 #[.val (.int p0), .val (.int p1), .val (.int p2), .val (.int N.toInt32), .val (.ref a), .val (.int N.toInt32), .val (.int N.toInt32), .unset] [(.int N.toInt32)])
    refine own_st (fun _ k => XS.iloadN X21.here hx rfl (hb hby at_209) rfl k) ?_
    show own_Go p e s below _ _ _ T21 (mkF m 210 #[.val (.int p0), .val (.int p1), .val (.int p2), .val (.int N.toInt32), .val (.ref a), .val (.int N.toInt32), .val (.int N.toInt32), .unset] [(.int N.toInt32), (.int N.toInt32)])
    refine own_st (fun _ k => XS.isub X21.here hx rfl (hb hby at_210) rfl k) ?_
    show own_Go p e s below _ _ _ T21 (mkF m 211 #[.val (.int p0), .val (.int p1), .val (.int p2), .val (.int N.toInt32), .val (.ref a), .val (.int N.toInt32), .val (.int N.toInt32), .unset] [(.int (N.toInt32 - N.toInt32))])
    refine own_st (fun _ k => XS.sipush X21.here hx rfl (hb hby at_211) k) ?_
    show own_Go p e s below _ _ _ T21 (mkF m 214 #[.val (.int p0), .val (.int p1), .val (.int p2), .val (.int N.toInt32), .val (.ref a), .val (.int N.toInt32), .val (.int N.toInt32), .unset] [(.int (4096 : Int32)), (.int (N.toInt32 - N.toInt32))])
    refine own_st (fun _ k => XS.icmpYes X21.here hx rfl (pc0 := 214) (pc' := 219) rfl (hb hby at_214) rfl (tlt (by rw [show N.toInt32 - N.toInt32 = 0 from by simp]; decide)).1 (by decide) (by decide) k) ?_
    show own_Go p e s below _ _ _ T21 (mkF m 219 #[.val (.int p0), .val (.int p1), .val (.int p2), .val (.int N.toInt32), .val (.ref a), .val (.int N.toInt32), .val (.int N.toInt32), .unset] [])
    refine own_st (fun _ k => XS.iload X21.here hx rfl (hb hby at_219) rfl k) ?_
    show own_Go p e s below _ _ _ T21 (mkF m 221 #[.val (.int p0), .val (.int p1), .val (.int p2), .val (.int N.toInt32), .val (.ref a), .val (.int N.toInt32), .val (.int N.toInt32), .unset] [(.int N.toInt32)])
    by_cases pos : 0 < N
    · have posI : (0 : Int32) < (N).toInt32 := by rw [← show (0 : Nat).toInt32 = (0 : Int32) from by decide, own_lti (by omega) (by omega)]; omega
      refine own_st (fun _ k => XS.ifNo X21.here hx rfl (hb hby at_221) rfl ((if0 _ _).trans (tlt posI).2.2.2) k) ?_
      show own_Go p e s below _ _ _ T21 (mkF m 224 #[.val (.int p0), .val (.int p1), .val (.int p2), .val (.int N.toInt32), .val (.ref a), .val (.int N.toInt32), .val (.int N.toInt32), .unset] [])
      refine own_st (fun _ k => XS.iloadN X21.here hx rfl (hb hby at_224) rfl k) ?_
      show own_Go p e s below _ _ _ T21 (mkF m 225 #[.val (.int p0), .val (.int p1), .val (.int p2), .val (.int N.toInt32), .val (.ref a), .val (.int N.toInt32), .val (.int N.toInt32), .unset] [(.int p2)])
      refine own_st (X21.ldcInt hx hown (mvT hZ (hw _ (List.mem_of_getElem? (i := 12) rfl))) (g := (mkF m 225 #[.val (.int p0), .val (.int p1), .val (.int p2), .val (.int N.toInt32), .val (.ref a), .val (.int N.toInt32), .val (.int N.toInt32), .unset] [(.int p2)])) rfl (hb hby at_225)) ?_
      show own_Go p e s below _ _ _ T21 (mkF m 227 #[.val (.int p0), .val (.int p1), .val (.int p2), .val (.int N.toInt32), .val (.ref a), .val (.int N.toInt32), .val (.int N.toInt32), .unset] [(.int (2147483647 : Int32)), (.int p2)])
      refine own_st (fun _ k => XS.iand X21.here hx rfl (hb hby at_227) rfl k) ?_
      show own_Go p e s below _ _ _ T21 (mkF m 228 #[.val (.int p0), .val (.int p1), .val (.int p2), .val (.int N.toInt32), .val (.ref a), .val (.int N.toInt32), .val (.int N.toInt32), .unset] [(.int (p2 &&& (2147483647 : Int32)))])
      refine own_st (fun _ k => XS.iload X21.here hx rfl (hb hby at_228) rfl k) ?_
      show own_Go p e s below _ _ _ T21 (mkF m 230 #[.val (.int p0), .val (.int p1), .val (.int p2), .val (.int N.toInt32), .val (.ref a), .val (.int N.toInt32), .val (.int N.toInt32), .unset] [(.int N.toInt32), (.int (p2 &&& (2147483647 : Int32)))])
      refine own_st (fun _ k => Jvm.RoadKit.iremM X21 hx rfl (hb hby at_230) rfl (own_nz pos (by omega)) k) ?_
      show own_Go p e s below _ _ _ T21 (mkF m 231 #[.val (.int p0), .val (.int p1), .val (.int p2), .val (.int N.toInt32), .val (.ref a), .val (.int N.toInt32), .val (.int N.toInt32), .unset] [(.int ((p2 &&& (2147483647 : Int32)) % N.toInt32))])
      obtain ⟨K, hK, hKx⟩ := own_mod p2 pos (by omega)
      rw [hKx]
      show own_Go p e s below _ _ _ T21 (mkF m 231 #[.val (.int p0), .val (.int p1), .val (.int p2), .val (.int N.toInt32), .val (.ref a), .val (.int N.toInt32), .val (.int N.toInt32), .unset] [(.int K.toInt32)])
      refine own_st (fun _ k => XS.istore X21.here hx rfl (hb hby at_231) rfl (l' := #[.val (.int p0), .val (.int p1), .val (.int p2), .val (.int N.toInt32), .val (.ref a), .val (.int N.toInt32), .val (.int N.toInt32), .val (.int K.toInt32)]) rfl k) ?_
      show own_Go p e s below _ _ _ T21 (mkF m 233 #[.val (.int p0), .val (.int p1), .val (.int p2), .val (.int N.toInt32), .val (.ref a), .val (.int N.toInt32), .val (.int N.toInt32), .val (.int K.toInt32)] [])
      refine own_st (fun _ k => XS.aload X21.here hx rfl (hb hby at_233) rfl rfl k) ?_
      show own_Go p e s below _ _ _ T21 (mkF m 235 #[.val (.int p0), .val (.int p1), .val (.int p2), .val (.int N.toInt32), .val (.ref a), .val (.int N.toInt32), .val (.int N.toInt32), .val (.int K.toInt32)] [(.ref a)])
      refine own_st (fun _ k => XS.iload X21.here hx rfl (hb hby at_235) rfl k) ?_
      show own_Go p e s below _ _ _ T21 (mkF m 237 #[.val (.int p0), .val (.int p1), .val (.int p2), .val (.int N.toInt32), .val (.ref a), .val (.int N.toInt32), .val (.int N.toInt32), .val (.int K.toInt32)] [(.int K.toInt32), (.ref a)])
      refine own_callS X21 hx hZ (y := (⟨"com/example/coterie/coterie/core/LongPages", "get", "([[JI)J"⟩ : MethodName)) hown (hw _ (List.mem_of_getElem? (i := 13) rfl)) (hw _ (List.mem_of_getElem? (i := 14) rfl)) (hw _ (List.mem_of_getElem? (i := 3) rfl)) (hw _ (List.mem_of_getElem? (i := 15) rfl)) (by decide) e21 (rm3 l Z a0 hw [] a K k 1 N.toInt32 qs T20.heap n0 Z20 G (by omega) (by omega) (by omega) (by omega) (by rw [Nat.mod_eq_of_lt (by omega), own_lti (by omega) (by omega)]; omega)) 0 (by decide) (by decide) (g := (mkF m 237 #[.val (.int p0), .val (.int p1), .val (.int p2), .val (.int N.toInt32), .val (.ref a), .val (.int N.toInt32), .val (.int N.toInt32), .val (.int K.toInt32)] [(.int K.toInt32), (.ref a)])) rfl (by rw [hml]; rfl) (argsL := [(.ref a), (.int K.toInt32)]) (rest := []) pd2 rfl rfl rfl (by show 2 * 0 + _ ≤ _; exact Nat.le_of_eq rfl) (hb hby at_237) (by decide) (by decide) ?_
      intro T22 v22 L22 X22 hQ22
      obtain ⟨rfl, N22q, e22⟩ := hQ22
      have N22 := Fr.app N21 N22q
      show own_Go p e s below _ _ _ T22 (mkF m 240 #[.val (.int p0), .val (.int p1), .val (.int p2), .val (.int N.toInt32), .val (.ref a), .val (.int N.toInt32), .val (.int N.toInt32), .val (.int K.toInt32)] [(.long (0 : Int64))])
      refine own_st (fun _ k => XS.lconst X22.here hx rfl (hb hby at_240) k) ?_
      show own_Go p e s below _ _ _ T22 (mkF m 241 #[.val (.int p0), .val (.int p1), .val (.int p2), .val (.int N.toInt32), .val (.ref a), .val (.int N.toInt32), .val (.int N.toInt32), .val (.int K.toInt32)] [(.long (0 : Int64)), (.long (0 : Int64))])
      refine own_st (fun _ k => XS.lcmp X22.here hx rfl (hb hby at_241) rfl k) ?_
      show own_Go p e s below _ _ _ T22 (mkF m 242 #[.val (.int p0), .val (.int p1), .val (.int p2), .val (.int N.toInt32), .val (.ref a), .val (.int N.toInt32), .val (.int N.toInt32), .val (.int K.toInt32)] [(.int (lcmpW (0 : Int64) (0 : Int64)))])
      refine own_st (fun _ k => XS.ifYes X22.here hx rfl (pc0 := 242) (pc' := 247) rfl (hb hby at_242) rfl ((if0 _ _).trans (teq ((lw_eq _ _).mpr rfl)).1) (by decide) (by decide) k) ?_
      show own_Go p e s below _ _ _ T22 (mkF m 247 #[.val (.int p0), .val (.int p1), .val (.int p2), .val (.int N.toInt32), .val (.ref a), .val (.int N.toInt32), .val (.int N.toInt32), .val (.int K.toInt32)] [])
      refine own_st (fun _ k => XS.aload X22.here hx rfl (hb hby at_247) rfl rfl k) ?_
      show own_Go p e s below _ _ _ T22 (mkF m 249 #[.val (.int p0), .val (.int p1), .val (.int p2), .val (.int N.toInt32), .val (.ref a), .val (.int N.toInt32), .val (.int N.toInt32), .val (.int K.toInt32)] [(.ref a)])
      refine own_st (fun _ k => XS.iload X22.here hx rfl (hb hby at_249) rfl k) ?_
      show own_Go p e s below _ _ _ T22 (mkF m 251 #[.val (.int p0), .val (.int p1), .val (.int p2), .val (.int N.toInt32), .val (.ref a), .val (.int N.toInt32), .val (.int N.toInt32), .val (.int K.toInt32)] [(.int N.toInt32), (.ref a)])
      refine own_st (fun _ k => XS.iconst X22.here hx rfl (hb hby at_251) k) ?_
      show own_Go p e s below _ _ _ T22 (mkF m 252 #[.val (.int p0), .val (.int p1), .val (.int p2), .val (.int N.toInt32), .val (.ref a), .val (.int N.toInt32), .val (.int N.toInt32), .val (.int K.toInt32)] [(.int (1 : Int32)), (.int N.toInt32), (.ref a)])
      refine own_st (fun _ k => XS.isub X22.here hx rfl (hb hby at_252) rfl k) ?_
      show own_Go p e s below _ _ _ T22 (mkF m 253 #[.val (.int p0), .val (.int p1), .val (.int p2), .val (.int N.toInt32), .val (.ref a), .val (.int N.toInt32), .val (.int N.toInt32), .val (.int K.toInt32)] [(.int (N.toInt32 - (1 : Int32))), (.ref a)])
      have dn : (N).toInt32 - (1 : Int32) = (N - 1).toInt32 := by have q := own_dn (N - 1) (by omega); rw [show N - 1 + 1 = N by omega] at q; exact q
      rw [dn]
      show own_Go p e s below _ _ _ T22 (mkF m 253 #[.val (.int p0), .val (.int p1), .val (.int p2), .val (.int N.toInt32), .val (.ref a), .val (.int N.toInt32), .val (.int N.toInt32), .val (.int K.toInt32)] [(.int (N - 1).toInt32), (.ref a)])
      refine own_callS X22 hx hZ (y := (⟨"com/example/coterie/coterie/core/LongPages", "get", "([[JI)J"⟩ : MethodName)) hown (hw _ (List.mem_of_getElem? (i := 13) rfl)) (hw _ (List.mem_of_getElem? (i := 14) rfl)) (hw _ (List.mem_of_getElem? (i := 3) rfl)) (hw _ (List.mem_of_getElem? (i := 15) rfl)) (by decide) e22 (rm3 l Z a0 hw [] a (N - 1) k 1 N.toInt32 qs T20.heap n0 Z20 G (by omega) (by omega) (by omega) (by omega) (by rw [Nat.mod_eq_of_lt (by omega), own_lti (by omega) (by omega)]; omega)) 0 (by decide) (by decide) (g := (mkF m 253 #[.val (.int p0), .val (.int p1), .val (.int p2), .val (.int N.toInt32), .val (.ref a), .val (.int N.toInt32), .val (.int N.toInt32), .val (.int K.toInt32)] [(.int (N - 1).toInt32), (.ref a)])) rfl (by rw [hml]; rfl) (argsL := [(.ref a), (.int (N - 1).toInt32)]) (rest := []) pd2 rfl rfl rfl (by show 2 * 0 + _ ≤ _; exact Nat.le_of_eq rfl) (hb hby at_253) (by decide) (by decide) ?_
      intro T23 v23 L23 X23 hQ23
      obtain ⟨rfl, N23q, e23⟩ := hQ23
      have N23 := Fr.app N22 N23q
      show own_Go p e s below _ _ _ T23 (mkF m 256 #[.val (.int p0), .val (.int p1), .val (.int p2), .val (.int N.toInt32), .val (.ref a), .val (.int N.toInt32), .val (.int N.toInt32), .val (.int K.toInt32)] [(.long (0 : Int64))])
      refine own_st (fun _ k => XS.lconst X23.here hx rfl (hb hby at_256) k) ?_
      show own_Go p e s below _ _ _ T23 (mkF m 257 #[.val (.int p0), .val (.int p1), .val (.int p2), .val (.int N.toInt32), .val (.ref a), .val (.int N.toInt32), .val (.int N.toInt32), .val (.int K.toInt32)] [(.long (0 : Int64)), (.long (0 : Int64))])
      refine own_st (fun _ k => XS.lcmp X23.here hx rfl (hb hby at_257) rfl k) ?_
      show own_Go p e s below _ _ _ T23 (mkF m 258 #[.val (.int p0), .val (.int p1), .val (.int p2), .val (.int N.toInt32), .val (.ref a), .val (.int N.toInt32), .val (.int N.toInt32), .val (.int K.toInt32)] [(.int (lcmpW (0 : Int64) (0 : Int64)))])
      refine own_st (fun _ k => XS.ifYes X23.here hx rfl (pc0 := 258) (pc' := 263) rfl (hb hby at_258) rfl ((if0 _ _).trans (teq ((lw_eq _ _).mpr rfl)).1) (by decide) (by decide) k) ?_
      show own_Go p e s below _ _ _ T23 (mkF m 263 #[.val (.int p0), .val (.int p1), .val (.int p2), .val (.int N.toInt32), .val (.ref a), .val (.int N.toInt32), .val (.int N.toInt32), .val (.int K.toInt32)] [])
      refine own_st (fun _ k => XS.iconst X23.here hx rfl (hb hby at_263) k) ?_
      show own_Go p e s below _ _ _ T23 (mkF m 264 #[.val (.int p0), .val (.int p1), .val (.int p2), .val (.int N.toInt32), .val (.ref a), .val (.int N.toInt32), .val (.int N.toInt32), .val (.int K.toInt32)] [(.int (1 : Int32))])
      exact own_retN X23 hx hlk (t := .boolean) hret (by simp) (hb hby at_264) (z' := (1 : Int32)) rfl (by decide) (by decide) ⟨rfl, N23⟩
    have posI : ¬ (0 : Int32) < (N).toInt32 := by rw [← show (0 : Nat).toInt32 = (0 : Int32) from by decide, own_lti (by omega) (by omega)]; omega
    refine own_st (fun _ k => XS.ifYes X21.here hx rfl (pc0 := 221) (pc' := 263) rfl (hb hby at_221) rfl ((if0 _ _).trans (flt posI).2.2.2) (by decide) (by decide) k) ?_
    show own_Go p e s below _ _ _ T21 (mkF m 263 #[.val (.int p0), .val (.int p1), .val (.int p2), .val (.int N.toInt32), .val (.ref a), .val (.int N.toInt32), .val (.int N.toInt32), .unset] [])
    refine own_st (fun _ k => XS.iconst X21.here hx rfl (hb hby at_263) k) ?_
    show own_Go p e s below _ _ _ T21 (mkF m 264 #[.val (.int p0), .val (.int p1), .val (.int p2), .val (.int N.toInt32), .val (.ref a), .val (.int N.toInt32), .val (.int N.toInt32), .unset] [(.int (1 : Int32))])
    exact own_retN X21 hx hlk (t := .boolean) hret (by simp) (hb hby at_264) (z' := (1 : Int32)) rfl (by decide) (by decide) ⟨rfl, N21⟩
set_option maxRecDepth 65536 in
set_option maxHeartbeats 40000000 in
theorem comes_1 {Post : Tables → Env → Array Value → State → Outcome → State → Prop} (hpost : ∀ tb e args s v u, (limb_1_1.after args s (.returned v) u = true ∧ limb_1_2.after args s (.returned v) u = true ∧ True) → FrameEnd s (.returned v) u (Jvm.fieldLocs frame_1_writes args s ++ Jvm.arrayLocs frame_1_arrays args s ++ Jvm.staticLocs frame_1_statics s) 48 131200 → Post tb e args s (.returned v) u) :
    ArmFor flags0 classFile x code maxLocals ret World_1 tables_1 room_1 Calls_1 rest_1 Pre_1 Post := by
  intro l hfl _ _ p e ha hc hk s m args below hf hA hF happ hP
  obtain ⟨hcalls, hrest, hpre⟩ := hP
  obtain ⟨-, -, -, hnamed, -, -, -, hat⟩ := (Spec.applies_iff hf).mp happ
  obtain ⟨hg, hn⟩ := and_e (Cond.before_iff.mp (show (Jvm.Cond.and given_1 narrow_1).before args s = true from hpre))
  obtain ⟨h1, hr0⟩ := and_e hg
  obtain ⟨w0, w1, w2, rfl⟩ : ∃ w0 w1 w2 : Value, args = #[w0, w1, w2] := by
    have hs : args.size = 3 := by simpa [Cond.value, given_1] using h1
    obtain ⟨L⟩ := args
    match L, hs with
    | [w0, w1, w2], _ => exact ⟨w0, w1, w2, rfl⟩
  have hw := fun d (hd : d ∈ tables_1) => atoms_spec (ws := Jvm.Cond.code x code maxLocals ret :: tables_1) hat d (List.mem_cons_of_mem _ hd)
  obtain ⟨ha0, hr1⟩ := and_e hr0
  obtain ⟨i0, e0⟩ := is_v ha0
  obtain rfl : w0 = (.int i0) := Option.some.inj e0
  obtain ⟨ha1, hr2⟩ := and_e hr1
  obtain ⟨i1, e1⟩ := is_v ha1
  obtain rfl : w1 = (.int i1) := Option.some.inj e1
  obtain ⟨i2, e2⟩ := is_v hr2
  obtain rfl : w2 = (.int i2) := Option.some.inj e2
  obtain ⟨n, o, h1, h2, h3, _, L, rfl, ⟨rfl, N⟩, hq⟩ := rm0 l s _ hw tables_1 i0 i1 i2 s.heap s.heap.size (Nat.le_refl _) p e ha hc hk s m _ below hf ((Spec.applies_iff_loose hf).mp happ).1 ⟨rfl, State.Warmed39.refl s, rfl⟩ trivial
  refine ⟨n, _, h1, h2, h3, hpost _ _ _ _ _ _ ⟨Cond.after_iff.mpr rfl, Cond.after_iff.mpr (eq_i res_at (Term.int_eval (1)) rfl), trivial⟩ ⟨hq.1, hq.2.1, (hq.2.2.sift fun y hy => Or.inr (N y hy)).mono (by decide) (by decide)⟩⟩
theorem main_1_1 : Claimed_1_1 := comes_1 fun _ _ _ _ _ _ h hF => ⟨h.1, hF⟩
theorem main_1_2 : Claimed_1_2 := comes_1 fun _ _ _ _ _ _ h hF => ⟨h.2.1, hF⟩
end Jvm.Pilot.@@N@@
namespace Jvm.Pilot.@@N@@
open Jvm Jvm.ClassFile Sem Op Lib Jvm.Free Jvm.Stand Jvm.Pilot.@@N@@.Jvm.D
/-! MADE BY PROGRAM (witnessworld.py) out of the Statement's table words and the real class files: 11 classes; the members and pool entries that the words name. The judged class is class 1, her method 1. -/
namespace start1
open Jvm.ClassFile
def u (s : String) : CpInfo := .utf8 (stringToUtf16 s)
/-- a pool by its gaps: so many unusable entries, then the entry; so many at the end -/
def gap : Nat → List CpInfo → List CpInfo
  | 0, r => r
  | n + 1, r => .unusable :: gap n r
def poolList (es : List (Nat × CpInfo)) (last : Nat) : List CpInfo := es.foldr (fun e r => gap e.1 (e.2 :: r)) (gap last [])
def pool (es : List (Nat × CpInfo)) (last : Nat) : Array CpInfo := ⟨poolList es last⟩
def fileOf (pool : Array CpInfo) (this : Nat) (attrs : Array Attribute := #[]) (ms : Array MethodInfo := #[]) (fl : Nat := 33) (sup : Nat := 0) (ifs : Array Nat := #[]) (fds : Array FieldInfo := #[]) : ClassFile where
  minorVersion := 0
  majorVersion := 65
  constantPool := pool
  accessFlags := fl
  thisClass := this
  superClass := sup
  interfaces := ifs
  fields := fds
  methods := ms
  attributes := attrs
def plain (name : String) (sup : Option ClassId) : Class where
  name := name
  kind := .ordinary
  loader := none
  accessFlags := 33
  super := sup
  interfaces := #[]
  cf := none
  fields := #[]
  methods := #[]
  instanceTypes := #[]
  staticTypes := #[]
  resolved := #[]
  callSites := []
  init := .initialized
  statics := none
  mirror := none

def pool0 : Array CpInfo := pool [(5, u "<init>"), (0, u "()V"), (1, .class_ 10), (1, u "java/lang/Object")] 113

def k0m0 : Method := { name := "<init>", desc := "()V", sig := { parameters := [], returnType := none }, accessFlags := 1, code := none }
/-- java/lang/Object -/
def k0 : Class := { plain "java/lang/Object" none with
  accessFlags := 33
  interfaces := #[]
  cf := some (fileOf pool0 8 #[] #[{ accessFlags := 1, nameIndex := 5, descriptorIndex := 6, attributes := #[] }] 33 0 #[] #[])
  fields := #[]
  methods := #[k0m0]
  instanceTypes := #[]
  staticTypes := #[]
  resolved := Array.replicate 124 none
  statics := none }

def pool1 : Array CpInfo := pool [(2, .class_ 4), (1, u "java/lang/Object"), (0, u "<init>"), (0, u "()V"), (0, .integer 65535), (0, .methodref 9 10), (0, .class_ 11), (0, .nameAndType 12 13), (0, u "com/example/coterie/coterie/core/LongPages"), (0, u "of"), (0, u "(I)[[J"), (0, .integer 2147483647), (0, .methodref 9 16), (0, .nameAndType 17 18), (0, u "length"), (0, u "([[J)I"), (0, .methodref 9 20), (0, .nameAndType 21 22), (0, u "get"), (0, u "([[JI)J"), (0, .class_ 24), (0, u "com/example/coterie/coterie/core/LongPagesOfPinLaw"), (2, u "law"), (0, u "(III)Z")] 5

def k1m0 : Method := { name := "<init>", desc := "()V", sig := { parameters := [], returnType := none }, accessFlags := 2, code := none }
def k1c1 : Code := { maxStack := 4, maxLocals := 8, code := code, exceptionTable := #[], attributes := #[] }
def k1m1 : Method := { name := "law", desc := "(III)Z", sig := { parameters := [.int, .int, .int], returnType := some .boolean }, accessFlags := 9, code := some k1c1 }
/-- com/example/coterie/coterie/core/LongPagesOfPinLaw -/
def k1 : Class := { plain "com/example/coterie/coterie/core/LongPagesOfPinLaw" (some 0) with
  accessFlags := 49
  interfaces := #[]
  cf := some (fileOf pool1 23 #[] #[{ accessFlags := 2, nameIndex := 5, descriptorIndex := 6, attributes := #[] }, { accessFlags := 9, nameIndex := 27, descriptorIndex := 28, attributes := #[] }] 49 2 #[] #[])
  fields := #[]
  methods := #[k1m0, k1m1]
  instanceTypes := #[]
  staticTypes := #[]
  resolved := Array.replicate 34 none
  statics := none }

def pool2 : Array CpInfo := pool [(1, .class_ 2), (0, u "com/example/coterie/coterie/core/LongPages"), (1, .class_ 6), (1, u "java/lang/Object"), (0, u "<init>"), (0, u "()V"), (0, .class_ 10), (0, u "[J"), (15, u "PAGE_BITS"), (0, u "I"), (2, u "PAGE"), (1, u "MASK"), (3, u "of"), (0, u "(I)[[J"), (1, u "length"), (0, u "([[J)I"), (0, u "get"), (0, u "([[JI)J")] 8

def k2m0 : Method := { name := "<init>", desc := "()V", sig := { parameters := [], returnType := none }, accessFlags := 2, code := none }
def k2c1 : Code := { maxStack := 4, maxLocals := 3, code := prog_92_method_2_code, exceptionTable := #[], attributes := #[] }
def k2m1 : Method := { name := "of", desc := "(I)[[J", sig := { parameters := [.int], returnType := some (.array (.array .long)) }, accessFlags := 8, code := some k2c1 }
def k2c2 : Code := { maxStack := 2, maxLocals := 1, code := prog_92_method_3_code, exceptionTable := #[], attributes := #[] }
def k2m2 : Method := { name := "length", desc := "([[J)I", sig := { parameters := [(.array (.array .long))], returnType := some .int }, accessFlags := 8, code := some k2c2 }
def k2c3 : Code := { maxStack := 3, maxLocals := 2, code := prog_92_method_4_code, exceptionTable := #[], attributes := #[] }
def k2m3 : Method := { name := "get", desc := "([[JI)J", sig := { parameters := [(.array (.array .long)), .int], returnType := some .long }, accessFlags := 8, code := some k2c3 }
/-- com/example/coterie/coterie/core/LongPages -/
def k2 : Class := { plain "com/example/coterie/coterie/core/LongPages" (some 0) with
  accessFlags := 48
  interfaces := #[]
  cf := some (fileOf pool2 1 #[] #[{ accessFlags := 2, nameIndex := 7, descriptorIndex := 8, attributes := #[] }, { accessFlags := 8, nameIndex := 36, descriptorIndex := 37, attributes := #[] }, { accessFlags := 8, nameIndex := 39, descriptorIndex := 40, attributes := #[] }, { accessFlags := 8, nameIndex := 41, descriptorIndex := 42, attributes := #[] }] 48 4 #[] #[{ accessFlags := 26, nameIndex := 26, descriptorIndex := 27, attributes := #[] }, { accessFlags := 24, nameIndex := 30, descriptorIndex := 27, attributes := #[] }, { accessFlags := 26, nameIndex := 32, descriptorIndex := 27, attributes := #[] }])
  fields := #[{ name := "PAGE_BITS", type := .int, accessFlags := 26, slot := 0, constantValue := 0 }, { name := "PAGE", type := .int, accessFlags := 24, slot := 1, constantValue := 0 }, { name := "MASK", type := .int, accessFlags := 26, slot := 2, constantValue := 0 }]
  methods := #[k2m0, k2m1, k2m2, k2m3]
  instanceTypes := #[]
  staticTypes := #[.int, .int, .int]
  resolved := Array.replicate 51 none
  statics := none }

def pool3 : Array CpInfo := pool [(1, u "java/lang/Cloneable"), (0, .class_ 1), (0, u "java/lang/Object"), (0, .class_ 3)] 3

/-- java/lang/Cloneable -/
def k3 : Class := { plain "java/lang/Cloneable" (some 0) with
  accessFlags := 1537
  interfaces := #[]
  cf := some (fileOf pool3 2 #[] #[] 1537 4 #[] #[])
  fields := #[]
  methods := #[]
  instanceTypes := #[]
  staticTypes := #[]
  resolved := Array.replicate 8 none
  statics := none }

def pool4 : Array CpInfo := pool [(1, u "java/io/Serializable"), (0, .class_ 1), (0, u "java/lang/Object"), (0, .class_ 3)] 3

/-- java/io/Serializable -/
def k4 : Class := { plain "java/io/Serializable" (some 0) with
  accessFlags := 1537
  interfaces := #[]
  cf := some (fileOf pool4 2 #[] #[] 1537 4 #[] #[])
  fields := #[]
  methods := #[]
  instanceTypes := #[]
  staticTypes := #[]
  resolved := Array.replicate 8 none
  statics := none }

/-- the primitive byte -/
def k5 : Class := { plain "byte" none with kind := .primitive 'B', accessFlags := 0x411 }
/-- [B -/
def k6 : Class := { plain "[B" (some 0) with kind := .array 5 .byte, interfaces := #[3, 4], accessFlags := 1041 }

/-- the primitive int -/
def k7 : Class := { plain "int" none with kind := .primitive 'I', accessFlags := 0x411 }
/-- [I -/
def k8 : Class := { plain "[I" (some 0) with kind := .array 7 .int, interfaces := #[3, 4], accessFlags := 1041 }

/-- the primitive long -/
def k9 : Class := { plain "long" none with kind := .primitive 'J', accessFlags := 0x411 }
/-- [J -/
def k10 : Class := { plain "[J" (some 0) with kind := .array 9 .long, interfaces := #[3, 4], accessFlags := 1041 }

/-- [[J -/
def k11 : Class := { plain "[[J" (some 0) with kind := .array 10 (.array .long), interfaces := #[3, 4], accessFlags := 1041 }

def heap : Heap := #[]
def classes : Array Class := #[k0, k1, k2, k3, k4, k5, k6, k7, k8, k9, k10, k11]
def interned : List (Array UInt16 × Addr) := []
def slotsUsed : Nat := 0
def theMethod : MethodId := ⟨1, 1⟩
def args0 : Array Value := #[.int 5, .int 5, .int 5]
def aboutOver (below : List Frame) : State where
  vm := { classes := classes, interned := interned.toArray }
  heap := heap
  slotsUsed := slotsUsed
  threads := #[{ frames := .invoking theMethod args0 :: below }]
def below0 : List Frame := [.native { method := ⟨0, 0⟩, args := #[] }]
def about1 : State := aboutOver below0
def p0 : Program := .bare "" "" ""
def e0 : Env := launch0.env 0 0 0
theorem w_frames : about1.frames = Frame.invoking theMethod args0 :: below0 := rfl
set_option maxRecDepth 65536 in
theorem w_args : argsFit about1.vm theMethod args0 = true := by decide +kernel
set_option maxRecDepth 65536 in
theorem w_heap : heapFits about1 = true := by decide +kernel
set_option maxRecDepth 65536 in
theorem w_runnable : about1.curStatus? = some .runnable := by decide +kernel
set_option maxRecDepth 65536 in
theorem w_alone : about1.alone = true := by decide +kernel
set_option maxRecDepth 65536 in
theorem w_named : about1.methodNamed? x = some theMethod := by decide +kernel
set_option maxRecDepth 65536 in
theorem w_hears : about1.hears theMethod below0 = true := by decide +kernel
set_option maxRecDepth 65536 in
theorem w_ripe : about1.ripe theMethod args0 below0 = true := by decide +kernel
theorem w_running : about1.status = .running := rfl
set_option maxRecDepth 65536 in
theorem w_room : about1.hasRoom e0.platform room_1 = true :=
  launch0.hasRoom_least _ room_1 (by decide +kernel) (by decide +kernel) (by decide +kernel) (by decide +kernel) (by decide +kernel) (by decide +kernel)
theorem allAtoms_all (ts : List Jvm.Cond) (a : Array Jvm.Value) (st : Jvm.State) : (allAtoms ts).before a st = ts.all (fun c => c.before a st) := by
  induction ts with
  | nil => rfl
  | cons c t ih =>
    show (Jvm.Cond.and c (allAtoms t)).before a st = _
    rw [Jvm.Cond.before_and, ih, List.all_cons]
def words1 : List Jvm.Cond := Jvm.Cond.code x code maxLocals ret :: tables_1
/-- a 'code' word, met by the world's own term for the bytes: nothing is compared byte by byte -/
theorem code_word {y : MethodName} {bytes : ByteArray} {mx : Nat} {rt : Option FieldType} {a : Array Value} {s : State} {m : MethodId} {meth : Method} {c : Code} (h1 : s.methodNamed? y = some m) (h2 : s.vm.method? m = some meth) (h3 : meth.code = some c) (h4 : c.code = bytes)
    (h5 : (c.maxLocals == mx && c.exceptionTable.isEmpty && decide (c.maxStack ≤ mostOperands) && decide (meth.sig.returnType = rt) && !meth.locks && decide (parseMethodDescriptor y.desc = some meth.sig)) = true) : (Jvm.Cond.code y bytes mx rt).before a s = true := by
  simp only [Bool.and_eq_true, beq_iff_eq, Bool.not_eq_true', decide_eq_true_eq] at h5
  obtain ⟨⟨⟨⟨⟨g1, g2⟩, g3⟩, g4⟩, g5⟩, g6⟩ := h5
  simp [Cond.before, Cond.holds, Cond.value, h1, h2, h3, h4, g1, g2, g3, g4, g5, g6]
def isCode : Jvm.Cond → Bool
  | .code _ _ _ _ => true
  | _ => false
theorem all_split {L : List Jvm.Cond} {P : Jvm.Cond → Bool} (h1 : L.all (fun c => isCode c || P c) = true) (h2 : ∀ c ∈ L.filter isCode, P c = true) : L.all P = true := by
  refine List.all_eq_true.mpr fun c hc => ?_
  have h := List.all_eq_true.mp h1 c hc
  rcases Bool.eq_false_or_eq_true (isCode c) with hi | hi
  · exact h2 c (List.mem_filter.mpr ⟨hc, hi⟩)
  · simpa [hi] using h
set_option maxRecDepth 65536 in
theorem w_c0 : (Jvm.Cond.code x code maxLocals ret).before args0 about1 = true := code_word (m := ⟨1, 1⟩) (meth := k1m1) (c := k1c1) (by decide +kernel) rfl rfl rfl (by decide +kernel)
set_option maxRecDepth 65536 in
theorem w_c1 : (Jvm.Cond.code ({ cls := "com/example/coterie/coterie/core/LongPages", name := "of", desc := "(I)[[J" } : Jvm.MethodName) prog_92_method_2_code (3 : Nat) (Option.some (Jvm.ClassFile.FieldType.array (Jvm.ClassFile.FieldType.array Jvm.ClassFile.FieldType.long)))).before args0 about1 = true := code_word (m := ⟨2, 1⟩) (meth := k2m1) (c := k2c1) (by decide +kernel) rfl rfl rfl (by decide +kernel)
set_option maxRecDepth 65536 in
theorem w_c2 : (Jvm.Cond.code ({ cls := "com/example/coterie/coterie/core/LongPages", name := "length", desc := "([[J)I" } : Jvm.MethodName) prog_92_method_3_code (1 : Nat) (Option.some Jvm.ClassFile.FieldType.int)).before args0 about1 = true := code_word (m := ⟨2, 2⟩) (meth := k2m2) (c := k2c2) (by decide +kernel) rfl rfl rfl (by decide +kernel)
set_option maxRecDepth 65536 in
theorem w_c3 : (Jvm.Cond.code ({ cls := "com/example/coterie/coterie/core/LongPages", name := "get", desc := "([[JI)J" } : Jvm.MethodName) prog_92_method_4_code (2 : Nat) (Option.some Jvm.ClassFile.FieldType.long)).before args0 about1 = true := code_word (m := ⟨2, 3⟩) (meth := k2m3) (c := k2c3) (by decide +kernel) rfl rfl rfl (by decide +kernel)
def codes1 : List Jvm.Cond := [Jvm.Cond.code x code maxLocals ret, Jvm.Cond.code ({ cls := "com/example/coterie/coterie/core/LongPages", name := "of", desc := "(I)[[J" } : Jvm.MethodName) prog_92_method_2_code (3 : Nat) (Option.some (Jvm.ClassFile.FieldType.array (Jvm.ClassFile.FieldType.array Jvm.ClassFile.FieldType.long))), Jvm.Cond.code ({ cls := "com/example/coterie/coterie/core/LongPages", name := "length", desc := "([[J)I" } : Jvm.MethodName) prog_92_method_3_code (1 : Nat) (Option.some Jvm.ClassFile.FieldType.int), Jvm.Cond.code ({ cls := "com/example/coterie/coterie/core/LongPages", name := "get", desc := "([[JI)J" } : Jvm.MethodName) prog_92_method_4_code (2 : Nat) (Option.some Jvm.ClassFile.FieldType.long)]
set_option maxRecDepth 65536 in
theorem codes_eq : words1.filter isCode = codes1 := rfl
theorem w_codes : ∀ c ∈ words1.filter isCode, c.before args0 about1 = true := by
  rw [codes_eq]
  intro c hc
  simp only [codes1, List.mem_cons, List.not_mem_nil, or_false] at hc
  rcases hc with rfl | rfl | rfl | rfl
  · exact w_c0
  · exact w_c1
  · exact w_c2
  · exact w_c3
set_option maxRecDepth 65536 in
theorem w_t1 : words1.all (fun c => isCode c || c.before args0 about1) = true := by decide +kernel
theorem w_tables : (allAtoms (Jvm.Cond.code x code maxLocals ret :: tables_1)).before args0 about1 = true := by
  rw [allAtoms_all]
  show words1.all (fun c => c.before args0 about1) = true
  refine all_split ?_ w_codes
  rw [w_t1]
set_option maxRecDepth 65536 in
theorem w_case : (Jvm.Cond.and given_1 narrow_1).before args0 about1 = true := by decide +kernel
theorem w_applies : (headSpec (Jvm.Cond.code x code maxLocals ret :: tables_1) room_1).applies x e0.platform about1 = true :=
  (Spec.applies_iff w_frames).mpr ⟨w_running, w_runnable, w_alone, w_named, w_hears, w_ripe, w_room, w_tables⟩
theorem atStart : AtStart classFile x code maxLocals ret World_1 tables_1 room_1 Calls_1 rest_1 Pre_1 launch0 p0 e0 about1 theMethod args0 below0 :=
  ⟨lists_1, trivial, launch0.admits_env _ _ _, launch0.least_env, fairChoices_fair.cas, fairChoices_fair.clock, w_frames, w_args, w_heap, w_applies, trivial, trivial, w_case⟩
end start1
theorem witness_1 : WitnessClaimed_1 := ⟨start1.p0, start1.e0, start1.about1, start1.theMethod, start1.args0, start1.below0, start1.atStart⟩
end Jvm.Pilot.@@N@@
