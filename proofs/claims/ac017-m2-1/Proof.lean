import JvmDerived
import JvmDerived.Pilot.@@N@@Statement
import JvmDerived.Pilot.@@N@@Code
set_option linter.unusedVariables false
set_option linter.unusedSimpArgs false
namespace Jvm.Pilot.@@N@@
open Jvm Jvm.ClassFile Sem Op Lib Jvm.Free Jvm.Stand Jvm.LawKit Jvm.RoadKit Bundle Jvm.Pilot.@@N@@.Jvm.D
/-! the walk in the form of what is still to be run: own_Go T g says that the run from the frame g on T ends as promised -/
section OwnKit
variable {p : Program} {l : Launch} {e : Env} {R : Room} {s : State} {m : MethodId} {args : Array Value} {below : List Frame} {meth : Method} {c : Code} {T : State} {locs : List Loc} {cells slots : Nat} {Z : State} {h : Heap} {a0 : Array Value} {Q : Option Value → Heap → List Loc → Prop} {cm sm : Nat}
def own_Go (p : Program) (e : Env) (s : State) (below : List Frame) (Q : Option Value → Heap → List Loc → Prop) (cm sm : Nat) (T : State) (g : JFrame) : Prop :=
  ∃ (U : State) (o : Outcome), Steps p.tables e below (T.setTop g) U ∧ U.status = .running ∧ Ended U below o ∧ ∃ v L, o = .returned v ∧ Q v U.heap L ∧ FrameEnd s o U L cm sm
theorem own_st {T' : State} {g g' : JFrame} (h : ∀ t, Steps p.tables e below (T'.setTop g') t → Steps p.tables e below (T.setTop g) t) (k : own_Go p e s below Q cm sm T' g') : own_Go p e s below Q cm sm T g := by
  obtain ⟨U, o, h1, h2⟩ := k
  exact ⟨U, o, h U h1, h2⟩
abbrev own_Met (l : Launch) (Z : State) (y : MethodName) (bytes : ByteArray) (ml : Nat) (ret : Option FieldType) (rm : Room) (ws : List Jvm.Cond) (as : Array Value) (h : Heap) (Q : Option Value → Heap → List Loc → Prop) (cm sm : Nat) : Prop :=
  MetFree l y (head1 (Jvm.Cond.code y bytes ml ret :: ws) rm) (fun a U => a = as ∧ Z.Warmed39 U.vm ∧ U.heap = h) (fun _ _ _ _ _ => True) (fun _ U o U' => ∃ v L, o = .returned v ∧ Q v U'.heap L ∧ FrameEnd U o U' L cm sm)
theorem own_enter {y : MethodName} {bytes : ByteArray} {ml : Nat} {ret : Option FieldType} {rm : Room} {ws : List Jvm.Cond} {as : Array Value} {Ls : Array Slot}
    (hp : plainFor y = true) (hef : ∀ m, entryFrame m as ml = mkF m 0 Ls [])
    (body : ∀ (p : Program) (e : Env) (s : State) (m : MethodId) (below : List Frame) (meth : Method) (c : Code) (T : State), p.tables.exec = Jvm.exec → c.code = bytes → c.maxLocals = ml → s.vm.findClass y.cls = some m.cls → meth.name = y.name → meth.sig.returnType = ret → meth.locks = false → Z.Warmed39 s.vm →
      Stand p l e rm s m as below meth c T [] 0 0 → T.heap = h → own_Go p e s below Q cm sm T (mkF m 0 Ls [])) :
    own_Met l Z y bytes ml ret rm ws as h Q cm sm := by
  refine MetFree.of_bodySF hp hisR ?_
  intro p e s m args below meth c s₁ Bd hml0 hP hK
  obtain ⟨rfl, hZ, hh⟩ := hP
  obtain ⟨U, o, h1, h2⟩ := body p e s m below meth c s₁ Bd.exec Bd.bytes hml0 (findClass_of_methodNamed Bd.named) (name_of_methodNamed Bd.named Bd.method).1 Bd.returns (BodyLoose.notSynchronized Bd) hZ (Stand.of_body Bd) (by rw [← hh, Bd.state]; rfl)
  exact ⟨U, o, castTop (hef m) h1, h2⟩
/-! returns -/
theorem own_retN (X : Stand p l e R s m args below meth c T locs cells slots) (hx : p.tables.exec = Jvm.exec) (hlk : meth.locks = false) {t : FieldType} (hret : meth.sig.returnType = some t) (ht : t = .boolean ∨ t = .byte ∨ t = .char ∨ t = .short) {pc : Nat} {Ls : Array Slot} {z z' : Int32} {rest : List Value}
    (hd : decode c.code pc = .ok (.ireturn, 1)) (hz : nar t z = z') (hc : cells ≤ cm) (hs : slots ≤ sm) (hQ : Q (some (.int z')) T.heap locs) : own_Go p e s below Q cm sm T (mkF m pc Ls (.int z :: rest)) := by
  subst hz
  obtain ⟨fs, hr, hrun, hended, hW, hsame⟩ := X.leave (v := some (.int (nar t z))) (fun h => by rw [hret] at h; cases h) hlk
  exact ⟨_, _, retN X hx hret ht hd hr, hrun, hended, _, _, rfl, hQ, ⟨_, rfl⟩, hW, hsame.mono hc hs⟩
theorem own_retI (X : Stand p l e R s m args below meth c T locs cells slots) (hx : p.tables.exec = Jvm.exec) (hlk : meth.locks = false) (hret : meth.sig.returnType = some .int) {pc : Nat} {Ls : Array Slot} {z : Int32} {rest : List Value}
    (hd : decode c.code pc = .ok (.ireturn, 1)) (hc : cells ≤ cm) (hs : slots ≤ sm) (hQ : Q (some (.int z)) T.heap locs) : own_Go p e s below Q cm sm T (mkF m pc Ls (.int z :: rest)) := by
  obtain ⟨fs, hr, hrun, hended, hW, hsame⟩ := X.leave (v := some (.int z)) (fun h => by rw [hret] at h; cases h) hlk
  exact ⟨_, _, retOut X hx hret rfl (Or.inl ⟨rfl, Or.inl rfl, _, rfl⟩) hd hr, hrun, hended, _, _, rfl, hQ, ⟨_, rfl⟩, hW, hsame.mono hc hs⟩
theorem own_retJ (X : Stand p l e R s m args below meth c T locs cells slots) (hx : p.tables.exec = Jvm.exec) (hlk : meth.locks = false) (hret : meth.sig.returnType = some .long) {pc : Nat} {Ls : Array Slot} {z : Int64} {rest : List Value}
    (hd : decode c.code pc = .ok (.lreturn, 1)) (hc : cells ≤ cm) (hs : slots ≤ sm) (hQ : Q (some (.long z)) T.heap locs) : own_Go p e s below Q cm sm T (mkF m pc Ls (.long z :: rest)) := by
  obtain ⟨fs, hr, hrun, hended, hW, hsame⟩ := X.leave (v := some (.long z)) (fun h => by rw [hret] at h; cases h) hlk
  exact ⟨_, _, retOut X hx hret rfl (Or.inr (Or.inl ⟨rfl, rfl, _, rfl⟩)) hd hr, hrun, hended, _, _, rfl, hQ, ⟨_, rfl⟩, hW, hsame.mono hc hs⟩
theorem own_retR (X : Stand p l e R s m args below meth c T locs cells slots) (hx : p.tables.exec = Jvm.exec) (hlk : meth.locks = false) {t : FieldType} (hret : meth.sig.returnType = some t) (ht : t.isReference = true) {pc : Nat} {Ls : Array Slot} {w : Value} (hw : w.isRef = true) (hn : narrow t w = w) {rest : List Value}
    (hd : decode c.code pc = .ok (.areturn, 1)) (hc : cells ≤ cm) (hs : slots ≤ sm) (hQ : Q (some w) T.heap locs) : own_Go p e s below Q cm sm T (mkF m pc Ls (w :: rest)) := by
  obtain ⟨fs, hr, hrun, hended, hW, hsame⟩ := X.leave (v := some w) (fun h => by rw [hret] at h; cases h) hlk
  exact ⟨_, _, retOut X hx hret hn (Or.inr (Or.inr (Or.inr (Or.inr ⟨rfl, ht, hw⟩)))) hd hr, hrun, hended, _, _, rfl, hQ, ⟨_, rfl⟩, hW, hsame.mono hc hs⟩
theorem own_ret0 (X : Stand p l e R s m args below meth c T locs cells slots) (hx : p.tables.exec = Jvm.exec) (hlk : meth.locks = false) (hret : meth.sig.returnType = none) {pc : Nat} {Ls : Array Slot}
    (hd : decode c.code pc = .ok (.return_, 1)) (hc : cells ≤ cm) (hs : slots ≤ sm) (hQ : Q none T.heap locs) : own_Go p e s below Q cm sm T (mkF m pc Ls []) := by
  obtain ⟨fs, hr, hrun, hended, hW, hsame⟩ := X.leave (v := none) (fun _ => rfl) hlk
  exact ⟨_, _, X.returnOut hx hret hd hr, hrun, hended, _, _, rfl, hQ, ⟨_, rfl⟩, hW, hsame.mono hc hs⟩
/-! calls by the callee's contract -/
theorem own_callS (X : Stand p l e R s m args below meth c T locs cells slots) (hx : p.tables.exec = Jvm.exec) (hZ : Z.Warmed39 s.vm) {own : String} {index : Nat} {y : MethodName} {bytes : ByteArray} {maxL : Nat} {ret : Option FieldType} (hown : s.vm.findClass own = some m.cls)
    (w1 : (Jvm.Cond.methodLink own index y).before a0 Z = true) (w2 : (Jvm.Cond.static y).before a0 Z = true) (w3 : (Jvm.Cond.initialized y.cls).before a0 Z = true) (w4 : (Jvm.Cond.code y bytes maxL ret).before a0 Z = true)
    (hy : y.cls ≠ "java/lang/invoke/MethodHandle" ∧ y.cls ≠ "java/lang/invoke/VarHandle") {rm : Room} {as : Array Value} {Qc : Option Value → Heap → List Loc → Prop} (eT : T.heap = h)
    (hM : own_Met l Z y bytes maxL ret rm [] as h Qc rm.cells rm.slots) (W : Nat) (hf : rm.frames + 1 ≤ R.frames) (hl : W + (maxL + 11) + rm.locals ≤ R.locals)
    {g : JFrame} (hg : g.method = m) (hsize : g.locals.size = c.maxLocals) {argsL rest : List Value} {ps : List FieldType} {r : Option FieldType} (hpd : parseMethodDescriptor y.desc = some ⟨ps, r⟩) (hlen : argsL.length = ps.length) (has : argsL.toArray = as)
    (hstack : g.stack = argsL.reverse ++ rest) (hW : 2 * g.monitorRoom + (rest.map fun v => v.category).sum ≤ W) (hdg : decode c.code g.pc = .ok (.invokestatic index, 3)) (hc : cells + rm.cells ≤ R.cells) (hs : slots + rm.slots ≤ R.slots)
    (k : ∀ (T' : State) (v : Option Value) (Lc : List Loc), Stand p l e R s m args below meth c T' (locs ++ Lc) (cells + rm.cells) (slots + rm.slots) → Qc v T'.heap Lc → own_Go p e s below Q cm sm T' { g with pc := g.pc + 3, stack := v.toList ++ rest }) :
    own_Go p e s below Q cm sm T g := by
  obtain ⟨v, _, ⟨T', L', k', n'⟩, -, X', ⟨Lc, hQ, l1, y1, z1⟩, st⟩ := Jvm.LawKit.callS X hx (y := y) hown (mvT hZ w1) (mvT hZ w2) (mvT hZ w3) (mvT hZ w4) hy (backOf (W := W) hM hZ w4 w3 hf hl) hg hsize (argsL := argsL) (rest := rest) (lenOf hpd hlen) hstack hW hdg (fun _ _ => ⟨has, eT, hc, hs⟩)
  dsimp only [Pt.U, Pt.locs, Pt.cells, Pt.slots] at X' l1 y1 z1 st hQ
  subst l1 y1 z1
  exact own_st st (k T' v Lc X' hQ)
theorem own_callN (X : Stand p l e R s m args below meth c T locs cells slots) (hx : p.tables.exec = Jvm.exec) (hZ : Z.Warmed39 s.vm) {own : String} {index : Nat} {y : MethodName} {bytes : ByteArray} {maxL : Nat} (hy1 : y.name = "<init>") (hown : s.vm.findClass own = some m.cls)
    (w1 : (Jvm.Cond.methodLink own index y).before a0 Z = true) (w2 : (Jvm.Cond.instanceMethod y).before a0 Z = true) (w3 : (Jvm.Cond.initialized y.cls).before a0 Z = true) (w4 : (Jvm.Cond.code y bytes maxL none).before a0 Z = true)
    (hy : y.cls ≠ "java/lang/invoke/MethodHandle" ∧ y.cls ≠ "java/lang/invoke/VarHandle") {rm : Room} {as : Array Value} {Qc : Option Value → Heap → List Loc → Prop} (eT : T.heap = h)
    (hM : own_Met l Z y bytes maxL none rm [] as h Qc rm.cells rm.slots) (W : Nat) (hf : rm.frames + 1 ≤ R.frames) (hl : W + (maxL + 11) + rm.locals ≤ R.locals)
    {g : JFrame} (hg : g.method = m) (hsize : g.locals.size = c.maxLocals) {a : Addr} {argsL rest : List Value} {ps : List FieldType} {r : Option FieldType} (hpd : parseMethodDescriptor y.desc = some ⟨ps, r⟩) (hlen : argsL.length = ps.length) (has : (Value.ref a :: argsL).toArray = as)
    (hstack : g.stack = argsL.reverse ++ .ref a :: rest) (hW : 2 * g.monitorRoom + (rest.map fun v => v.category).sum ≤ W) (hdg : decode c.code g.pc = .ok (.invokespecial index, 3)) (hc : cells + rm.cells ≤ R.cells) (hs : slots + rm.slots ≤ R.slots)
    (k : ∀ (T' : State) (v : Option Value) (Lc : List Loc), Stand p l e R s m args below meth c T' (locs ++ Lc) (cells + rm.cells) (slots + rm.slots) → Qc v T'.heap Lc → own_Go p e s below Q cm sm T' { g with pc := g.pc + 3, stack := v.toList ++ rest }) :
    own_Go p e s below Q cm sm T g := by
  obtain ⟨v, _, ⟨T', L', k', n'⟩, -, X', ⟨Lc, hQ, l1, y1, z1⟩, st⟩ := X.specialBack hx (y := y) hy1 hown (mvT hZ w1) (mvT hZ w2) (mvT hZ w4) hy (backOf (W := W) hM hZ w4 w3 hf hl) hg hsize (Steps.refl _) (a := a) (argsL := argsL) (rest := rest) (lenOf hpd hlen) hstack hW hdg (fun _ _ => ⟨has, eT, hc, hs⟩)
  dsimp only [Pt.U, Pt.locs, Pt.cells, Pt.slots] at X' l1 y1 z1 st hQ
  subst l1 y1 z1
  exact own_st (fun _ q => st.trans q) (k T' v Lc X' hQ)
theorem own_callV (X : Stand p l e R s m args below meth c T locs cells slots) (hx : p.tables.exec = Jvm.exec) (hZ : Z.Warmed39 s.vm) {own C : String} {index : Nat} {y : MethodName} {bytes : ByteArray} {maxL : Nat} {ret : Option FieldType} (hown : s.vm.findClass own = some m.cls)
    (w1 : (Jvm.Cond.methodLink own index y).before a0 Z = true) (w2 : (Jvm.Cond.declares y).before a0 Z = true) (w5 : (Jvm.Cond.selects C y y).before a0 Z = true) (w6 : (Jvm.Cond.instanceMethod y).before a0 Z = true) (w3 : (Jvm.Cond.initialized y.cls).before a0 Z = true) (w4 : (Jvm.Cond.code y bytes maxL ret).before a0 Z = true)
    (hy : y.cls ≠ "java/lang/invoke/MethodHandle" ∧ y.cls ≠ "java/lang/invoke/VarHandle") {rm : Room} {as : Array Value} {Qc : Option Value → Heap → List Loc → Prop} (eT : T.heap = h)
    (hM : own_Met l Z y bytes maxL ret rm [] as h Qc rm.cells rm.slots) (W : Nat) (hf : rm.frames + 1 ≤ R.frames) (hl : W + (maxL + 11) + rm.locals ≤ R.locals) {a : Addr} (E : Exa Z h a C)
    {g : JFrame} (hg : g.method = m) (hsize : g.locals.size = c.maxLocals) {argsL rest : List Value} {ps : List FieldType} {r : Option FieldType} (hpd : parseMethodDescriptor y.desc = some ⟨ps, r⟩) (hlen : argsL.length = ps.length) (has : (Value.ref a :: argsL).toArray = as)
    (hstack : g.stack = argsL.reverse ++ .ref a :: rest) (hW : 2 * g.monitorRoom + (rest.map fun v => v.category).sum ≤ W) (hdg : decode c.code g.pc = .ok (.invokevirtual index, 3)) (hc : cells + rm.cells ≤ R.cells) (hs : slots + rm.slots ≤ R.slots)
    (k : ∀ (T' : State) (v : Option Value) (Lc : List Loc), Stand p l e R s m args below meth c T' (locs ++ Lc) (cells + rm.cells) (slots + rm.slots) → Qc v T'.heap Lc → own_Go p e s below Q cm sm T' { g with pc := g.pc + 3, stack := v.toList ++ rest }) :
    own_Go p e s below Q cm sm T g := by
  obtain ⟨cq, kq, qa, qb, qc⟩ := isOf hZ eT E
  obtain ⟨v, _, ⟨T', L', k', n'⟩, -, X', ⟨Lc, hQ, l1, y1, z1⟩, st⟩ := X.virtualBack hx (y := y) (z := y) hown (mvT hZ w1) (mvT hZ w2) (notFace_of_selects (args := #[]) (mvT hZ w5)) (mvT hZ w5) (mvT hZ w6) hy (backOf (W := W) hM hZ w4 w3 hf hl) qa qc hg hsize (Steps.refl _) (argsL := argsL) (rest := rest) (lenOf hpd hlen) hstack hW hdg (fun _ _ => ⟨has, eT, hc, hs⟩)
  dsimp only [Pt.U, Pt.locs, Pt.cells, Pt.slots] at X' l1 y1 z1 st hQ
  subst l1 y1 z1
  exact own_st (fun _ q => st.trans q) (k T' v Lc X' hQ)
/-! arrays by the list of their values -/
theorem own_ix {n j : Int32} {vs : List Value} {d : Value} {a : Addr} {k : ClassId} {ty : FieldType} (V : Arv Z h a k ty n vs d) (hj : ¬ j < 0 ∧ j < n) : ∃ cl : Cell, Arr Z h a cl ty ∧ ¬ (j < 0 ∨ cl.slots.size ≤ j.toNatClampNeg) ∧ cl.slots[j.toNatClampNeg]? = some (vs.getD j.toNatClampNeg d) := by
  obtain ⟨cl, A, -, S, N, H, -⟩ := V
  have q := inb_of S hj
  exact ⟨cl, A, q, H _ (Nat.lt_of_not_le fun y => q (Or.inr y))⟩
theorem own_len (X : Stand p l e R s m args below meth c T locs cells slots) (hx : p.tables.exec = Jvm.exec) (hZ : Z.Warmed39 s.vm) (eT : T.heap = h) {a : Addr} {k : ClassId} {ty : FieldType} {n : Int32} {vs : List Value} {d : Value} (V : Arv Z h a k ty n vs d)
    {g : JFrame} (hg : g.method = m) {rest : List Value} (hs : g.stack = .ref a :: rest) (hd : decode c.code g.pc = .ok (.arraylength, 1)) :
    ∀ t, Steps p.tables e below (T.setTop { g with pc := g.pc + 1, stack := .int n :: rest }) t → Steps p.tables e below (T.setTop g) t := by
  obtain ⟨cl, A, -, S, N, -, -⟩ := V
  intro t k
  refine X.arraylength hx (by rw [eT]; exact A.1) (State.isArrayOf_alike hZ.alike A.2.1) hg hs hd t ?_
  rw [len_of S N]; exact k
theorem own_ldI (X : Stand p l e R s m args below meth c T locs cells slots) (hx : p.tables.exec = Jvm.exec) (hZ : Z.Warmed39 s.vm) (eT : T.heap = h) {a : Addr} {k : ClassId} {n : Int32} {vs : List Value} {d : Value} (V : Arv Z h a k .int n vs d) {j x : Int32} (hj : ¬ j < 0 ∧ j < n) (hv : vs.getD j.toNatClampNeg d = .int x)
    {g : JFrame} (hg : g.method = m) {rest : List Value} (hs : g.stack = .int j :: .ref a :: rest) (hd : decode c.code g.pc = .ok (.iaload, 1)) :
    ∀ t, Steps p.tables e below (T.setTop { g with pc := g.pc + 1, stack := .int x :: rest }) t → Steps p.tables e below (T.setTop g) t := by
  obtain ⟨cl, A, q, H⟩ := own_ix V hj
  exact X.iaload hx (j := j) (v := .int x) (by rw [eT]; exact A.1) (State.isArrayOf_alike hZ.alike A.2.1) A.2.2 q (hv ▸ H) hg hs hd
theorem own_ldB (X : Stand p l e R s m args below meth c T locs cells slots) (hx : p.tables.exec = Jvm.exec) (hZ : Z.Warmed39 s.vm) (eT : T.heap = h) {a : Addr} {k : ClassId} {n : Int32} {vs : List Value} {d : Value} (V : Arv Z h a k .byte n vs d) {j x : Int32} (hj : ¬ j < 0 ∧ j < n) (hv : vs.getD j.toNatClampNeg d = .int x)
    {g : JFrame} (hg : g.method = m) {rest : List Value} (hs : g.stack = .int j :: .ref a :: rest) (hd : decode c.code g.pc = .ok (.baload, 1)) :
    ∀ t, Steps p.tables e below (T.setTop { g with pc := g.pc + 1, stack := .int x :: rest }) t → Steps p.tables e below (T.setTop g) t := by
  obtain ⟨cl, A, q, H⟩ := own_ix V hj
  exact X.baloadBytes hx (j := j) (v := .int x) (by rw [eT]; exact A.1) (State.isArrayOf_alike hZ.alike A.2.1) A.2.2 q (hv ▸ H) hg hs hd
theorem own_ldJ (X : Stand p l e R s m args below meth c T locs cells slots) (hx : p.tables.exec = Jvm.exec) (hZ : Z.Warmed39 s.vm) (eT : T.heap = h) {a : Addr} {k : ClassId} {n : Int32} {vs : List Value} {d : Value} (V : Arv Z h a k .long n vs d) {j : Int32} {x : Int64} (hj : ¬ j < 0 ∧ j < n) (hv : vs.getD j.toNatClampNeg d = .long x)
    {g : JFrame} (hg : g.method = m) {rest : List Value} (hs : g.stack = .int j :: .ref a :: rest) (hd : decode c.code g.pc = .ok (.laload, 1)) :
    ∀ t, Steps p.tables e below (T.setTop { g with pc := g.pc + 1, stack := .long x :: rest }) t → Steps p.tables e below (T.setTop g) t := by
  obtain ⟨cl, A, q, H⟩ := own_ix V hj
  exact X.laload hx (j := j) (v := .long x) (by rw [eT]; exact A.1) (State.isArrayOf_alike hZ.alike A.2.1) A.2.2 q (hv ▸ H) hg hs hd
theorem own_stI (X : Stand p l e R s m args below meth c T locs cells slots) (hx : p.tables.exec = Jvm.exec) (hZ : Z.Warmed39 s.vm) (eT : T.heap = h) {a : Addr} {k : ClassId} {n : Int32} {vs : List Value} {d : Value} (V : Arv Z h a k .int n vs d) {j x : Int32} (hj : ¬ j < 0 ∧ j < n) (hl : j.toNatClampNeg < vs.length)
    {g : JFrame} (hg : g.method = m) {rest : List Value} (hs : g.stack = .int x :: .int j :: .ref a :: rest) (hd : decode c.code g.pc = .ok (.iastore, 1)) :
    ∃ T' h', Stand p l e R s m args below meth c T' (locs ++ [⟨a, j.toNatClampNeg⟩]) cells slots ∧ T'.heap = h' ∧ Wr h h' a j.toNatClampNeg (.int x) ∧ Arv Z h' a k .int n (vs.set j.toNatClampNeg (.int x)) d ∧ ∀ t, Steps p.tables e below (T'.setTop { g with pc := g.pc + 1, stack := rest }) t → Steps p.tables e below (T.setTop g) t := by
  obtain ⟨cl, A, q1, S, N, H, G⟩ := V
  obtain ⟨T', h', X', e', W, st⟩ := stI X hx hZ eT A (j := j) (inb_of S hj) hg hs hd
  exact ⟨T', h', X', e', W, Arv.set A q1 S N H G rfl W _ rfl hl, st⟩
theorem own_stJ (X : Stand p l e R s m args below meth c T locs cells slots) (hx : p.tables.exec = Jvm.exec) (hZ : Z.Warmed39 s.vm) (eT : T.heap = h) {a : Addr} {k : ClassId} {n : Int32} {vs : List Value} {d : Value} (V : Arv Z h a k .long n vs d) {j : Int32} {x : Int64} (hj : ¬ j < 0 ∧ j < n) (hl : j.toNatClampNeg < vs.length)
    {g : JFrame} (hg : g.method = m) {rest : List Value} (hs : g.stack = .long x :: .int j :: .ref a :: rest) (hd : decode c.code g.pc = .ok (.lastore, 1)) :
    ∃ T' h', Stand p l e R s m args below meth c T' (locs ++ [⟨a, j.toNatClampNeg⟩]) cells slots ∧ T'.heap = h' ∧ Wr h h' a j.toNatClampNeg (.long x) ∧ Arv Z h' a k .long n (vs.set j.toNatClampNeg (.long x)) d ∧ ∀ t, Steps p.tables e below (T'.setTop { g with pc := g.pc + 1, stack := rest }) t → Steps p.tables e below (T.setTop g) t := by
  obtain ⟨cl, A, q1, S, N, H, G⟩ := V
  obtain ⟨T', h', X', e', W, st⟩ := stJ X hx hZ eT A (j := j) (inb_of S hj) hg hs hd
  exact ⟨T', h', X', e', W, Arv.set A q1 S N H G rfl W _ rfl hl, st⟩
theorem own_stB (X : Stand p l e R s m args below meth c T locs cells slots) (hx : p.tables.exec = Jvm.exec) (hZ : Z.Warmed39 s.vm) (eT : T.heap = h) {a : Addr} {k : ClassId} {n : Int32} {vs : List Value} {d : Value} (V : Arv Z h a k .byte n vs d) {j x x' : Int32} (hj : ¬ j < 0 ∧ j < n) (hl : j.toNatClampNeg < vs.length) (hn : x.toInt8.toInt32 = x')
    {g : JFrame} (hg : g.method = m) {rest : List Value} (hs : g.stack = .int x :: .int j :: .ref a :: rest) (hd : decode c.code g.pc = .ok (.bastore, 1)) :
    ∃ T' h', Stand p l e R s m args below meth c T' (locs ++ [⟨a, j.toNatClampNeg⟩]) cells slots ∧ T'.heap = h' ∧ Wr h h' a j.toNatClampNeg (.int x') ∧ Arv Z h' a k .byte n (vs.set j.toNatClampNeg (.int x')) d ∧ ∀ t, Steps p.tables e below (T'.setTop { g with pc := g.pc + 1, stack := rest }) t → Steps p.tables e below (T.setTop g) t := by
  subst hn
  obtain ⟨cl, A, q1, S, N, H, G⟩ := V
  obtain ⟨T', h', X', e', W, st⟩ := stB X hx hZ eT A (j := j) (inb_of S hj) hg hs hd
  exact ⟨T', h', X', e', W, Arv.set A q1 S N H G (fits_nar_byte _) W _ rfl hl, st⟩
theorem own_ldR (X : Stand p l e R s m args below meth c T locs cells slots) (hx : p.tables.exec = Jvm.exec) (hZ : Z.Warmed39 s.vm) (eT : T.heap = h) {a : Addr} {k : ClassId} {ty : FieldType} {n : Int32} {vs : List Value} {d : Value} (V : Arv Z h a k ty n vs d) (hty : ty.isReference = true) {j : Int32} {v : Value} (hj : ¬ j < 0 ∧ j < n) (hv : vs.getD j.toNatClampNeg d = v)
    {g : JFrame} (hg : g.method = m) {rest : List Value} (hs : g.stack = .int j :: .ref a :: rest) (hd : decode c.code g.pc = .ok (.aaload, 1)) :
    ∀ t, Steps p.tables e below (T.setTop { g with pc := g.pc + 1, stack := v :: rest }) t → Steps p.tables e below (T.setTop g) t := by
  obtain ⟨cl, A, q, H⟩ := own_ix V hj
  exact X.aaload hx (j := j) (v := v) (by rw [eT]; exact A.1) (State.isArrayOf_alike hZ.alike A.2.1) hty A.2.2 q (hv ▸ H) hg hs hd
theorem own_stR (X : Stand p l e R s m args below meth c T locs cells slots) (hx : p.tables.exec = Jvm.exec) (hZ : Z.Warmed39 s.vm) (eT : T.heap = h) {a : Addr} {k : ClassId} {ty : FieldType} {n : Int32} {vs : List Value} {d : Value} (V : Arv Z h a k ty n vs d) (hty : ty.isReference = true) {v : Value} (F : ∀ cl : Cell, Arr Z h a cl ty → cl.cls = k → Sto Z h a v) (hf : fits ty v = true) {j : Int32} (hj : ¬ j < 0 ∧ j < n) (hl : j.toNatClampNeg < vs.length)
    {g : JFrame} (hg : g.method = m) {rest : List Value} (hs : g.stack = v :: .int j :: .ref a :: rest) (hd : decode c.code g.pc = .ok (.aastore, 1)) :
    ∃ T' h', Stand p l e R s m args below meth c T' (locs ++ [⟨a, j.toNatClampNeg⟩]) cells slots ∧ T'.heap = h' ∧ Wr h h' a j.toNatClampNeg v ∧ Arv Z h' a k ty n (vs.set j.toNatClampNeg v) d ∧ ∀ t, Steps p.tables e below (T'.setTop { g with pc := g.pc + 1, stack := rest }) t → Steps p.tables e below (T.setTop g) t := by
  obtain ⟨cl, A, q1, S, N, H, G⟩ := V
  obtain ⟨T', h', X', e', W, st⟩ := stR X hx hZ eT A (j := j) (inb_of S hj) hty (F cl A q1) hg hs hd
  exact ⟨T', h', X', e', W, Arv.set A q1 S N H G hf W _ rfl hl, st⟩
/-! booleans -/
def own_b (P : Prop) [Decidable P] : Int32 := if P then 1 else 0
theorem own_bt {P : Prop} [Decidable P] (q : P) : own_b P = 1 := if_pos q
theorem own_bf {P : Prop} [Decidable P] (q : ¬ P) : own_b P = 0 := if_neg q
theorem own_bnar {P : Prop} [Decidable P] : nar .boolean (own_b P) = own_b P := by
  by_cases q : P
  · rw [own_bt q]; decide
  · rw [own_bf q]; decide
theorem own_bnw {P : Prop} [Decidable P] : narrow .boolean (.int (own_b P)) = .int (own_b P) := congrArg Value.int (own_bnar (P := P))
theorem own_by {P : Prop} [Decidable P] (q : P) : ifCond.holds .ne (own_b P) = true ∧ ifCond.holds .eq (own_b P) = false := by rw [own_bt q]; decide
theorem own_bn {P : Prop} [Decidable P] (q : ¬ P) : ifCond.holds .eq (own_b P) = true ∧ ifCond.holds .ne (own_b P) = false := by rw [own_bf q]; decide
theorem own_beq {P P' : Prop} [Decidable P] [Decidable P'] (q : P ↔ P') : own_b P = own_b P' := by
  by_cases r : P
  · rw [own_bt r, own_bt (q.mp r)]
  · rw [own_bf r, own_bf fun x => r (q.mpr x)]
end OwnKit

theorem d1_0 : decode prog_178_method_1_code 0 = .ok (.aload_n 0, 1) := by decide +kernel
theorem d1_1 : decode prog_178_method_1_code 1 = .ok (.bipush 6, 2) := by decide +kernel
theorem d1_3 : decode prog_178_method_1_code 3 = .ok (.newarray .long, 2) := by decide +kernel
theorem d1_5 : decode prog_178_method_1_code 5 = .ok (.invokespecial 3, 3) := by decide +kernel
theorem d1_8 : decode prog_178_method_1_code 8 = .ok (.return_, 1) := by decide +kernel
theorem pf1 : plainFor (⟨"com/example/coterie/coterie/network/peer/MessageCount", "<init>", "()V"⟩ : MethodName) = true := by first | (exact plainFor_of_name (by first | (simp [plainName, overriddenIn]; done) | decide +kernel)) | decide +kernel
theorem d2_0 : decode prog_178_method_2_code 0 = .ok (.aload_n 0, 1) := by decide +kernel
theorem d2_1 : decode prog_178_method_2_code 1 = .ok (.invokespecial 7, 3) := by decide +kernel
theorem d2_4 : decode prog_178_method_2_code 4 = .ok (.aload_n 0, 1) := by decide +kernel
theorem d2_5 : decode prog_178_method_2_code 5 = .ok (.aload_n 1, 1) := by decide +kernel
theorem d2_6 : decode prog_178_method_2_code 6 = .ok (.putfield 12, 3) := by decide +kernel
theorem d2_9 : decode prog_178_method_2_code 9 = .ok (.return_, 1) := by decide +kernel
theorem pf2 : plainFor (⟨"com/example/coterie/coterie/network/peer/MessageCount", "<init>", "([J)V"⟩ : MethodName) = true := by first | (exact plainFor_of_name (by first | (simp [plainName, overriddenIn]; done) | decide +kernel)) | decide +kernel
theorem d4_0 : decode prog_178_method_3_code 0 = .ok (.aload_n 0, 1) := by decide +kernel
theorem d4_1 : decode prog_178_method_3_code 1 = .ok (.arraylength, 1) := by decide +kernel
theorem d4_2 : decode prog_178_method_3_code 2 = .ok (.bipush 6, 2) := by decide +kernel
theorem d4_4 : decode prog_178_method_3_code 4 = .ok (.if_icmp .eq 18, 3) := by decide +kernel
theorem d4_7 : decode prog_178_method_3_code 7 = .ok (.new 16, 3) := by decide +kernel
theorem d4_10 : decode prog_178_method_3_code 10 = .ok (.dup, 1) := by decide +kernel
theorem d4_11 : decode prog_178_method_3_code 11 = .ok (.aload_n 0, 1) := by decide +kernel
theorem d4_12 : decode prog_178_method_3_code 12 = .ok (.arraylength, 1) := by decide +kernel
theorem d4_13 : decode prog_178_method_3_code 13 = .ok (.invokedynamic 18, 5) := by decide +kernel
theorem d4_18 : decode prog_178_method_3_code 18 = .ok (.invokespecial 22, 3) := by decide +kernel
theorem d4_21 : decode prog_178_method_3_code 21 = .ok (.athrow, 1) := by decide +kernel
theorem d4_22 : decode prog_178_method_3_code 22 = .ok (.new 1, 3) := by decide +kernel
theorem d4_25 : decode prog_178_method_3_code 25 = .ok (.dup, 1) := by decide +kernel
theorem d4_26 : decode prog_178_method_3_code 26 = .ok (.aload_n 0, 1) := by decide +kernel
theorem d4_27 : decode prog_178_method_3_code 27 = .ok (.invokevirtual 25, 3) := by decide +kernel
theorem d4_30 : decode prog_178_method_3_code 30 = .ok (.checkcast 26, 3) := by decide +kernel
theorem d4_33 : decode prog_178_method_3_code 33 = .ok (.invokespecial 3, 3) := by decide +kernel
theorem d4_36 : decode prog_178_method_3_code 36 = .ok (.areturn, 1) := by decide +kernel
theorem pf4 : plainFor (⟨"com/example/coterie/coterie/network/peer/MessageCount", "of", "([J)Lcom/example/coterie/coterie/network/peer/MessageCount;"⟩ : MethodName) = true := by first | (exact plainFor_of_name (by first | (simp [plainName, overriddenIn]; done) | decide +kernel)) | decide +kernel
theorem d5_0 : decode prog_178_method_5_code 0 = .ok (.iconst 0, 1) := by decide +kernel
theorem d5_1 : decode prog_178_method_5_code 1 = .ok (.istore_n 2, 1) := by decide +kernel
theorem d5_2 : decode prog_178_method_5_code 2 = .ok (.iload_n 2, 1) := by decide +kernel
theorem d5_3 : decode prog_178_method_5_code 3 = .ok (.bipush 6, 2) := by decide +kernel
theorem d5_5 : decode prog_178_method_5_code 5 = .ok (.if_icmp .ge 24, 3) := by decide +kernel
theorem d5_8 : decode prog_178_method_5_code 8 = .ok (.aload_n 0, 1) := by decide +kernel
theorem d5_9 : decode prog_178_method_5_code 9 = .ok (.getfield 12, 3) := by decide +kernel
theorem d5_12 : decode prog_178_method_5_code 12 = .ok (.iload_n 2, 1) := by decide +kernel
theorem d5_13 : decode prog_178_method_5_code 13 = .ok (.dup2, 1) := by decide +kernel
theorem d5_14 : decode prog_178_method_5_code 14 = .ok (.laload, 1) := by decide +kernel
theorem d5_15 : decode prog_178_method_5_code 15 = .ok (.aload_n 1, 1) := by decide +kernel
theorem d5_16 : decode prog_178_method_5_code 16 = .ok (.getfield 12, 3) := by decide +kernel
theorem d5_19 : decode prog_178_method_5_code 19 = .ok (.iload_n 2, 1) := by decide +kernel
theorem d5_20 : decode prog_178_method_5_code 20 = .ok (.laload, 1) := by decide +kernel
theorem d5_21 : decode prog_178_method_5_code 21 = .ok (.ladd, 1) := by decide +kernel
theorem d5_22 : decode prog_178_method_5_code 22 = .ok (.lastore, 1) := by decide +kernel
theorem d5_23 : decode prog_178_method_5_code 23 = .ok (.iinc 2 1, 3) := by decide +kernel
theorem d5_26 : decode prog_178_method_5_code 26 = .ok (.goto (-24), 3) := by decide +kernel
theorem d5_29 : decode prog_178_method_5_code 29 = .ok (.return_, 1) := by decide +kernel
theorem pf5 : plainFor (⟨"com/example/coterie/coterie/network/peer/MessageCount", "add", "(Lcom/example/coterie/coterie/network/peer/MessageCount;)V"⟩ : MethodName) = true := by first | (exact plainFor_of_name (by first | (simp [plainName, overriddenIn]; done) | decide +kernel)) | decide +kernel
theorem d6_0 : decode prog_178_method_6_code 0 = .ok (.aload_n 0, 1) := by decide +kernel
theorem d6_1 : decode prog_178_method_6_code 1 = .ok (.getfield 12, 3) := by decide +kernel
theorem d6_4 : decode prog_178_method_6_code 4 = .ok (.invokevirtual 25, 3) := by decide +kernel
theorem d6_7 : decode prog_178_method_6_code 7 = .ok (.checkcast 26, 3) := by decide +kernel
theorem d6_10 : decode prog_178_method_6_code 10 = .ok (.areturn, 1) := by decide +kernel
theorem pf6 : plainFor (⟨"com/example/coterie/coterie/network/peer/MessageCount", "counts", "()[J"⟩ : MethodName) = true := by first | (exact plainFor_of_name (by first | (simp [plainName, overriddenIn]; done) | decide +kernel)) | decide +kernel
theorem pf0 : plainFor x = true := plainFor_of_name (by first | (simp [x, plainName, overriddenIn]; done) | decide +kernel)
theorem pd0 : parseMethodDescriptor "()V" = some ⟨[], none⟩ := by decide +kernel
theorem pd1 : parseMethodDescriptor "([J)V" = some ⟨[(.array .long)], none⟩ := by decide +kernel
theorem pd2 : parseMethodDescriptor "([J)Lcom/example/coterie/coterie/network/peer/MessageCount;" = some ⟨[(.array .long)], some (.object "com/example/coterie/coterie/network/peer/MessageCount")⟩ := by decide +kernel
theorem pd3 : parseMethodDescriptor "(Lcom/example/coterie/coterie/network/peer/MessageCount;)V" = some ⟨[(.object "com/example/coterie/coterie/network/peer/MessageCount")], none⟩ := by decide +kernel
theorem pd4 : parseMethodDescriptor "()[J" = some ⟨[], some (.array .long)⟩ := by decide +kernel
theorem ef_rm2 (m : MethodId) (z0 : Addr) (z1 : Addr) : entryFrame m #[(.ref z0), (.ref z1)] 2 = mkF m 0 #[.val (.ref z0), .val (.ref z1)] [] := by first | (simp [entryFrame, mkF, argsToLocals, Value.category]; done) | rfl
set_option maxRecDepth 65536 in
set_option maxHeartbeats 40000000 in
theorem rm2 (l : Launch) (Z : State) (a0 : Array Value) (hw : ∀ d ∈ tables_1, d.before a0 Z = true) (ws : List Jvm.Cond) (a b : Addr) (h0 : Heap) (n0 : Nat) (Z0 : n0 ≤ h0.size) (E_a : (Exa Z h0 a "com/example/coterie/coterie/network/peer/MessageCount")) (F_counts_a : (Fld Z h0 a "com/example/coterie/coterie/network/peer/MessageCount" "counts" "[J" .null)) (g_a : n0 ≤ a) :
    own_Met l Z (⟨"com/example/coterie/coterie/network/peer/MessageCount", "<init>", "([J)V"⟩ : MethodName) prog_178_method_2_code 2 none ({ frames := 1, cells := 0, slots := 0, locals := 12 } : Room) ws #[(.ref a), (.ref b)] h0 (fun v h L => v = none ∧ Fr n0 L ∧ Keep h0 h [a] ∧ (Exa Z h a "com/example/coterie/coterie/network/peer/MessageCount") ∧ (Fld Z h a "com/example/coterie/coterie/network/peer/MessageCount" "counts" "[J" (.ref b))) 0 0 := by
  refine own_enter pf2 (fun m => ef_rm2 m a b) ?_
  intro p e s m below meth c T0 hx hby hml hown hnm hret hlk hZ X0 e0
  have N0 := Fr.nil n0
  show own_Go p e s below _ _ _ T0 (mkF m 0 #[.val (.ref a), .val (.ref b)] [])
  have K_0 := Keep.refl h0 [a]
  refine own_st (fun _ k => XS.aloadN X0.here hx rfl (hb hby d2_0) rfl rfl k) ?_
  show own_Go p e s below _ _ _ T0 (mkF m 1 #[.val (.ref a), .val (.ref b)] [(.ref a)])
  obtain ⟨T1, X1, e1, st1⟩ := initO X0 hx hZ hown (hw _ (List.mem_of_getElem? (i := 10) rfl)) (hw _ (List.mem_of_getElem? (i := 11) rfl)) (hw _ (List.mem_of_getElem? (i := 12) rfl)) e0 (g := (mkF m 1 #[.val (.ref a), .val (.ref b)] [(.ref a)])) rfl (by rw [hml]; rfl) rfl (hb hby d2_1) (by decide) (W := 0) (by show 2 * 0 + _ ≤ _; exact Nat.le_of_eq rfl) (by decide)
  refine own_st st1 ?_
  show own_Go p e s below _ _ _ T1 (mkF m 4 #[.val (.ref a), .val (.ref b)] [])
  refine own_st (fun _ k => XS.aloadN X1.here hx rfl (hb hby d2_4) rfl rfl k) ?_
  show own_Go p e s below _ _ _ T1 (mkF m 5 #[.val (.ref a), .val (.ref b)] [(.ref a)])
  refine own_st (fun _ k => XS.aloadN X1.here hx rfl (hb hby d2_5) rfl rfl k) ?_
  show own_Go p e s below _ _ _ T1 (mkF m 6 #[.val (.ref a), .val (.ref b)] [(.ref b), (.ref a)])
  obtain ⟨T2, h2, X2, e2, W2, st2⟩ := putF X1 hx hZ hown (host := "") (Or.inl (hw _ (List.mem_of_getElem? (i := 13) rfl))) Via.refl e1 F_counts_a E_a (Or.inr ⟨hw _ (List.mem_of_getElem? (i := 14) rfl), rfl, hnm⟩) (hw _ (List.mem_of_getElem? (i := 1) rfl)) (ty := (.array .long)) (by decide) rfl rfl (g := (mkF m 6 #[.val (.ref a), .val (.ref b)] [(.ref b), (.ref a)])) rfl rfl (hb hby d2_6)
  refine own_st st2 ?_
  replace F_counts_a := F_counts_a.same W2
  replace E_a := E_a.wr W2
  have Z3 := Nat.le_trans Z0 (Keep.of_wr W2).1
  have K4 := K_0.wr W2 (Or.inl (List.mem_of_getElem? (i := 0) rfl))
  have N2 := Fr.snoc X2 N0 g_a
  show own_Go p e s below _ _ _ T2 (mkF m 9 #[.val (.ref a), .val (.ref b)] [])
  exact own_ret0 X2 hx hlk hret (hb hby d2_9) (by decide) (by decide) (by rw [e2]; exact ⟨rfl, N2, K4, E_a, F_counts_a⟩)
theorem ef_rm1 (m : MethodId) (z0 : Addr) : entryFrame m #[(.ref z0)] 1 = mkF m 0 #[.val (.ref z0)] [] := by first | (simp [entryFrame, mkF, argsToLocals, Value.category]; done) | rfl
set_option maxRecDepth 65536 in
set_option maxHeartbeats 40000000 in
theorem rm1 (l : Launch) (Z : State) (a0 : Array Value) (hw : ∀ d ∈ tables_1, d.before a0 Z = true) (ws : List Jvm.Cond) (a : Addr) (h0 : Heap) (n0 : Nat) (Z0 : n0 ≤ h0.size) (E_a : (Exa Z h0 a "com/example/coterie/coterie/network/peer/MessageCount")) (F_counts_a : (Fld Z h0 a "com/example/coterie/coterie/network/peer/MessageCount" "counts" "[J" .null)) (g_a : n0 ≤ a) :
    own_Met l Z (⟨"com/example/coterie/coterie/network/peer/MessageCount", "<init>", "()V"⟩ : MethodName) prog_178_method_1_code 1 none ({ frames := 2, cells := 1, slots := 6, locals := 25 } : Room) ws #[(.ref a)] h0 (fun v h L => ∃ (b : Addr) (k : ClassId), v = none ∧ Fr n0 L ∧ Keep h0 h [a] ∧ (h0.size ≤ b) ∧ (Exa Z h a "com/example/coterie/coterie/network/peer/MessageCount") ∧ (Fld Z h a "com/example/coterie/coterie/network/peer/MessageCount" "counts" "[J" (.ref b)) ∧ (Arv Z h b k .long (6 : Int32) [(.long (0 : Int64)), (.long (0 : Int64)), (.long (0 : Int64)), (.long (0 : Int64)), (.long (0 : Int64)), (.long (0 : Int64))] (.long (0 : Int64))) ∧ (Exa Z h b "[J")) 1 6 := by
  refine own_enter pf1 (fun m => ef_rm1 m a) ?_
  intro p e s m below meth c T0 hx hby hml hown hnm hret hlk hZ X0 e0
  have N0 := Fr.nil n0
  show own_Go p e s below _ _ _ T0 (mkF m 0 #[.val (.ref a)] [])
  have K_0 := Keep.refl h0 [a]
  refine own_st (fun _ k => XS.aloadN X0.here hx rfl (hb hby d1_0) rfl rfl k) ?_
  show own_Go p e s below _ _ _ T0 (mkF m 1 #[.val (.ref a)] [(.ref a)])
  refine own_st (fun _ k => XS.bipush X0.here hx rfl (hb hby d1_1) k) ?_
  show own_Go p e s below _ _ _ T0 (mkF m 3 #[.val (.ref a)] [(.int (6 : Int32)), (.ref a)])
  obtain ⟨T5, h5, k5, X5, e5, E5, A5, Ex5, st5⟩ := newPE X0 hx hZ (hw _ (List.mem_of_getElem? (i := 6) rfl)) e0 (g := (mkF m 3 #[.val (.ref a)] [(.int (6 : Int32)), (.ref a)])) rfl (hb hby d1_3) rfl (by decide) (cap := 6) (by decide) (by decide) (by decide) (by decide) (ad := "[J") (by decide)
  obtain ⟨b, g5⟩ : ∃ z, z = h0.size := ⟨_, rfl⟩
  rw [← g5] at A5 Ex5 st5
  have g_b : n0 ≤ b := Nat.le_trans Z0 (Nat.le_of_eq g5.symm)
  have ne_a_b : a ≠ b := Nat.ne_of_lt (Nat.lt_of_lt_of_le E_a.lt (Nat.le_of_eq g5.symm))
  have ne_b_a := Ne.symm ne_a_b
  have sz_b := Nat.le_trans K_0.1 (Nat.le_of_eq g5.symm)
  replace E_a := E_a.ext E5
  replace F_counts_a := F_counts_a.ext E5
  have Z6 := Nat.le_trans Z0 E5.1
  have K7 := K_0.ext E5
  have V_b : Arv Z h5 b k5 .long (6 : Int32) [(.long (0 : Int64)), (.long (0 : Int64)), (.long (0 : Int64)), (.long (0 : Int64)), (.long (0 : Int64)), (.long (0 : Int64))] (.long (0 : Int64)) := (Arv.new A5 (by decide)).pad (pad_rep [] (.long (0 : Int64)) 6)
  have E_b := Ex5
  refine own_st st5 ?_
  show own_Go p e s below _ _ _ T5 (mkF m 5 #[.val (.ref a)] [(.ref b), (.ref a)])
  refine own_callN X5 hx hZ (y := (⟨"com/example/coterie/coterie/network/peer/MessageCount", "<init>", "([J)V"⟩ : MethodName)) rfl hown (hw _ (List.mem_of_getElem? (i := 7) rfl)) (hw _ (List.mem_of_getElem? (i := 8) rfl)) (hw _ (List.mem_of_getElem? (i := 2) rfl)) (hw _ (List.mem_of_getElem? (i := 9) rfl)) (by decide) e5 (rm2 l Z a0 hw [] a b h5 n0 Z6 E_a F_counts_a g_a) 0 (by decide) (by decide) (g := (mkF m 5 #[.val (.ref a)] [(.ref b), (.ref a)])) rfl (by rw [hml]; rfl) (a := a) (argsL := [(.ref b)]) (rest := []) pd1 rfl rfl rfl (by show 2 * 0 + _ ≤ _; exact Nat.le_of_eq rfl) (hb hby d1_5) (by decide) (by decide) ?_
  intro T8 v8 L8 X8 hQ8
  obtain ⟨rfl, N8q, K8q, y8_0, y8_1⟩ := hQ8
  have N8 := Fr.app N0 N8q
  replace E_a := E_a.keep K8q
  clear F_counts_a
  replace V_b := V_b.keep K8q (ninS ne_b_a nin0)
  replace E_b := E_b.keep K8q
  have Z9 := Nat.le_trans Z6 K8q.1
  have K10 := K7.trans K8q (allS (Or.inl (List.mem_of_getElem? (i := 0) rfl)) all0)
  have E_a := y8_0
  have F_counts_a := y8_1
  show own_Go p e s below _ _ _ T8 (mkF m 8 #[.val (.ref a)] [])
  exact own_ret0 X8 hx hlk hret (hb hby d1_8) (by decide) (by decide) ⟨b, k5, rfl, N8, K10, sz_b, E_a, F_counts_a, V_b, E_b⟩
theorem ef_rm4 (m : MethodId) (z0 : Addr) : entryFrame m #[(.ref z0)] 1 = mkF m 0 #[.val (.ref z0)] [] := by first | (simp [entryFrame, mkF, argsToLocals, Value.category]; done) | rfl
set_option maxRecDepth 65536 in
set_option maxHeartbeats 40000000 in
theorem rm4 (l : Launch) (Z : State) (a0 : Array Value) (hw : ∀ d ∈ tables_1, d.before a0 Z = true) (ws : List Jvm.Cond) (b : Addr) (k : ClassId) (u0 u1 u2 u3 u4 u5 : Int64) (h0 : Heap) (n0 : Nat) (Z0 : n0 ≤ h0.size) (V_b : Arv Z h0 b k .long (6 : Int32) [(.long u0), (.long u1), (.long u2), (.long u3), (.long u4), (.long u5)] (.long (0 : Int64))) (E_b : (Exa Z h0 b "[J")) :
    own_Met l Z (⟨"com/example/coterie/coterie/network/peer/MessageCount", "of", "([J)Lcom/example/coterie/coterie/network/peer/MessageCount;"⟩ : MethodName) prog_178_method_3_code 1 (some (.object "com/example/coterie/coterie/network/peer/MessageCount")) ({ frames := 2, cells := 2, slots := 7, locals := 26 } : Room) ws #[(.ref b)] h0 (fun v h L => ∃ a d : Addr, v = some (.ref a) ∧ Fr n0 L ∧ Keep h0 h [] ∧ (h0.size ≤ a) ∧ (h0.size ≤ d) ∧ (a ≠ d) ∧ (Exa Z h a "com/example/coterie/coterie/network/peer/MessageCount") ∧ (Fld Z h a "com/example/coterie/coterie/network/peer/MessageCount" "counts" "[J" (.ref d)) ∧ (Arv Z h d k .long (6 : Int32) [(.long u0), (.long u1), (.long u2), (.long u3), (.long u4), (.long u5)] (.long (0 : Int64))) ∧ (Exa Z h d "[J")) 2 7 := by
  refine own_enter pf4 (fun m => ef_rm4 m b) ?_
  intro p e s m below meth c T0 hx hby hml hown hnm hret hlk hZ X0 e0
  have N0 := Fr.nil n0
  show own_Go p e s below _ _ _ T0 (mkF m 0 #[.val (.ref b)] [])
  have K_0 := Keep.refl h0 []
  refine own_st (fun _ k => XS.aloadN X0.here hx rfl (hb hby d4_0) rfl rfl k) ?_
  show own_Go p e s below _ _ _ T0 (mkF m 1 #[.val (.ref b)] [(.ref b)])
  refine own_st (own_len X0 hx hZ e0 V_b (g := (mkF m 1 #[.val (.ref b)] [(.ref b)])) rfl rfl (hb hby d4_1)) ?_
  show own_Go p e s below _ _ _ T0 (mkF m 2 #[.val (.ref b)] [(.int (6 : Int32))])
  refine own_st (fun _ k => XS.bipush X0.here hx rfl (hb hby d4_2) k) ?_
  show own_Go p e s below _ _ _ T0 (mkF m 4 #[.val (.ref b)] [(.int (6 : Int32)), (.int (6 : Int32))])
  refine own_st (fun _ k => XS.icmpYes X0.here hx rfl (pc0 := 4) (pc' := 22) rfl (hb hby d4_4) rfl (by decide) (by decide) (by decide) k) ?_
  show own_Go p e s below _ _ _ T0 (mkF m 22 #[.val (.ref b)] [])
  obtain ⟨T11, h11, X11, e11, E11, A11, D11, -, st11⟩ := newO X0 hx hZ hown (hw _ (List.mem_of_getElem? (i := 18) rfl)) (hw _ (List.mem_of_getElem? (i := 1) rfl)) (hw _ (List.mem_of_getElem? (i := 2) rfl)) e0 (g := (mkF m 22 #[.val (.ref b)] [])) rfl (hb hby d4_22) (by decide) (by decide)
  obtain ⟨a, g11⟩ : ∃ z, z = h0.size := ⟨_, rfl⟩
  rw [← g11] at A11 D11 st11
  have g_a : n0 ≤ a := Nat.le_trans Z0 (Nat.le_of_eq g11.symm)
  have ne_b_a : b ≠ a := Nat.ne_of_lt (Nat.lt_of_lt_of_le V_b.lt (Nat.le_of_eq g11.symm))
  have ne_a_b := Ne.symm ne_b_a
  have sz_a := Nat.le_trans K_0.1 (Nat.le_of_eq g11.symm)
  replace V_b := V_b.ext E11
  replace E_b := E_b.ext E11
  have Z12 := Nat.le_trans Z0 E11.1
  have K13 := K_0.ext E11
  have E_a := A11
  have F_counts_a : Fld Z h11 a "com/example/coterie/coterie/network/peer/MessageCount" "counts" "[J" .null := D11 (Or.inr (hw _ (List.mem_of_getElem? (i := 14) rfl))) (ty := (.array .long)) (by decide)
  refine own_st st11 ?_
  show own_Go p e s below _ _ _ T11 (mkF m 25 #[.val (.ref b)] [(.ref a)])
  refine own_st (fun _ k => XS.dup X11.here hx rfl (hb hby d4_25) rfl rfl k) ?_
  show own_Go p e s below _ _ _ T11 (mkF m 26 #[.val (.ref b)] [(.ref a), (.ref a)])
  refine own_st (fun _ k => XS.aloadN X11.here hx rfl (hb hby d4_26) rfl rfl k) ?_
  show own_Go p e s below _ _ _ T11 (mkF m 27 #[.val (.ref b)] [(.ref b), (.ref a), (.ref a)])
  obtain ⟨T14, h14, X14, e14, E14, V14, A14, st14⟩ := cloneH X11 hx hZ hown (hw _ (List.mem_of_getElem? (i := 19) rfl)) (hw _ (List.mem_of_getElem? (i := 20) rfl)) (hw _ (List.mem_of_getElem? (i := 24) rfl)) (hw _ (List.mem_of_getElem? (i := 22) rfl)) (hw _ (List.mem_of_getElem? (i := 23) rfl)) (hw _ (List.mem_of_getElem? (i := 25) rfl)) e11 V_b.arh E_b (g := (mkF m 27 #[.val (.ref b)] [(.ref b), (.ref a), (.ref a)])) rfl (by rw [hml]; rfl) rfl (hb hby d4_27) (by decide) (W := 2) (by show 2 * 0 + _ ≤ _; exact Nat.le_of_eq rfl) (by decide) (cap := 6) (by decide) (by decide) (by decide)
  obtain ⟨d, g14⟩ : ∃ z, z = h11.size := ⟨_, rfl⟩
  rw [← g14] at V14 A14 st14
  have g_d : n0 ≤ d := Nat.le_trans Z12 (Nat.le_of_eq g14.symm)
  have ne_a_d : a ≠ d := Nat.ne_of_lt (Nat.lt_of_lt_of_le E_a.lt (Nat.le_of_eq g14.symm))
  have ne_d_a := Ne.symm ne_a_d
  have ne_b_d : b ≠ d := Nat.ne_of_lt (Nat.lt_of_lt_of_le V_b.lt (Nat.le_of_eq g14.symm))
  have ne_d_b := Ne.symm ne_b_d
  have sz_d := Nat.le_trans K13.1 (Nat.le_of_eq g14.symm)
  replace V_b := V_b.ext E14
  replace E_b := E_b.ext E14
  replace E_a := E_a.ext E14
  replace F_counts_a := F_counts_a.ext E14
  have Z15 := Nat.le_trans Z12 E14.1
  have K16 := K13.ext E14
  have V_d : Arv Z h14 d k .long (6 : Int32) [(.long u0), (.long u1), (.long u2), (.long u3), (.long u4), (.long u5)] (.long (0 : Int64)) := V14
  have E_d := A14
  refine own_st st14 ?_
  show own_Go p e s below _ _ _ T14 (mkF m 30 #[.val (.ref b)] [(.ref d), (.ref a), (.ref a)])
  obtain ⟨T17, X17, e17, st17⟩ := castY X14 hx hZ hown (hw _ (List.mem_of_getElem? (i := 26) rfl)) e14 (Ins.self E_d) (g := (mkF m 30 #[.val (.ref b)] [(.ref d), (.ref a), (.ref a)])) rfl rfl (hb hby d4_30)
  refine own_st st17 ?_
  show own_Go p e s below _ _ _ T17 (mkF m 33 #[.val (.ref b)] [(.ref d), (.ref a), (.ref a)])
  refine own_callN X17 hx hZ (y := (⟨"com/example/coterie/coterie/network/peer/MessageCount", "<init>", "([J)V"⟩ : MethodName)) rfl hown (hw _ (List.mem_of_getElem? (i := 7) rfl)) (hw _ (List.mem_of_getElem? (i := 8) rfl)) (hw _ (List.mem_of_getElem? (i := 2) rfl)) (hw _ (List.mem_of_getElem? (i := 9) rfl)) (by decide) e17 (rm2 l Z a0 hw [] a d h14 n0 Z15 E_a F_counts_a g_a) 1 (by decide) (by decide) (g := (mkF m 33 #[.val (.ref b)] [(.ref d), (.ref a), (.ref a)])) rfl (by rw [hml]; rfl) (a := a) (argsL := [(.ref d)]) (rest := [(.ref a)]) pd1 rfl rfl rfl (by show 2 * 0 + _ ≤ _; exact Nat.le_of_eq rfl) (hb hby d4_33) (by decide) (by decide) ?_
  intro T18 v18 L18 X18 hQ18
  obtain ⟨rfl, N18q, K18q, y18_0, y18_1⟩ := hQ18
  have N18 := Fr.app N0 N18q
  replace V_b := V_b.keep K18q (ninS ne_b_a nin0)
  replace E_b := E_b.keep K18q
  replace E_a := E_a.keep K18q
  clear F_counts_a
  replace V_d := V_d.keep K18q (ninS ne_d_a nin0)
  replace E_d := E_d.keep K18q
  have Z19 := Nat.le_trans Z15 K18q.1
  have K20 := K16.trans K18q (allS (Or.inr sz_a) all0)
  have E_a := y18_0
  have F_counts_a := y18_1
  show own_Go p e s below _ _ _ T18 (mkF m 36 #[.val (.ref b)] [(.ref a)])
  exact own_retR X18 hx hlk hret rfl rfl rfl (hb hby d4_36) (by decide) (by decide) ⟨a, d, rfl, N18, K20, sz_a, sz_d, ne_a_d, E_a, F_counts_a, V_d, E_d⟩
theorem ef_rm5 (m : MethodId) (z0 : Addr) (z1 : Addr) : entryFrame m #[(.ref z0), (.ref z1)] 3 = mkF m 0 #[.val (.ref z0), .val (.ref z1), .unset] [] := by first | (simp [entryFrame, mkF, argsToLocals, Value.category]; done) | rfl
set_option maxRecDepth 65536 in
set_option maxHeartbeats 40000000 in
theorem rm5 (l : Launch) (Z : State) (a0 : Array Value) (hw : ∀ d ∈ tables_1, d.before a0 Z = true) (ws : List Jvm.Cond) (a b d d' : Addr) (k k' : ClassId) (u0 u1 u2 u3 u4 u5 : Int64) (w0 w1 w2 w3 w4 w5 : Int64) (h0 : Heap) (n0 : Nat) (Z0 : n0 ≤ h0.size) (F_counts_a : (Fld Z h0 a "com/example/coterie/coterie/network/peer/MessageCount" "counts" "[J" (.ref d))) (F_counts_b : (Fld Z h0 b "com/example/coterie/coterie/network/peer/MessageCount" "counts" "[J" (.ref d'))) (V_d : Arv Z h0 d k .long (6 : Int32) [(.long u0), (.long u1), (.long u2), (.long u3), (.long u4), (.long u5)] (.long (0 : Int64))) (V_d' : Arv Z h0 d' k' .long (6 : Int32) [(.long w0), (.long w1), (.long w2), (.long w3), (.long w4), (.long w5)] (.long (0 : Int64))) (ne_a_d : a ≠ d) (ne_b_d : b ≠ d) (ne_d'_d : d' ≠ d) (g_d : n0 ≤ d) :
    own_Met l Z (⟨"com/example/coterie/coterie/network/peer/MessageCount", "add", "(Lcom/example/coterie/coterie/network/peer/MessageCount;)V"⟩ : MethodName) prog_178_method_5_code 3 none ({ frames := 0, cells := 0, slots := 0, locals := 0 } : Room) ws #[(.ref a), (.ref b)] h0 (fun v h L => v = none ∧ Fr n0 L ∧ Keep h0 h [d] ∧ (Arv Z h d k .long (6 : Int32) [(.long (u0 + w0)), (.long (u1 + w1)), (.long (u2 + w2)), (.long (u3 + w3)), (.long (u4 + w4)), (.long (u5 + w5))] (.long (0 : Int64)))) 0 0 := by
  refine own_enter pf5 (fun m => ef_rm5 m a b) ?_
  intro p e s m below meth c T0 hx hby hml hown hnm hret hlk hZ X0 e0
  have N0 := Fr.nil n0
  show own_Go p e s below _ _ _ T0 (mkF m 0 #[.val (.ref a), .val (.ref b), .unset] [])
  have K_0 := Keep.refl h0 [d]
  refine own_st (fun _ k => XS.iconst X0.here hx rfl (hb hby d5_0) k) ?_
  show own_Go p e s below _ _ _ T0 (mkF m 1 #[.val (.ref a), .val (.ref b), .unset] [(.int (0 : Int32))])
  refine own_st (fun _ k => XS.istoreN X0.here hx rfl (hb hby d5_1) rfl (l' := #[.val (.ref a), .val (.ref b), .val (.int (0 : Int32))]) rfl k) ?_
  show own_Go p e s below _ _ _ T0 (mkF m 2 #[.val (.ref a), .val (.ref b), .val (.int (0 : Int32))] [])
  refine own_st (fun _ k => XS.iloadN X0.here hx rfl (hb hby d5_2) rfl k) ?_
  show own_Go p e s below _ _ _ T0 (mkF m 3 #[.val (.ref a), .val (.ref b), .val (.int (0 : Int32))] [(.int (0 : Int32))])
  refine own_st (fun _ k => XS.bipush X0.here hx rfl (hb hby d5_3) k) ?_
  show own_Go p e s below _ _ _ T0 (mkF m 5 #[.val (.ref a), .val (.ref b), .val (.int (0 : Int32))] [(.int (6 : Int32)), (.int (0 : Int32))])
  refine own_st (fun _ k => XS.icmpNo X0.here hx rfl (hb hby d5_5) rfl (by decide) k) ?_
  show own_Go p e s below _ _ _ T0 (mkF m 8 #[.val (.ref a), .val (.ref b), .val (.int (0 : Int32))] [])
  refine own_st (fun _ k => XS.aloadN X0.here hx rfl (hb hby d5_8) rfl rfl k) ?_
  show own_Go p e s below _ _ _ T0 (mkF m 9 #[.val (.ref a), .val (.ref b), .val (.int (0 : Int32))] [(.ref a)])
  obtain ⟨T21, X21, e21, st21⟩ := getF X0 hx hZ hown (host := "") (Or.inl (hw _ (List.mem_of_getElem? (i := 13) rfl))) Via.refl e0 F_counts_a (g := (mkF m 9 #[.val (.ref a), .val (.ref b), .val (.int (0 : Int32))] [(.ref a)])) rfl rfl (hb hby d5_9)
  refine own_st st21 ?_
  show own_Go p e s below _ _ _ T21 (mkF m 12 #[.val (.ref a), .val (.ref b), .val (.int (0 : Int32))] [(.ref d)])
  refine own_st (fun _ k => XS.iloadN X21.here hx rfl (hb hby d5_12) rfl k) ?_
  show own_Go p e s below _ _ _ T21 (mkF m 13 #[.val (.ref a), .val (.ref b), .val (.int (0 : Int32))] [(.int (0 : Int32)), (.ref d)])
  refine own_st (fun _ k => Jvm.Free.XT.dup2 X21.here hx rfl (hb hby d5_13) rfl rfl rfl k) ?_
  show own_Go p e s below _ _ _ T21 (mkF m 14 #[.val (.ref a), .val (.ref b), .val (.int (0 : Int32))] [(.int (0 : Int32)), (.ref d), (.int (0 : Int32)), (.ref d)])
  refine own_st (own_ldJ X21 hx hZ e21 V_d (j := (0 : Int32)) (x := u0) ⟨by decide, by decide⟩ rfl (g := (mkF m 14 #[.val (.ref a), .val (.ref b), .val (.int (0 : Int32))] [(.int (0 : Int32)), (.ref d), (.int (0 : Int32)), (.ref d)])) rfl rfl (hb hby d5_14)) ?_
  show own_Go p e s below _ _ _ T21 (mkF m 15 #[.val (.ref a), .val (.ref b), .val (.int (0 : Int32))] [(.long u0), (.int (0 : Int32)), (.ref d)])
  refine own_st (fun _ k => XS.aloadN X21.here hx rfl (hb hby d5_15) rfl rfl k) ?_
  show own_Go p e s below _ _ _ T21 (mkF m 16 #[.val (.ref a), .val (.ref b), .val (.int (0 : Int32))] [(.ref b), (.long u0), (.int (0 : Int32)), (.ref d)])
  obtain ⟨T22, X22, e22, st22⟩ := getF X21 hx hZ hown (host := "") (Or.inl (hw _ (List.mem_of_getElem? (i := 13) rfl))) Via.refl e21 F_counts_b (g := (mkF m 16 #[.val (.ref a), .val (.ref b), .val (.int (0 : Int32))] [(.ref b), (.long u0), (.int (0 : Int32)), (.ref d)])) rfl rfl (hb hby d5_16)
  refine own_st st22 ?_
  show own_Go p e s below _ _ _ T22 (mkF m 19 #[.val (.ref a), .val (.ref b), .val (.int (0 : Int32))] [(.ref d'), (.long u0), (.int (0 : Int32)), (.ref d)])
  refine own_st (fun _ k => XS.iloadN X22.here hx rfl (hb hby d5_19) rfl k) ?_
  show own_Go p e s below _ _ _ T22 (mkF m 20 #[.val (.ref a), .val (.ref b), .val (.int (0 : Int32))] [(.int (0 : Int32)), (.ref d'), (.long u0), (.int (0 : Int32)), (.ref d)])
  refine own_st (own_ldJ X22 hx hZ e22 V_d' (j := (0 : Int32)) (x := w0) ⟨by decide, by decide⟩ rfl (g := (mkF m 20 #[.val (.ref a), .val (.ref b), .val (.int (0 : Int32))] [(.int (0 : Int32)), (.ref d'), (.long u0), (.int (0 : Int32)), (.ref d)])) rfl rfl (hb hby d5_20)) ?_
  show own_Go p e s below _ _ _ T22 (mkF m 21 #[.val (.ref a), .val (.ref b), .val (.int (0 : Int32))] [(.long w0), (.long u0), (.int (0 : Int32)), (.ref d)])
  refine own_st (fun _ k => XS.ladd X22.here hx rfl (hb hby d5_21) rfl k) ?_
  show own_Go p e s below _ _ _ T22 (mkF m 22 #[.val (.ref a), .val (.ref b), .val (.int (0 : Int32))] [(.long (u0 + w0)), (.int (0 : Int32)), (.ref d)])
  obtain ⟨T23, h23, X23, e23, W23, V23, st23⟩ := own_stJ X22 hx hZ e22 V_d (j := (0 : Int32)) ⟨by decide, by decide⟩ (Nat.le_of_ble_eq_true rfl) (g := (mkF m 22 #[.val (.ref a), .val (.ref b), .val (.int (0 : Int32))] [(.long (u0 + w0)), (.int (0 : Int32)), (.ref d)])) rfl rfl (hb hby d5_22)
  clear V_d
  have V_d : Arv Z h23 d k .long (6 : Int32) [(.long (u0 + w0)), (.long u1), (.long u2), (.long u3), (.long u4), (.long u5)] (.long (0 : Int64)) := V23
  replace F_counts_a := F_counts_a.other W23 (Or.inl ne_a_d)
  replace F_counts_b := F_counts_b.other W23 (Or.inl ne_b_d)
  replace V_d' := V_d'.other W23 ne_d'_d
  have Z24 := Nat.le_trans Z0 (Keep.of_wr W23).1
  have K25 := K_0.wr W23 (Or.inl (List.mem_of_getElem? (i := 0) rfl))
  have N23 := Fr.snoc X23 N0 g_d
  refine own_st st23 ?_
  show own_Go p e s below _ _ _ T23 (mkF m 23 #[.val (.ref a), .val (.ref b), .val (.int (0 : Int32))] [])
  refine own_st (fun _ k => XS.iinc X23.here hx rfl (hb hby d5_23) rfl (l' := #[.val (.ref a), .val (.ref b), .val (.int (1 : Int32))]) rfl k) ?_
  show own_Go p e s below _ _ _ T23 (mkF m 26 #[.val (.ref a), .val (.ref b), .val (.int (1 : Int32))] [])
  refine own_st (fun _ k => XS.goto X23.here hx rfl (pc0 := 26) (pc' := 2) rfl (hb hby d5_26) (by decide) (by decide) k) ?_
  show own_Go p e s below _ _ _ T23 (mkF m 2 #[.val (.ref a), .val (.ref b), .val (.int (1 : Int32))] [])
  refine own_st (fun _ k => XS.iloadN X23.here hx rfl (hb hby d5_2) rfl k) ?_
  show own_Go p e s below _ _ _ T23 (mkF m 3 #[.val (.ref a), .val (.ref b), .val (.int (1 : Int32))] [(.int (1 : Int32))])
  refine own_st (fun _ k => XS.bipush X23.here hx rfl (hb hby d5_3) k) ?_
  show own_Go p e s below _ _ _ T23 (mkF m 5 #[.val (.ref a), .val (.ref b), .val (.int (1 : Int32))] [(.int (6 : Int32)), (.int (1 : Int32))])
  refine own_st (fun _ k => XS.icmpNo X23.here hx rfl (hb hby d5_5) rfl (by decide) k) ?_
  show own_Go p e s below _ _ _ T23 (mkF m 8 #[.val (.ref a), .val (.ref b), .val (.int (1 : Int32))] [])
  refine own_st (fun _ k => XS.aloadN X23.here hx rfl (hb hby d5_8) rfl rfl k) ?_
  show own_Go p e s below _ _ _ T23 (mkF m 9 #[.val (.ref a), .val (.ref b), .val (.int (1 : Int32))] [(.ref a)])
  obtain ⟨T26, X26, e26, st26⟩ := getF X23 hx hZ hown (host := "") (Or.inl (hw _ (List.mem_of_getElem? (i := 13) rfl))) Via.refl e23 F_counts_a (g := (mkF m 9 #[.val (.ref a), .val (.ref b), .val (.int (1 : Int32))] [(.ref a)])) rfl rfl (hb hby d5_9)
  refine own_st st26 ?_
  show own_Go p e s below _ _ _ T26 (mkF m 12 #[.val (.ref a), .val (.ref b), .val (.int (1 : Int32))] [(.ref d)])
  refine own_st (fun _ k => XS.iloadN X26.here hx rfl (hb hby d5_12) rfl k) ?_
  show own_Go p e s below _ _ _ T26 (mkF m 13 #[.val (.ref a), .val (.ref b), .val (.int (1 : Int32))] [(.int (1 : Int32)), (.ref d)])
  refine own_st (fun _ k => Jvm.Free.XT.dup2 X26.here hx rfl (hb hby d5_13) rfl rfl rfl k) ?_
  show own_Go p e s below _ _ _ T26 (mkF m 14 #[.val (.ref a), .val (.ref b), .val (.int (1 : Int32))] [(.int (1 : Int32)), (.ref d), (.int (1 : Int32)), (.ref d)])
  refine own_st (own_ldJ X26 hx hZ e26 V_d (j := (1 : Int32)) (x := u1) ⟨by decide, by decide⟩ rfl (g := (mkF m 14 #[.val (.ref a), .val (.ref b), .val (.int (1 : Int32))] [(.int (1 : Int32)), (.ref d), (.int (1 : Int32)), (.ref d)])) rfl rfl (hb hby d5_14)) ?_
  show own_Go p e s below _ _ _ T26 (mkF m 15 #[.val (.ref a), .val (.ref b), .val (.int (1 : Int32))] [(.long u1), (.int (1 : Int32)), (.ref d)])
  refine own_st (fun _ k => XS.aloadN X26.here hx rfl (hb hby d5_15) rfl rfl k) ?_
  show own_Go p e s below _ _ _ T26 (mkF m 16 #[.val (.ref a), .val (.ref b), .val (.int (1 : Int32))] [(.ref b), (.long u1), (.int (1 : Int32)), (.ref d)])
  obtain ⟨T27, X27, e27, st27⟩ := getF X26 hx hZ hown (host := "") (Or.inl (hw _ (List.mem_of_getElem? (i := 13) rfl))) Via.refl e26 F_counts_b (g := (mkF m 16 #[.val (.ref a), .val (.ref b), .val (.int (1 : Int32))] [(.ref b), (.long u1), (.int (1 : Int32)), (.ref d)])) rfl rfl (hb hby d5_16)
  refine own_st st27 ?_
  show own_Go p e s below _ _ _ T27 (mkF m 19 #[.val (.ref a), .val (.ref b), .val (.int (1 : Int32))] [(.ref d'), (.long u1), (.int (1 : Int32)), (.ref d)])
  refine own_st (fun _ k => XS.iloadN X27.here hx rfl (hb hby d5_19) rfl k) ?_
  show own_Go p e s below _ _ _ T27 (mkF m 20 #[.val (.ref a), .val (.ref b), .val (.int (1 : Int32))] [(.int (1 : Int32)), (.ref d'), (.long u1), (.int (1 : Int32)), (.ref d)])
  refine own_st (own_ldJ X27 hx hZ e27 V_d' (j := (1 : Int32)) (x := w1) ⟨by decide, by decide⟩ rfl (g := (mkF m 20 #[.val (.ref a), .val (.ref b), .val (.int (1 : Int32))] [(.int (1 : Int32)), (.ref d'), (.long u1), (.int (1 : Int32)), (.ref d)])) rfl rfl (hb hby d5_20)) ?_
  show own_Go p e s below _ _ _ T27 (mkF m 21 #[.val (.ref a), .val (.ref b), .val (.int (1 : Int32))] [(.long w1), (.long u1), (.int (1 : Int32)), (.ref d)])
  refine own_st (fun _ k => XS.ladd X27.here hx rfl (hb hby d5_21) rfl k) ?_
  show own_Go p e s below _ _ _ T27 (mkF m 22 #[.val (.ref a), .val (.ref b), .val (.int (1 : Int32))] [(.long (u1 + w1)), (.int (1 : Int32)), (.ref d)])
  obtain ⟨T28, h28, X28, e28, W28, V28, st28⟩ := own_stJ X27 hx hZ e27 V_d (j := (1 : Int32)) ⟨by decide, by decide⟩ (Nat.le_of_ble_eq_true rfl) (g := (mkF m 22 #[.val (.ref a), .val (.ref b), .val (.int (1 : Int32))] [(.long (u1 + w1)), (.int (1 : Int32)), (.ref d)])) rfl rfl (hb hby d5_22)
  clear V_d
  have V_d : Arv Z h28 d k .long (6 : Int32) [(.long (u0 + w0)), (.long (u1 + w1)), (.long u2), (.long u3), (.long u4), (.long u5)] (.long (0 : Int64)) := V28
  replace F_counts_a := F_counts_a.other W28 (Or.inl ne_a_d)
  replace F_counts_b := F_counts_b.other W28 (Or.inl ne_b_d)
  replace V_d' := V_d'.other W28 ne_d'_d
  have Z29 := Nat.le_trans Z24 (Keep.of_wr W28).1
  have K30 := K25.wr W28 (Or.inl (List.mem_of_getElem? (i := 0) rfl))
  have N28 := Fr.snoc X28 N23 g_d
  refine own_st st28 ?_
  show own_Go p e s below _ _ _ T28 (mkF m 23 #[.val (.ref a), .val (.ref b), .val (.int (1 : Int32))] [])
  refine own_st (fun _ k => XS.iinc X28.here hx rfl (hb hby d5_23) rfl (l' := #[.val (.ref a), .val (.ref b), .val (.int (2 : Int32))]) rfl k) ?_
  show own_Go p e s below _ _ _ T28 (mkF m 26 #[.val (.ref a), .val (.ref b), .val (.int (2 : Int32))] [])
  refine own_st (fun _ k => XS.goto X28.here hx rfl (pc0 := 26) (pc' := 2) rfl (hb hby d5_26) (by decide) (by decide) k) ?_
  show own_Go p e s below _ _ _ T28 (mkF m 2 #[.val (.ref a), .val (.ref b), .val (.int (2 : Int32))] [])
  refine own_st (fun _ k => XS.iloadN X28.here hx rfl (hb hby d5_2) rfl k) ?_
  show own_Go p e s below _ _ _ T28 (mkF m 3 #[.val (.ref a), .val (.ref b), .val (.int (2 : Int32))] [(.int (2 : Int32))])
  refine own_st (fun _ k => XS.bipush X28.here hx rfl (hb hby d5_3) k) ?_
  show own_Go p e s below _ _ _ T28 (mkF m 5 #[.val (.ref a), .val (.ref b), .val (.int (2 : Int32))] [(.int (6 : Int32)), (.int (2 : Int32))])
  refine own_st (fun _ k => XS.icmpNo X28.here hx rfl (hb hby d5_5) rfl (by decide) k) ?_
  show own_Go p e s below _ _ _ T28 (mkF m 8 #[.val (.ref a), .val (.ref b), .val (.int (2 : Int32))] [])
  refine own_st (fun _ k => XS.aloadN X28.here hx rfl (hb hby d5_8) rfl rfl k) ?_
  show own_Go p e s below _ _ _ T28 (mkF m 9 #[.val (.ref a), .val (.ref b), .val (.int (2 : Int32))] [(.ref a)])
  obtain ⟨T31, X31, e31, st31⟩ := getF X28 hx hZ hown (host := "") (Or.inl (hw _ (List.mem_of_getElem? (i := 13) rfl))) Via.refl e28 F_counts_a (g := (mkF m 9 #[.val (.ref a), .val (.ref b), .val (.int (2 : Int32))] [(.ref a)])) rfl rfl (hb hby d5_9)
  refine own_st st31 ?_
  show own_Go p e s below _ _ _ T31 (mkF m 12 #[.val (.ref a), .val (.ref b), .val (.int (2 : Int32))] [(.ref d)])
  refine own_st (fun _ k => XS.iloadN X31.here hx rfl (hb hby d5_12) rfl k) ?_
  show own_Go p e s below _ _ _ T31 (mkF m 13 #[.val (.ref a), .val (.ref b), .val (.int (2 : Int32))] [(.int (2 : Int32)), (.ref d)])
  refine own_st (fun _ k => Jvm.Free.XT.dup2 X31.here hx rfl (hb hby d5_13) rfl rfl rfl k) ?_
  show own_Go p e s below _ _ _ T31 (mkF m 14 #[.val (.ref a), .val (.ref b), .val (.int (2 : Int32))] [(.int (2 : Int32)), (.ref d), (.int (2 : Int32)), (.ref d)])
  refine own_st (own_ldJ X31 hx hZ e31 V_d (j := (2 : Int32)) (x := u2) ⟨by decide, by decide⟩ rfl (g := (mkF m 14 #[.val (.ref a), .val (.ref b), .val (.int (2 : Int32))] [(.int (2 : Int32)), (.ref d), (.int (2 : Int32)), (.ref d)])) rfl rfl (hb hby d5_14)) ?_
  show own_Go p e s below _ _ _ T31 (mkF m 15 #[.val (.ref a), .val (.ref b), .val (.int (2 : Int32))] [(.long u2), (.int (2 : Int32)), (.ref d)])
  refine own_st (fun _ k => XS.aloadN X31.here hx rfl (hb hby d5_15) rfl rfl k) ?_
  show own_Go p e s below _ _ _ T31 (mkF m 16 #[.val (.ref a), .val (.ref b), .val (.int (2 : Int32))] [(.ref b), (.long u2), (.int (2 : Int32)), (.ref d)])
  obtain ⟨T32, X32, e32, st32⟩ := getF X31 hx hZ hown (host := "") (Or.inl (hw _ (List.mem_of_getElem? (i := 13) rfl))) Via.refl e31 F_counts_b (g := (mkF m 16 #[.val (.ref a), .val (.ref b), .val (.int (2 : Int32))] [(.ref b), (.long u2), (.int (2 : Int32)), (.ref d)])) rfl rfl (hb hby d5_16)
  refine own_st st32 ?_
  show own_Go p e s below _ _ _ T32 (mkF m 19 #[.val (.ref a), .val (.ref b), .val (.int (2 : Int32))] [(.ref d'), (.long u2), (.int (2 : Int32)), (.ref d)])
  refine own_st (fun _ k => XS.iloadN X32.here hx rfl (hb hby d5_19) rfl k) ?_
  show own_Go p e s below _ _ _ T32 (mkF m 20 #[.val (.ref a), .val (.ref b), .val (.int (2 : Int32))] [(.int (2 : Int32)), (.ref d'), (.long u2), (.int (2 : Int32)), (.ref d)])
  refine own_st (own_ldJ X32 hx hZ e32 V_d' (j := (2 : Int32)) (x := w2) ⟨by decide, by decide⟩ rfl (g := (mkF m 20 #[.val (.ref a), .val (.ref b), .val (.int (2 : Int32))] [(.int (2 : Int32)), (.ref d'), (.long u2), (.int (2 : Int32)), (.ref d)])) rfl rfl (hb hby d5_20)) ?_
  show own_Go p e s below _ _ _ T32 (mkF m 21 #[.val (.ref a), .val (.ref b), .val (.int (2 : Int32))] [(.long w2), (.long u2), (.int (2 : Int32)), (.ref d)])
  refine own_st (fun _ k => XS.ladd X32.here hx rfl (hb hby d5_21) rfl k) ?_
  show own_Go p e s below _ _ _ T32 (mkF m 22 #[.val (.ref a), .val (.ref b), .val (.int (2 : Int32))] [(.long (u2 + w2)), (.int (2 : Int32)), (.ref d)])
  obtain ⟨T33, h33, X33, e33, W33, V33, st33⟩ := own_stJ X32 hx hZ e32 V_d (j := (2 : Int32)) ⟨by decide, by decide⟩ (Nat.le_of_ble_eq_true rfl) (g := (mkF m 22 #[.val (.ref a), .val (.ref b), .val (.int (2 : Int32))] [(.long (u2 + w2)), (.int (2 : Int32)), (.ref d)])) rfl rfl (hb hby d5_22)
  clear V_d
  have V_d : Arv Z h33 d k .long (6 : Int32) [(.long (u0 + w0)), (.long (u1 + w1)), (.long (u2 + w2)), (.long u3), (.long u4), (.long u5)] (.long (0 : Int64)) := V33
  replace F_counts_a := F_counts_a.other W33 (Or.inl ne_a_d)
  replace F_counts_b := F_counts_b.other W33 (Or.inl ne_b_d)
  replace V_d' := V_d'.other W33 ne_d'_d
  have Z34 := Nat.le_trans Z29 (Keep.of_wr W33).1
  have K35 := K30.wr W33 (Or.inl (List.mem_of_getElem? (i := 0) rfl))
  have N33 := Fr.snoc X33 N28 g_d
  refine own_st st33 ?_
  show own_Go p e s below _ _ _ T33 (mkF m 23 #[.val (.ref a), .val (.ref b), .val (.int (2 : Int32))] [])
  refine own_st (fun _ k => XS.iinc X33.here hx rfl (hb hby d5_23) rfl (l' := #[.val (.ref a), .val (.ref b), .val (.int (3 : Int32))]) rfl k) ?_
  show own_Go p e s below _ _ _ T33 (mkF m 26 #[.val (.ref a), .val (.ref b), .val (.int (3 : Int32))] [])
  refine own_st (fun _ k => XS.goto X33.here hx rfl (pc0 := 26) (pc' := 2) rfl (hb hby d5_26) (by decide) (by decide) k) ?_
  show own_Go p e s below _ _ _ T33 (mkF m 2 #[.val (.ref a), .val (.ref b), .val (.int (3 : Int32))] [])
  refine own_st (fun _ k => XS.iloadN X33.here hx rfl (hb hby d5_2) rfl k) ?_
  show own_Go p e s below _ _ _ T33 (mkF m 3 #[.val (.ref a), .val (.ref b), .val (.int (3 : Int32))] [(.int (3 : Int32))])
  refine own_st (fun _ k => XS.bipush X33.here hx rfl (hb hby d5_3) k) ?_
  show own_Go p e s below _ _ _ T33 (mkF m 5 #[.val (.ref a), .val (.ref b), .val (.int (3 : Int32))] [(.int (6 : Int32)), (.int (3 : Int32))])
  refine own_st (fun _ k => XS.icmpNo X33.here hx rfl (hb hby d5_5) rfl (by decide) k) ?_
  show own_Go p e s below _ _ _ T33 (mkF m 8 #[.val (.ref a), .val (.ref b), .val (.int (3 : Int32))] [])
  refine own_st (fun _ k => XS.aloadN X33.here hx rfl (hb hby d5_8) rfl rfl k) ?_
  show own_Go p e s below _ _ _ T33 (mkF m 9 #[.val (.ref a), .val (.ref b), .val (.int (3 : Int32))] [(.ref a)])
  obtain ⟨T36, X36, e36, st36⟩ := getF X33 hx hZ hown (host := "") (Or.inl (hw _ (List.mem_of_getElem? (i := 13) rfl))) Via.refl e33 F_counts_a (g := (mkF m 9 #[.val (.ref a), .val (.ref b), .val (.int (3 : Int32))] [(.ref a)])) rfl rfl (hb hby d5_9)
  refine own_st st36 ?_
  show own_Go p e s below _ _ _ T36 (mkF m 12 #[.val (.ref a), .val (.ref b), .val (.int (3 : Int32))] [(.ref d)])
  refine own_st (fun _ k => XS.iloadN X36.here hx rfl (hb hby d5_12) rfl k) ?_
  show own_Go p e s below _ _ _ T36 (mkF m 13 #[.val (.ref a), .val (.ref b), .val (.int (3 : Int32))] [(.int (3 : Int32)), (.ref d)])
  refine own_st (fun _ k => Jvm.Free.XT.dup2 X36.here hx rfl (hb hby d5_13) rfl rfl rfl k) ?_
  show own_Go p e s below _ _ _ T36 (mkF m 14 #[.val (.ref a), .val (.ref b), .val (.int (3 : Int32))] [(.int (3 : Int32)), (.ref d), (.int (3 : Int32)), (.ref d)])
  refine own_st (own_ldJ X36 hx hZ e36 V_d (j := (3 : Int32)) (x := u3) ⟨by decide, by decide⟩ rfl (g := (mkF m 14 #[.val (.ref a), .val (.ref b), .val (.int (3 : Int32))] [(.int (3 : Int32)), (.ref d), (.int (3 : Int32)), (.ref d)])) rfl rfl (hb hby d5_14)) ?_
  show own_Go p e s below _ _ _ T36 (mkF m 15 #[.val (.ref a), .val (.ref b), .val (.int (3 : Int32))] [(.long u3), (.int (3 : Int32)), (.ref d)])
  refine own_st (fun _ k => XS.aloadN X36.here hx rfl (hb hby d5_15) rfl rfl k) ?_
  show own_Go p e s below _ _ _ T36 (mkF m 16 #[.val (.ref a), .val (.ref b), .val (.int (3 : Int32))] [(.ref b), (.long u3), (.int (3 : Int32)), (.ref d)])
  obtain ⟨T37, X37, e37, st37⟩ := getF X36 hx hZ hown (host := "") (Or.inl (hw _ (List.mem_of_getElem? (i := 13) rfl))) Via.refl e36 F_counts_b (g := (mkF m 16 #[.val (.ref a), .val (.ref b), .val (.int (3 : Int32))] [(.ref b), (.long u3), (.int (3 : Int32)), (.ref d)])) rfl rfl (hb hby d5_16)
  refine own_st st37 ?_
  show own_Go p e s below _ _ _ T37 (mkF m 19 #[.val (.ref a), .val (.ref b), .val (.int (3 : Int32))] [(.ref d'), (.long u3), (.int (3 : Int32)), (.ref d)])
  refine own_st (fun _ k => XS.iloadN X37.here hx rfl (hb hby d5_19) rfl k) ?_
  show own_Go p e s below _ _ _ T37 (mkF m 20 #[.val (.ref a), .val (.ref b), .val (.int (3 : Int32))] [(.int (3 : Int32)), (.ref d'), (.long u3), (.int (3 : Int32)), (.ref d)])
  refine own_st (own_ldJ X37 hx hZ e37 V_d' (j := (3 : Int32)) (x := w3) ⟨by decide, by decide⟩ rfl (g := (mkF m 20 #[.val (.ref a), .val (.ref b), .val (.int (3 : Int32))] [(.int (3 : Int32)), (.ref d'), (.long u3), (.int (3 : Int32)), (.ref d)])) rfl rfl (hb hby d5_20)) ?_
  show own_Go p e s below _ _ _ T37 (mkF m 21 #[.val (.ref a), .val (.ref b), .val (.int (3 : Int32))] [(.long w3), (.long u3), (.int (3 : Int32)), (.ref d)])
  refine own_st (fun _ k => XS.ladd X37.here hx rfl (hb hby d5_21) rfl k) ?_
  show own_Go p e s below _ _ _ T37 (mkF m 22 #[.val (.ref a), .val (.ref b), .val (.int (3 : Int32))] [(.long (u3 + w3)), (.int (3 : Int32)), (.ref d)])
  obtain ⟨T38, h38, X38, e38, W38, V38, st38⟩ := own_stJ X37 hx hZ e37 V_d (j := (3 : Int32)) ⟨by decide, by decide⟩ (Nat.le_of_ble_eq_true rfl) (g := (mkF m 22 #[.val (.ref a), .val (.ref b), .val (.int (3 : Int32))] [(.long (u3 + w3)), (.int (3 : Int32)), (.ref d)])) rfl rfl (hb hby d5_22)
  clear V_d
  have V_d : Arv Z h38 d k .long (6 : Int32) [(.long (u0 + w0)), (.long (u1 + w1)), (.long (u2 + w2)), (.long (u3 + w3)), (.long u4), (.long u5)] (.long (0 : Int64)) := V38
  replace F_counts_a := F_counts_a.other W38 (Or.inl ne_a_d)
  replace F_counts_b := F_counts_b.other W38 (Or.inl ne_b_d)
  replace V_d' := V_d'.other W38 ne_d'_d
  have Z39 := Nat.le_trans Z34 (Keep.of_wr W38).1
  have K40 := K35.wr W38 (Or.inl (List.mem_of_getElem? (i := 0) rfl))
  have N38 := Fr.snoc X38 N33 g_d
  refine own_st st38 ?_
  show own_Go p e s below _ _ _ T38 (mkF m 23 #[.val (.ref a), .val (.ref b), .val (.int (3 : Int32))] [])
  refine own_st (fun _ k => XS.iinc X38.here hx rfl (hb hby d5_23) rfl (l' := #[.val (.ref a), .val (.ref b), .val (.int (4 : Int32))]) rfl k) ?_
  show own_Go p e s below _ _ _ T38 (mkF m 26 #[.val (.ref a), .val (.ref b), .val (.int (4 : Int32))] [])
  refine own_st (fun _ k => XS.goto X38.here hx rfl (pc0 := 26) (pc' := 2) rfl (hb hby d5_26) (by decide) (by decide) k) ?_
  show own_Go p e s below _ _ _ T38 (mkF m 2 #[.val (.ref a), .val (.ref b), .val (.int (4 : Int32))] [])
  refine own_st (fun _ k => XS.iloadN X38.here hx rfl (hb hby d5_2) rfl k) ?_
  show own_Go p e s below _ _ _ T38 (mkF m 3 #[.val (.ref a), .val (.ref b), .val (.int (4 : Int32))] [(.int (4 : Int32))])
  refine own_st (fun _ k => XS.bipush X38.here hx rfl (hb hby d5_3) k) ?_
  show own_Go p e s below _ _ _ T38 (mkF m 5 #[.val (.ref a), .val (.ref b), .val (.int (4 : Int32))] [(.int (6 : Int32)), (.int (4 : Int32))])
  refine own_st (fun _ k => XS.icmpNo X38.here hx rfl (hb hby d5_5) rfl (by decide) k) ?_
  show own_Go p e s below _ _ _ T38 (mkF m 8 #[.val (.ref a), .val (.ref b), .val (.int (4 : Int32))] [])
  refine own_st (fun _ k => XS.aloadN X38.here hx rfl (hb hby d5_8) rfl rfl k) ?_
  show own_Go p e s below _ _ _ T38 (mkF m 9 #[.val (.ref a), .val (.ref b), .val (.int (4 : Int32))] [(.ref a)])
  obtain ⟨T41, X41, e41, st41⟩ := getF X38 hx hZ hown (host := "") (Or.inl (hw _ (List.mem_of_getElem? (i := 13) rfl))) Via.refl e38 F_counts_a (g := (mkF m 9 #[.val (.ref a), .val (.ref b), .val (.int (4 : Int32))] [(.ref a)])) rfl rfl (hb hby d5_9)
  refine own_st st41 ?_
  show own_Go p e s below _ _ _ T41 (mkF m 12 #[.val (.ref a), .val (.ref b), .val (.int (4 : Int32))] [(.ref d)])
  refine own_st (fun _ k => XS.iloadN X41.here hx rfl (hb hby d5_12) rfl k) ?_
  show own_Go p e s below _ _ _ T41 (mkF m 13 #[.val (.ref a), .val (.ref b), .val (.int (4 : Int32))] [(.int (4 : Int32)), (.ref d)])
  refine own_st (fun _ k => Jvm.Free.XT.dup2 X41.here hx rfl (hb hby d5_13) rfl rfl rfl k) ?_
  show own_Go p e s below _ _ _ T41 (mkF m 14 #[.val (.ref a), .val (.ref b), .val (.int (4 : Int32))] [(.int (4 : Int32)), (.ref d), (.int (4 : Int32)), (.ref d)])
  refine own_st (own_ldJ X41 hx hZ e41 V_d (j := (4 : Int32)) (x := u4) ⟨by decide, by decide⟩ rfl (g := (mkF m 14 #[.val (.ref a), .val (.ref b), .val (.int (4 : Int32))] [(.int (4 : Int32)), (.ref d), (.int (4 : Int32)), (.ref d)])) rfl rfl (hb hby d5_14)) ?_
  show own_Go p e s below _ _ _ T41 (mkF m 15 #[.val (.ref a), .val (.ref b), .val (.int (4 : Int32))] [(.long u4), (.int (4 : Int32)), (.ref d)])
  refine own_st (fun _ k => XS.aloadN X41.here hx rfl (hb hby d5_15) rfl rfl k) ?_
  show own_Go p e s below _ _ _ T41 (mkF m 16 #[.val (.ref a), .val (.ref b), .val (.int (4 : Int32))] [(.ref b), (.long u4), (.int (4 : Int32)), (.ref d)])
  obtain ⟨T42, X42, e42, st42⟩ := getF X41 hx hZ hown (host := "") (Or.inl (hw _ (List.mem_of_getElem? (i := 13) rfl))) Via.refl e41 F_counts_b (g := (mkF m 16 #[.val (.ref a), .val (.ref b), .val (.int (4 : Int32))] [(.ref b), (.long u4), (.int (4 : Int32)), (.ref d)])) rfl rfl (hb hby d5_16)
  refine own_st st42 ?_
  show own_Go p e s below _ _ _ T42 (mkF m 19 #[.val (.ref a), .val (.ref b), .val (.int (4 : Int32))] [(.ref d'), (.long u4), (.int (4 : Int32)), (.ref d)])
  refine own_st (fun _ k => XS.iloadN X42.here hx rfl (hb hby d5_19) rfl k) ?_
  show own_Go p e s below _ _ _ T42 (mkF m 20 #[.val (.ref a), .val (.ref b), .val (.int (4 : Int32))] [(.int (4 : Int32)), (.ref d'), (.long u4), (.int (4 : Int32)), (.ref d)])
  refine own_st (own_ldJ X42 hx hZ e42 V_d' (j := (4 : Int32)) (x := w4) ⟨by decide, by decide⟩ rfl (g := (mkF m 20 #[.val (.ref a), .val (.ref b), .val (.int (4 : Int32))] [(.int (4 : Int32)), (.ref d'), (.long u4), (.int (4 : Int32)), (.ref d)])) rfl rfl (hb hby d5_20)) ?_
  show own_Go p e s below _ _ _ T42 (mkF m 21 #[.val (.ref a), .val (.ref b), .val (.int (4 : Int32))] [(.long w4), (.long u4), (.int (4 : Int32)), (.ref d)])
  refine own_st (fun _ k => XS.ladd X42.here hx rfl (hb hby d5_21) rfl k) ?_
  show own_Go p e s below _ _ _ T42 (mkF m 22 #[.val (.ref a), .val (.ref b), .val (.int (4 : Int32))] [(.long (u4 + w4)), (.int (4 : Int32)), (.ref d)])
  obtain ⟨T43, h43, X43, e43, W43, V43, st43⟩ := own_stJ X42 hx hZ e42 V_d (j := (4 : Int32)) ⟨by decide, by decide⟩ (Nat.le_of_ble_eq_true rfl) (g := (mkF m 22 #[.val (.ref a), .val (.ref b), .val (.int (4 : Int32))] [(.long (u4 + w4)), (.int (4 : Int32)), (.ref d)])) rfl rfl (hb hby d5_22)
  clear V_d
  have V_d : Arv Z h43 d k .long (6 : Int32) [(.long (u0 + w0)), (.long (u1 + w1)), (.long (u2 + w2)), (.long (u3 + w3)), (.long (u4 + w4)), (.long u5)] (.long (0 : Int64)) := V43
  replace F_counts_a := F_counts_a.other W43 (Or.inl ne_a_d)
  replace F_counts_b := F_counts_b.other W43 (Or.inl ne_b_d)
  replace V_d' := V_d'.other W43 ne_d'_d
  have Z44 := Nat.le_trans Z39 (Keep.of_wr W43).1
  have K45 := K40.wr W43 (Or.inl (List.mem_of_getElem? (i := 0) rfl))
  have N43 := Fr.snoc X43 N38 g_d
  refine own_st st43 ?_
  show own_Go p e s below _ _ _ T43 (mkF m 23 #[.val (.ref a), .val (.ref b), .val (.int (4 : Int32))] [])
  refine own_st (fun _ k => XS.iinc X43.here hx rfl (hb hby d5_23) rfl (l' := #[.val (.ref a), .val (.ref b), .val (.int (5 : Int32))]) rfl k) ?_
  show own_Go p e s below _ _ _ T43 (mkF m 26 #[.val (.ref a), .val (.ref b), .val (.int (5 : Int32))] [])
  refine own_st (fun _ k => XS.goto X43.here hx rfl (pc0 := 26) (pc' := 2) rfl (hb hby d5_26) (by decide) (by decide) k) ?_
  show own_Go p e s below _ _ _ T43 (mkF m 2 #[.val (.ref a), .val (.ref b), .val (.int (5 : Int32))] [])
  refine own_st (fun _ k => XS.iloadN X43.here hx rfl (hb hby d5_2) rfl k) ?_
  show own_Go p e s below _ _ _ T43 (mkF m 3 #[.val (.ref a), .val (.ref b), .val (.int (5 : Int32))] [(.int (5 : Int32))])
  refine own_st (fun _ k => XS.bipush X43.here hx rfl (hb hby d5_3) k) ?_
  show own_Go p e s below _ _ _ T43 (mkF m 5 #[.val (.ref a), .val (.ref b), .val (.int (5 : Int32))] [(.int (6 : Int32)), (.int (5 : Int32))])
  refine own_st (fun _ k => XS.icmpNo X43.here hx rfl (hb hby d5_5) rfl (by decide) k) ?_
  show own_Go p e s below _ _ _ T43 (mkF m 8 #[.val (.ref a), .val (.ref b), .val (.int (5 : Int32))] [])
  refine own_st (fun _ k => XS.aloadN X43.here hx rfl (hb hby d5_8) rfl rfl k) ?_
  show own_Go p e s below _ _ _ T43 (mkF m 9 #[.val (.ref a), .val (.ref b), .val (.int (5 : Int32))] [(.ref a)])
  obtain ⟨T46, X46, e46, st46⟩ := getF X43 hx hZ hown (host := "") (Or.inl (hw _ (List.mem_of_getElem? (i := 13) rfl))) Via.refl e43 F_counts_a (g := (mkF m 9 #[.val (.ref a), .val (.ref b), .val (.int (5 : Int32))] [(.ref a)])) rfl rfl (hb hby d5_9)
  refine own_st st46 ?_
  show own_Go p e s below _ _ _ T46 (mkF m 12 #[.val (.ref a), .val (.ref b), .val (.int (5 : Int32))] [(.ref d)])
  refine own_st (fun _ k => XS.iloadN X46.here hx rfl (hb hby d5_12) rfl k) ?_
  show own_Go p e s below _ _ _ T46 (mkF m 13 #[.val (.ref a), .val (.ref b), .val (.int (5 : Int32))] [(.int (5 : Int32)), (.ref d)])
  refine own_st (fun _ k => Jvm.Free.XT.dup2 X46.here hx rfl (hb hby d5_13) rfl rfl rfl k) ?_
  show own_Go p e s below _ _ _ T46 (mkF m 14 #[.val (.ref a), .val (.ref b), .val (.int (5 : Int32))] [(.int (5 : Int32)), (.ref d), (.int (5 : Int32)), (.ref d)])
  refine own_st (own_ldJ X46 hx hZ e46 V_d (j := (5 : Int32)) (x := u5) ⟨by decide, by decide⟩ rfl (g := (mkF m 14 #[.val (.ref a), .val (.ref b), .val (.int (5 : Int32))] [(.int (5 : Int32)), (.ref d), (.int (5 : Int32)), (.ref d)])) rfl rfl (hb hby d5_14)) ?_
  show own_Go p e s below _ _ _ T46 (mkF m 15 #[.val (.ref a), .val (.ref b), .val (.int (5 : Int32))] [(.long u5), (.int (5 : Int32)), (.ref d)])
  refine own_st (fun _ k => XS.aloadN X46.here hx rfl (hb hby d5_15) rfl rfl k) ?_
  show own_Go p e s below _ _ _ T46 (mkF m 16 #[.val (.ref a), .val (.ref b), .val (.int (5 : Int32))] [(.ref b), (.long u5), (.int (5 : Int32)), (.ref d)])
  obtain ⟨T47, X47, e47, st47⟩ := getF X46 hx hZ hown (host := "") (Or.inl (hw _ (List.mem_of_getElem? (i := 13) rfl))) Via.refl e46 F_counts_b (g := (mkF m 16 #[.val (.ref a), .val (.ref b), .val (.int (5 : Int32))] [(.ref b), (.long u5), (.int (5 : Int32)), (.ref d)])) rfl rfl (hb hby d5_16)
  refine own_st st47 ?_
  show own_Go p e s below _ _ _ T47 (mkF m 19 #[.val (.ref a), .val (.ref b), .val (.int (5 : Int32))] [(.ref d'), (.long u5), (.int (5 : Int32)), (.ref d)])
  refine own_st (fun _ k => XS.iloadN X47.here hx rfl (hb hby d5_19) rfl k) ?_
  show own_Go p e s below _ _ _ T47 (mkF m 20 #[.val (.ref a), .val (.ref b), .val (.int (5 : Int32))] [(.int (5 : Int32)), (.ref d'), (.long u5), (.int (5 : Int32)), (.ref d)])
  refine own_st (own_ldJ X47 hx hZ e47 V_d' (j := (5 : Int32)) (x := w5) ⟨by decide, by decide⟩ rfl (g := (mkF m 20 #[.val (.ref a), .val (.ref b), .val (.int (5 : Int32))] [(.int (5 : Int32)), (.ref d'), (.long u5), (.int (5 : Int32)), (.ref d)])) rfl rfl (hb hby d5_20)) ?_
  show own_Go p e s below _ _ _ T47 (mkF m 21 #[.val (.ref a), .val (.ref b), .val (.int (5 : Int32))] [(.long w5), (.long u5), (.int (5 : Int32)), (.ref d)])
  refine own_st (fun _ k => XS.ladd X47.here hx rfl (hb hby d5_21) rfl k) ?_
  show own_Go p e s below _ _ _ T47 (mkF m 22 #[.val (.ref a), .val (.ref b), .val (.int (5 : Int32))] [(.long (u5 + w5)), (.int (5 : Int32)), (.ref d)])
  obtain ⟨T48, h48, X48, e48, W48, V48, st48⟩ := own_stJ X47 hx hZ e47 V_d (j := (5 : Int32)) ⟨by decide, by decide⟩ (Nat.le_of_ble_eq_true rfl) (g := (mkF m 22 #[.val (.ref a), .val (.ref b), .val (.int (5 : Int32))] [(.long (u5 + w5)), (.int (5 : Int32)), (.ref d)])) rfl rfl (hb hby d5_22)
  clear V_d
  have V_d : Arv Z h48 d k .long (6 : Int32) [(.long (u0 + w0)), (.long (u1 + w1)), (.long (u2 + w2)), (.long (u3 + w3)), (.long (u4 + w4)), (.long (u5 + w5))] (.long (0 : Int64)) := V48
  replace F_counts_a := F_counts_a.other W48 (Or.inl ne_a_d)
  replace F_counts_b := F_counts_b.other W48 (Or.inl ne_b_d)
  replace V_d' := V_d'.other W48 ne_d'_d
  have Z49 := Nat.le_trans Z44 (Keep.of_wr W48).1
  have K50 := K45.wr W48 (Or.inl (List.mem_of_getElem? (i := 0) rfl))
  have N48 := Fr.snoc X48 N43 g_d
  refine own_st st48 ?_
  show own_Go p e s below _ _ _ T48 (mkF m 23 #[.val (.ref a), .val (.ref b), .val (.int (5 : Int32))] [])
  refine own_st (fun _ k => XS.iinc X48.here hx rfl (hb hby d5_23) rfl (l' := #[.val (.ref a), .val (.ref b), .val (.int (6 : Int32))]) rfl k) ?_
  show own_Go p e s below _ _ _ T48 (mkF m 26 #[.val (.ref a), .val (.ref b), .val (.int (6 : Int32))] [])
  refine own_st (fun _ k => XS.goto X48.here hx rfl (pc0 := 26) (pc' := 2) rfl (hb hby d5_26) (by decide) (by decide) k) ?_
  show own_Go p e s below _ _ _ T48 (mkF m 2 #[.val (.ref a), .val (.ref b), .val (.int (6 : Int32))] [])
  refine own_st (fun _ k => XS.iloadN X48.here hx rfl (hb hby d5_2) rfl k) ?_
  show own_Go p e s below _ _ _ T48 (mkF m 3 #[.val (.ref a), .val (.ref b), .val (.int (6 : Int32))] [(.int (6 : Int32))])
  refine own_st (fun _ k => XS.bipush X48.here hx rfl (hb hby d5_3) k) ?_
  show own_Go p e s below _ _ _ T48 (mkF m 5 #[.val (.ref a), .val (.ref b), .val (.int (6 : Int32))] [(.int (6 : Int32)), (.int (6 : Int32))])
  refine own_st (fun _ k => XS.icmpYes X48.here hx rfl (pc0 := 5) (pc' := 29) rfl (hb hby d5_5) rfl (by decide) (by decide) (by decide) k) ?_
  show own_Go p e s below _ _ _ T48 (mkF m 29 #[.val (.ref a), .val (.ref b), .val (.int (6 : Int32))] [])
  exact own_ret0 X48 hx hlk hret (hb hby d5_29) (by decide) (by decide) (by rw [e48]; exact ⟨rfl, N48, K50, V_d⟩)
theorem ef_rm6 (m : MethodId) (z0 : Addr) : entryFrame m #[(.ref z0)] 1 = mkF m 0 #[.val (.ref z0)] [] := by first | (simp [entryFrame, mkF, argsToLocals, Value.category]; done) | rfl
set_option maxRecDepth 65536 in
set_option maxHeartbeats 40000000 in
theorem rm6 (l : Launch) (Z : State) (a0 : Array Value) (hw : ∀ d ∈ tables_1, d.before a0 Z = true) (ws : List Jvm.Cond) (a d : Addr) (k : ClassId) (u0 u1 u2 u3 u4 u5 : Int64) (h0 : Heap) (n0 : Nat) (Z0 : n0 ≤ h0.size) (F_counts_a : (Fld Z h0 a "com/example/coterie/coterie/network/peer/MessageCount" "counts" "[J" (.ref d))) (V_d : Arv Z h0 d k .long (6 : Int32) [(.long u0), (.long u1), (.long u2), (.long u3), (.long u4), (.long u5)] (.long (0 : Int64))) (E_d : (Exa Z h0 d "[J")) :
    own_Met l Z (⟨"com/example/coterie/coterie/network/peer/MessageCount", "counts", "()[J"⟩ : MethodName) prog_178_method_6_code 1 (some (.array .long)) ({ frames := 1, cells := 1, slots := 6, locals := 14 } : Room) ws #[(.ref a)] h0 (fun v h L => ∃ b : Addr, v = some (.ref b) ∧ Fr n0 L ∧ Keep h0 h [] ∧ (h0.size ≤ b) ∧ (Arv Z h b k .long (6 : Int32) [(.long u0), (.long u1), (.long u2), (.long u3), (.long u4), (.long u5)] (.long (0 : Int64)))) 1 6 := by
  refine own_enter pf6 (fun m => ef_rm6 m a) ?_
  intro p e s m below meth c T0 hx hby hml hown hnm hret hlk hZ X0 e0
  have N0 := Fr.nil n0
  show own_Go p e s below _ _ _ T0 (mkF m 0 #[.val (.ref a)] [])
  have K_0 := Keep.refl h0 []
  refine own_st (fun _ k => XS.aloadN X0.here hx rfl (hb hby d6_0) rfl rfl k) ?_
  show own_Go p e s below _ _ _ T0 (mkF m 1 #[.val (.ref a)] [(.ref a)])
  obtain ⟨T51, X51, e51, st51⟩ := getF X0 hx hZ hown (host := "") (Or.inl (hw _ (List.mem_of_getElem? (i := 13) rfl))) Via.refl e0 F_counts_a (g := (mkF m 1 #[.val (.ref a)] [(.ref a)])) rfl rfl (hb hby d6_1)
  refine own_st st51 ?_
  show own_Go p e s below _ _ _ T51 (mkF m 4 #[.val (.ref a)] [(.ref d)])
  obtain ⟨T52, h52, X52, e52, E52, V52, A52, st52⟩ := cloneH X51 hx hZ hown (hw _ (List.mem_of_getElem? (i := 19) rfl)) (hw _ (List.mem_of_getElem? (i := 20) rfl)) (hw _ (List.mem_of_getElem? (i := 24) rfl)) (hw _ (List.mem_of_getElem? (i := 22) rfl)) (hw _ (List.mem_of_getElem? (i := 23) rfl)) (hw _ (List.mem_of_getElem? (i := 25) rfl)) e51 V_d.arh E_d (g := (mkF m 4 #[.val (.ref a)] [(.ref d)])) rfl (by rw [hml]; rfl) rfl (hb hby d6_4) (by decide) (W := 0) (by show 2 * 0 + _ ≤ _; exact Nat.le_of_eq rfl) (by decide) (cap := 6) (by decide) (by decide) (by decide)
  obtain ⟨b, g52⟩ : ∃ z, z = h0.size := ⟨_, rfl⟩
  rw [← g52] at V52 A52 st52
  have g_b : n0 ≤ b := Nat.le_trans Z0 (Nat.le_of_eq g52.symm)
  have ne_a_b : a ≠ b := Nat.ne_of_lt (Nat.lt_of_lt_of_le F_counts_a.lt (Nat.le_of_eq g52.symm))
  have ne_b_a := Ne.symm ne_a_b
  have ne_d_b : d ≠ b := Nat.ne_of_lt (Nat.lt_of_lt_of_le V_d.lt (Nat.le_of_eq g52.symm))
  have ne_b_d := Ne.symm ne_d_b
  have sz_b := Nat.le_trans K_0.1 (Nat.le_of_eq g52.symm)
  replace F_counts_a := F_counts_a.ext E52
  replace V_d := V_d.ext E52
  replace E_d := E_d.ext E52
  have Z53 := Nat.le_trans Z0 E52.1
  have K54 := K_0.ext E52
  have V_b : Arv Z h52 b k .long (6 : Int32) [(.long u0), (.long u1), (.long u2), (.long u3), (.long u4), (.long u5)] (.long (0 : Int64)) := V52
  have E_b := A52
  refine own_st st52 ?_
  show own_Go p e s below _ _ _ T52 (mkF m 7 #[.val (.ref a)] [(.ref b)])
  obtain ⟨T55, X55, e55, st55⟩ := castY X52 hx hZ hown (hw _ (List.mem_of_getElem? (i := 26) rfl)) e52 (Ins.self E_b) (g := (mkF m 7 #[.val (.ref a)] [(.ref b)])) rfl rfl (hb hby d6_7)
  refine own_st st55 ?_
  show own_Go p e s below _ _ _ T55 (mkF m 10 #[.val (.ref a)] [(.ref b)])
  exact own_retR X55 hx hlk hret rfl rfl rfl (hb hby d6_10) (by decide) (by decide) (by rw [e55]; exact ⟨b, rfl, N0, K54, sz_b, V_b⟩)
theorem ef_rm0 (m : MethodId) (z0 : Int64) (z1 : Int64) (z2 : Int64) (z3 : Int64) (z4 : Int64) (z5 : Int64) : entryFrame m #[(.long z0), (.long z1), (.long z2), (.long z3), (.long z4), (.long z5)] maxLocals = mkF m 0 #[.val (.long z0), .second, .val (.long z1), .second, .val (.long z2), .second, .val (.long z3), .second, .val (.long z4), .second, .val (.long z5), .second, .unset, .unset, .unset, .unset, .unset, .unset, .unset, .unset, .unset] [] := by first | (simp [entryFrame, mkF, argsToLocals, Value.category, maxLocals]; done) | rfl
set_option maxRecDepth 65536 in
set_option maxHeartbeats 40000000 in
theorem rm0 (l : Launch) (Z : State) (a0 : Array Value) (hw : ∀ d ∈ tables_1, d.before a0 Z = true) (ws : List Jvm.Cond) (q0 q1 q2 q3 q4 q5 : Int64) (h0 : Heap) (n0 : Nat) (Z0 : n0 ≤ h0.size)  :
    own_Met l Z x code maxLocals ret room_1 ws #[(.long q0), (.long q1), (.long q2), (.long q3), (.long q4), (.long q5)] h0 (fun v h L => v = some (.int 1) ∧ Fr n0 L) 32 192 := by
  refine own_enter pf0 (fun m => ef_rm0 m q0 q1 q2 q3 q4 q5) ?_
  intro p e s m below meth c T0 hx hby hml hown hnm hret hlk hZ X0 e0
  have N0 := Fr.nil n0
  show own_Go p e s below _ _ _ T0 (mkF m 0 #[.val (.long q0), .second, .val (.long q1), .second, .val (.long q2), .second, .val (.long q3), .second, .val (.long q4), .second, .val (.long q5), .second, .unset, .unset, .unset, .unset, .unset, .unset, .unset, .unset, .unset] [])
  obtain ⟨T56, h56, X56, e56, E56, A56, D56, -, st56⟩ := newO X0 hx hZ hown (hw _ (List.mem_of_getElem? (i := 0) rfl)) (hw _ (List.mem_of_getElem? (i := 1) rfl)) (hw _ (List.mem_of_getElem? (i := 2) rfl)) e0 (g := (mkF m 0 #[.val (.long q0), .second, .val (.long q1), .second, .val (.long q2), .second, .val (.long q3), .second, .val (.long q4), .second, .val (.long q5), .second, .unset, .unset, .unset, .unset, .unset, .unset, .unset, .unset, .unset] [])) rfl (hb hby at_0) (by decide) (by decide)
  obtain ⟨br, g56⟩ : ∃ z, z = h0.size := ⟨_, rfl⟩
  rw [← g56] at A56 D56 st56
  have g_br : n0 ≤ br := Nat.le_trans Z0 (Nat.le_of_eq g56.symm)
  have Z57 := Nat.le_trans Z0 E56.1
  have E_br := A56
  have F_counts_br : Fld Z h56 br "com/example/coterie/coterie/network/peer/MessageCount" "counts" "[J" .null := D56 (Or.inr (hw _ (List.mem_of_getElem? (i := 14) rfl))) (ty := (.array .long)) (by decide)
  refine own_st st56 ?_
  show own_Go p e s below _ _ _ T56 (mkF m 3 #[.val (.long q0), .second, .val (.long q1), .second, .val (.long q2), .second, .val (.long q3), .second, .val (.long q4), .second, .val (.long q5), .second, .unset, .unset, .unset, .unset, .unset, .unset, .unset, .unset, .unset] [(.ref br)])
  refine own_st (fun _ k => XS.dup X56.here hx rfl (hb hby at_3) rfl rfl k) ?_
  show own_Go p e s below _ _ _ T56 (mkF m 4 #[.val (.long q0), .second, .val (.long q1), .second, .val (.long q2), .second, .val (.long q3), .second, .val (.long q4), .second, .val (.long q5), .second, .unset, .unset, .unset, .unset, .unset, .unset, .unset, .unset, .unset] [(.ref br), (.ref br)])
  refine own_callN X56 hx hZ (y := (⟨"com/example/coterie/coterie/network/peer/MessageCount", "<init>", "()V"⟩ : MethodName)) rfl hown (hw _ (List.mem_of_getElem? (i := 3) rfl)) (hw _ (List.mem_of_getElem? (i := 4) rfl)) (hw _ (List.mem_of_getElem? (i := 2) rfl)) (hw _ (List.mem_of_getElem? (i := 5) rfl)) (by decide) e56 (rm1 l Z a0 hw [] br h56 n0 Z57 E_br F_counts_br g_br) 1 (by decide) (by decide) (g := (mkF m 4 #[.val (.long q0), .second, .val (.long q1), .second, .val (.long q2), .second, .val (.long q3), .second, .val (.long q4), .second, .val (.long q5), .second, .unset, .unset, .unset, .unset, .unset, .unset, .unset, .unset, .unset] [(.ref br), (.ref br)])) rfl (by rw [hml]; rfl) (a := br) (argsL := []) (rest := [(.ref br)]) pd0 rfl rfl rfl (by show 2 * 0 + _ ≤ _; exact Nat.le_of_eq rfl) (hb hby at_4) (by decide) (by decide) ?_
  intro T58 v58 L58 X58 hQ58
  obtain ⟨dr, kr, rfl, N58q, K58q, sf_dr, y58_0, y58_1, y58_2, y58_3⟩ := hQ58
  have N58 := Fr.app N0 N58q
  have g_dr := Nat.le_trans Z57 sf_dr
  have ne_br_dr : br ≠ dr := Nat.ne_of_lt (Nat.lt_of_lt_of_le E_br.lt sf_dr)
  have ne_dr_br := Ne.symm ne_br_dr
  replace E_br := E_br.keep K58q
  clear F_counts_br
  have Z59 := Nat.le_trans Z57 K58q.1
  have E_br := y58_0
  have F_counts_br := y58_1
  have V_dr := y58_2
  have E_dr := y58_3
  show own_Go p e s below _ _ _ T58 (mkF m 7 #[.val (.long q0), .second, .val (.long q1), .second, .val (.long q2), .second, .val (.long q3), .second, .val (.long q4), .second, .val (.long q5), .second, .unset, .unset, .unset, .unset, .unset, .unset, .unset, .unset, .unset] [(.ref br)])
  refine own_st (fun _ k => XS.astore X58.here hx rfl (hb hby at_7) rfl rfl (l' := #[.val (.long q0), .second, .val (.long q1), .second, .val (.long q2), .second, .val (.long q3), .second, .val (.long q4), .second, .val (.long q5), .second, .val (.ref br), .unset, .unset, .unset, .unset, .unset, .unset, .unset, .unset]) rfl k) ?_
  show own_Go p e s below _ _ _ T58 (mkF m 9 #[.val (.long q0), .second, .val (.long q1), .second, .val (.long q2), .second, .val (.long q3), .second, .val (.long q4), .second, .val (.long q5), .second, .val (.ref br), .unset, .unset, .unset, .unset, .unset, .unset, .unset, .unset] [])
  refine own_st (fun _ k => XS.bipush X58.here hx rfl (hb hby at_9) k) ?_
  show own_Go p e s below _ _ _ T58 (mkF m 11 #[.val (.long q0), .second, .val (.long q1), .second, .val (.long q2), .second, .val (.long q3), .second, .val (.long q4), .second, .val (.long q5), .second, .val (.ref br), .unset, .unset, .unset, .unset, .unset, .unset, .unset, .unset] [(.int (6 : Int32))])
  obtain ⟨T60, h60, k60, X60, e60, E60, A60, Ex60, st60⟩ := newPE X58 hx hZ (hw _ (List.mem_of_getElem? (i := 6) rfl)) rfl (g := (mkF m 11 #[.val (.long q0), .second, .val (.long q1), .second, .val (.long q2), .second, .val (.long q3), .second, .val (.long q4), .second, .val (.long q5), .second, .val (.ref br), .unset, .unset, .unset, .unset, .unset, .unset, .unset, .unset] [(.int (6 : Int32))])) rfl (hb hby at_11) rfl (by decide) (cap := 6) (by decide) (by decide) (by decide) (by decide) (ad := "[J") (by decide)
  obtain ⟨b1, g60⟩ : ∃ z, z = T58.heap.size := ⟨_, rfl⟩
  rw [← g60] at A60 Ex60 st60
  have g_b1 : n0 ≤ b1 := Nat.le_trans Z59 (Nat.le_of_eq g60.symm)
  have ne_br_b1 : br ≠ b1 := Nat.ne_of_lt (Nat.lt_of_lt_of_le E_br.lt (Nat.le_of_eq g60.symm))
  have ne_b1_br := Ne.symm ne_br_b1
  have ne_dr_b1 : dr ≠ b1 := Nat.ne_of_lt (Nat.lt_of_lt_of_le V_dr.lt (Nat.le_of_eq g60.symm))
  have ne_b1_dr := Ne.symm ne_dr_b1
  replace E_br := E_br.ext E60
  replace F_counts_br := F_counts_br.ext E60
  replace V_dr := V_dr.ext E60
  replace E_dr := E_dr.ext E60
  have Z61 := Nat.le_trans Z59 E60.1
  have V_b1 : Arv Z h60 b1 k60 .long (6 : Int32) [(.long (0 : Int64)), (.long (0 : Int64)), (.long (0 : Int64)), (.long (0 : Int64)), (.long (0 : Int64)), (.long (0 : Int64))] (.long (0 : Int64)) := (Arv.new A60 (by decide)).pad (pad_rep [] (.long (0 : Int64)) 6)
  have E_b1 := Ex60
  refine own_st st60 ?_
  show own_Go p e s below _ _ _ T60 (mkF m 13 #[.val (.long q0), .second, .val (.long q1), .second, .val (.long q2), .second, .val (.long q3), .second, .val (.long q4), .second, .val (.long q5), .second, .val (.ref br), .unset, .unset, .unset, .unset, .unset, .unset, .unset, .unset] [(.ref b1)])
  refine own_st (fun _ k => XS.dup X60.here hx rfl (hb hby at_13) rfl rfl k) ?_
  show own_Go p e s below _ _ _ T60 (mkF m 14 #[.val (.long q0), .second, .val (.long q1), .second, .val (.long q2), .second, .val (.long q3), .second, .val (.long q4), .second, .val (.long q5), .second, .val (.ref br), .unset, .unset, .unset, .unset, .unset, .unset, .unset, .unset] [(.ref b1), (.ref b1)])
  refine own_st (fun _ k => XS.iconst X60.here hx rfl (hb hby at_14) k) ?_
  show own_Go p e s below _ _ _ T60 (mkF m 15 #[.val (.long q0), .second, .val (.long q1), .second, .val (.long q2), .second, .val (.long q3), .second, .val (.long q4), .second, .val (.long q5), .second, .val (.ref br), .unset, .unset, .unset, .unset, .unset, .unset, .unset, .unset] [(.int (0 : Int32)), (.ref b1), (.ref b1)])
  refine own_st (fun _ k => XS.lloadN X60.here hx rfl (hb hby at_15) rfl k) ?_
  show own_Go p e s below _ _ _ T60 (mkF m 16 #[.val (.long q0), .second, .val (.long q1), .second, .val (.long q2), .second, .val (.long q3), .second, .val (.long q4), .second, .val (.long q5), .second, .val (.ref br), .unset, .unset, .unset, .unset, .unset, .unset, .unset, .unset] [(.long q0), (.int (0 : Int32)), (.ref b1), (.ref b1)])
  obtain ⟨T62, h62, X62, e62, W62, V62, st62⟩ := own_stJ X60 hx hZ e60 V_b1 (j := (0 : Int32)) ⟨by decide, by decide⟩ (Nat.le_of_ble_eq_true rfl) (g := (mkF m 16 #[.val (.long q0), .second, .val (.long q1), .second, .val (.long q2), .second, .val (.long q3), .second, .val (.long q4), .second, .val (.long q5), .second, .val (.ref br), .unset, .unset, .unset, .unset, .unset, .unset, .unset, .unset] [(.long q0), (.int (0 : Int32)), (.ref b1), (.ref b1)])) rfl rfl (hb hby at_16)
  clear V_b1
  have V_b1 : Arv Z h62 b1 k60 .long (6 : Int32) [(.long q0), (.long (0 : Int64)), (.long (0 : Int64)), (.long (0 : Int64)), (.long (0 : Int64)), (.long (0 : Int64))] (.long (0 : Int64)) := V62
  replace E_br := E_br.wr W62
  replace F_counts_br := F_counts_br.other W62 (Or.inl ne_br_b1)
  replace V_dr := V_dr.other W62 ne_dr_b1
  replace E_dr := E_dr.wr W62
  replace E_b1 := E_b1.wr W62
  have Z63 := Nat.le_trans Z61 (Keep.of_wr W62).1
  have N62 := Fr.snoc X62 N58 g_b1
  refine own_st st62 ?_
  show own_Go p e s below _ _ _ T62 (mkF m 17 #[.val (.long q0), .second, .val (.long q1), .second, .val (.long q2), .second, .val (.long q3), .second, .val (.long q4), .second, .val (.long q5), .second, .val (.ref br), .unset, .unset, .unset, .unset, .unset, .unset, .unset, .unset] [(.ref b1)])
  refine own_st (fun _ k => XS.dup X62.here hx rfl (hb hby at_17) rfl rfl k) ?_
  show own_Go p e s below _ _ _ T62 (mkF m 18 #[.val (.long q0), .second, .val (.long q1), .second, .val (.long q2), .second, .val (.long q3), .second, .val (.long q4), .second, .val (.long q5), .second, .val (.ref br), .unset, .unset, .unset, .unset, .unset, .unset, .unset, .unset] [(.ref b1), (.ref b1)])
  refine own_st (fun _ k => XS.iconst X62.here hx rfl (hb hby at_18) k) ?_
  show own_Go p e s below _ _ _ T62 (mkF m 19 #[.val (.long q0), .second, .val (.long q1), .second, .val (.long q2), .second, .val (.long q3), .second, .val (.long q4), .second, .val (.long q5), .second, .val (.ref br), .unset, .unset, .unset, .unset, .unset, .unset, .unset, .unset] [(.int (1 : Int32)), (.ref b1), (.ref b1)])
  refine own_st (fun _ k => XS.lloadN X62.here hx rfl (hb hby at_19) rfl k) ?_
  show own_Go p e s below _ _ _ T62 (mkF m 20 #[.val (.long q0), .second, .val (.long q1), .second, .val (.long q2), .second, .val (.long q3), .second, .val (.long q4), .second, .val (.long q5), .second, .val (.ref br), .unset, .unset, .unset, .unset, .unset, .unset, .unset, .unset] [(.long q1), (.int (1 : Int32)), (.ref b1), (.ref b1)])
  obtain ⟨T64, h64, X64, e64, W64, V64, st64⟩ := own_stJ X62 hx hZ e62 V_b1 (j := (1 : Int32)) ⟨by decide, by decide⟩ (Nat.le_of_ble_eq_true rfl) (g := (mkF m 20 #[.val (.long q0), .second, .val (.long q1), .second, .val (.long q2), .second, .val (.long q3), .second, .val (.long q4), .second, .val (.long q5), .second, .val (.ref br), .unset, .unset, .unset, .unset, .unset, .unset, .unset, .unset] [(.long q1), (.int (1 : Int32)), (.ref b1), (.ref b1)])) rfl rfl (hb hby at_20)
  clear V_b1
  have V_b1 : Arv Z h64 b1 k60 .long (6 : Int32) [(.long q0), (.long q1), (.long (0 : Int64)), (.long (0 : Int64)), (.long (0 : Int64)), (.long (0 : Int64))] (.long (0 : Int64)) := V64
  replace E_br := E_br.wr W64
  replace F_counts_br := F_counts_br.other W64 (Or.inl ne_br_b1)
  replace V_dr := V_dr.other W64 ne_dr_b1
  replace E_dr := E_dr.wr W64
  replace E_b1 := E_b1.wr W64
  have Z65 := Nat.le_trans Z63 (Keep.of_wr W64).1
  have N64 := Fr.snoc X64 N62 g_b1
  refine own_st st64 ?_
  show own_Go p e s below _ _ _ T64 (mkF m 21 #[.val (.long q0), .second, .val (.long q1), .second, .val (.long q2), .second, .val (.long q3), .second, .val (.long q4), .second, .val (.long q5), .second, .val (.ref br), .unset, .unset, .unset, .unset, .unset, .unset, .unset, .unset] [(.ref b1)])
  refine own_st (fun _ k => XS.dup X64.here hx rfl (hb hby at_21) rfl rfl k) ?_
  show own_Go p e s below _ _ _ T64 (mkF m 22 #[.val (.long q0), .second, .val (.long q1), .second, .val (.long q2), .second, .val (.long q3), .second, .val (.long q4), .second, .val (.long q5), .second, .val (.ref br), .unset, .unset, .unset, .unset, .unset, .unset, .unset, .unset] [(.ref b1), (.ref b1)])
  refine own_st (fun _ k => XS.iconst X64.here hx rfl (hb hby at_22) k) ?_
  show own_Go p e s below _ _ _ T64 (mkF m 23 #[.val (.long q0), .second, .val (.long q1), .second, .val (.long q2), .second, .val (.long q3), .second, .val (.long q4), .second, .val (.long q5), .second, .val (.ref br), .unset, .unset, .unset, .unset, .unset, .unset, .unset, .unset] [(.int (2 : Int32)), (.ref b1), (.ref b1)])
  refine own_st (fun _ k => XS.lload X64.here hx rfl (hb hby at_23) rfl k) ?_
  show own_Go p e s below _ _ _ T64 (mkF m 25 #[.val (.long q0), .second, .val (.long q1), .second, .val (.long q2), .second, .val (.long q3), .second, .val (.long q4), .second, .val (.long q5), .second, .val (.ref br), .unset, .unset, .unset, .unset, .unset, .unset, .unset, .unset] [(.long q2), (.int (2 : Int32)), (.ref b1), (.ref b1)])
  obtain ⟨T66, h66, X66, e66, W66, V66, st66⟩ := own_stJ X64 hx hZ e64 V_b1 (j := (2 : Int32)) ⟨by decide, by decide⟩ (Nat.le_of_ble_eq_true rfl) (g := (mkF m 25 #[.val (.long q0), .second, .val (.long q1), .second, .val (.long q2), .second, .val (.long q3), .second, .val (.long q4), .second, .val (.long q5), .second, .val (.ref br), .unset, .unset, .unset, .unset, .unset, .unset, .unset, .unset] [(.long q2), (.int (2 : Int32)), (.ref b1), (.ref b1)])) rfl rfl (hb hby at_25)
  clear V_b1
  have V_b1 : Arv Z h66 b1 k60 .long (6 : Int32) [(.long q0), (.long q1), (.long q2), (.long (0 : Int64)), (.long (0 : Int64)), (.long (0 : Int64))] (.long (0 : Int64)) := V66
  replace E_br := E_br.wr W66
  replace F_counts_br := F_counts_br.other W66 (Or.inl ne_br_b1)
  replace V_dr := V_dr.other W66 ne_dr_b1
  replace E_dr := E_dr.wr W66
  replace E_b1 := E_b1.wr W66
  have Z67 := Nat.le_trans Z65 (Keep.of_wr W66).1
  have N66 := Fr.snoc X66 N64 g_b1
  refine own_st st66 ?_
  show own_Go p e s below _ _ _ T66 (mkF m 26 #[.val (.long q0), .second, .val (.long q1), .second, .val (.long q2), .second, .val (.long q3), .second, .val (.long q4), .second, .val (.long q5), .second, .val (.ref br), .unset, .unset, .unset, .unset, .unset, .unset, .unset, .unset] [(.ref b1)])
  refine own_st (fun _ k => XS.dup X66.here hx rfl (hb hby at_26) rfl rfl k) ?_
  show own_Go p e s below _ _ _ T66 (mkF m 27 #[.val (.long q0), .second, .val (.long q1), .second, .val (.long q2), .second, .val (.long q3), .second, .val (.long q4), .second, .val (.long q5), .second, .val (.ref br), .unset, .unset, .unset, .unset, .unset, .unset, .unset, .unset] [(.ref b1), (.ref b1)])
  refine own_st (fun _ k => XS.iconst X66.here hx rfl (hb hby at_27) k) ?_
  show own_Go p e s below _ _ _ T66 (mkF m 28 #[.val (.long q0), .second, .val (.long q1), .second, .val (.long q2), .second, .val (.long q3), .second, .val (.long q4), .second, .val (.long q5), .second, .val (.ref br), .unset, .unset, .unset, .unset, .unset, .unset, .unset, .unset] [(.int (3 : Int32)), (.ref b1), (.ref b1)])
  refine own_st (fun _ k => XS.lload X66.here hx rfl (hb hby at_28) rfl k) ?_
  show own_Go p e s below _ _ _ T66 (mkF m 30 #[.val (.long q0), .second, .val (.long q1), .second, .val (.long q2), .second, .val (.long q3), .second, .val (.long q4), .second, .val (.long q5), .second, .val (.ref br), .unset, .unset, .unset, .unset, .unset, .unset, .unset, .unset] [(.long q3), (.int (3 : Int32)), (.ref b1), (.ref b1)])
  obtain ⟨T68, h68, X68, e68, W68, V68, st68⟩ := own_stJ X66 hx hZ e66 V_b1 (j := (3 : Int32)) ⟨by decide, by decide⟩ (Nat.le_of_ble_eq_true rfl) (g := (mkF m 30 #[.val (.long q0), .second, .val (.long q1), .second, .val (.long q2), .second, .val (.long q3), .second, .val (.long q4), .second, .val (.long q5), .second, .val (.ref br), .unset, .unset, .unset, .unset, .unset, .unset, .unset, .unset] [(.long q3), (.int (3 : Int32)), (.ref b1), (.ref b1)])) rfl rfl (hb hby at_30)
  clear V_b1
  have V_b1 : Arv Z h68 b1 k60 .long (6 : Int32) [(.long q0), (.long q1), (.long q2), (.long q3), (.long (0 : Int64)), (.long (0 : Int64))] (.long (0 : Int64)) := V68
  replace E_br := E_br.wr W68
  replace F_counts_br := F_counts_br.other W68 (Or.inl ne_br_b1)
  replace V_dr := V_dr.other W68 ne_dr_b1
  replace E_dr := E_dr.wr W68
  replace E_b1 := E_b1.wr W68
  have Z69 := Nat.le_trans Z67 (Keep.of_wr W68).1
  have N68 := Fr.snoc X68 N66 g_b1
  refine own_st st68 ?_
  show own_Go p e s below _ _ _ T68 (mkF m 31 #[.val (.long q0), .second, .val (.long q1), .second, .val (.long q2), .second, .val (.long q3), .second, .val (.long q4), .second, .val (.long q5), .second, .val (.ref br), .unset, .unset, .unset, .unset, .unset, .unset, .unset, .unset] [(.ref b1)])
  refine own_st (fun _ k => XS.dup X68.here hx rfl (hb hby at_31) rfl rfl k) ?_
  show own_Go p e s below _ _ _ T68 (mkF m 32 #[.val (.long q0), .second, .val (.long q1), .second, .val (.long q2), .second, .val (.long q3), .second, .val (.long q4), .second, .val (.long q5), .second, .val (.ref br), .unset, .unset, .unset, .unset, .unset, .unset, .unset, .unset] [(.ref b1), (.ref b1)])
  refine own_st (fun _ k => XS.iconst X68.here hx rfl (hb hby at_32) k) ?_
  show own_Go p e s below _ _ _ T68 (mkF m 33 #[.val (.long q0), .second, .val (.long q1), .second, .val (.long q2), .second, .val (.long q3), .second, .val (.long q4), .second, .val (.long q5), .second, .val (.ref br), .unset, .unset, .unset, .unset, .unset, .unset, .unset, .unset] [(.int (4 : Int32)), (.ref b1), (.ref b1)])
  refine own_st (fun _ k => XS.lload X68.here hx rfl (hb hby at_33) rfl k) ?_
  show own_Go p e s below _ _ _ T68 (mkF m 35 #[.val (.long q0), .second, .val (.long q1), .second, .val (.long q2), .second, .val (.long q3), .second, .val (.long q4), .second, .val (.long q5), .second, .val (.ref br), .unset, .unset, .unset, .unset, .unset, .unset, .unset, .unset] [(.long q4), (.int (4 : Int32)), (.ref b1), (.ref b1)])
  obtain ⟨T70, h70, X70, e70, W70, V70, st70⟩ := own_stJ X68 hx hZ e68 V_b1 (j := (4 : Int32)) ⟨by decide, by decide⟩ (Nat.le_of_ble_eq_true rfl) (g := (mkF m 35 #[.val (.long q0), .second, .val (.long q1), .second, .val (.long q2), .second, .val (.long q3), .second, .val (.long q4), .second, .val (.long q5), .second, .val (.ref br), .unset, .unset, .unset, .unset, .unset, .unset, .unset, .unset] [(.long q4), (.int (4 : Int32)), (.ref b1), (.ref b1)])) rfl rfl (hb hby at_35)
  clear V_b1
  have V_b1 : Arv Z h70 b1 k60 .long (6 : Int32) [(.long q0), (.long q1), (.long q2), (.long q3), (.long q4), (.long (0 : Int64))] (.long (0 : Int64)) := V70
  replace E_br := E_br.wr W70
  replace F_counts_br := F_counts_br.other W70 (Or.inl ne_br_b1)
  replace V_dr := V_dr.other W70 ne_dr_b1
  replace E_dr := E_dr.wr W70
  replace E_b1 := E_b1.wr W70
  have Z71 := Nat.le_trans Z69 (Keep.of_wr W70).1
  have N70 := Fr.snoc X70 N68 g_b1
  refine own_st st70 ?_
  show own_Go p e s below _ _ _ T70 (mkF m 36 #[.val (.long q0), .second, .val (.long q1), .second, .val (.long q2), .second, .val (.long q3), .second, .val (.long q4), .second, .val (.long q5), .second, .val (.ref br), .unset, .unset, .unset, .unset, .unset, .unset, .unset, .unset] [(.ref b1)])
  refine own_st (fun _ k => XS.dup X70.here hx rfl (hb hby at_36) rfl rfl k) ?_
  show own_Go p e s below _ _ _ T70 (mkF m 37 #[.val (.long q0), .second, .val (.long q1), .second, .val (.long q2), .second, .val (.long q3), .second, .val (.long q4), .second, .val (.long q5), .second, .val (.ref br), .unset, .unset, .unset, .unset, .unset, .unset, .unset, .unset] [(.ref b1), (.ref b1)])
  refine own_st (fun _ k => XS.iconst X70.here hx rfl (hb hby at_37) k) ?_
  show own_Go p e s below _ _ _ T70 (mkF m 38 #[.val (.long q0), .second, .val (.long q1), .second, .val (.long q2), .second, .val (.long q3), .second, .val (.long q4), .second, .val (.long q5), .second, .val (.ref br), .unset, .unset, .unset, .unset, .unset, .unset, .unset, .unset] [(.int (5 : Int32)), (.ref b1), (.ref b1)])
  refine own_st (fun _ k => XS.lload X70.here hx rfl (hb hby at_38) rfl k) ?_
  show own_Go p e s below _ _ _ T70 (mkF m 40 #[.val (.long q0), .second, .val (.long q1), .second, .val (.long q2), .second, .val (.long q3), .second, .val (.long q4), .second, .val (.long q5), .second, .val (.ref br), .unset, .unset, .unset, .unset, .unset, .unset, .unset, .unset] [(.long q5), (.int (5 : Int32)), (.ref b1), (.ref b1)])
  obtain ⟨T72, h72, X72, e72, W72, V72, st72⟩ := own_stJ X70 hx hZ e70 V_b1 (j := (5 : Int32)) ⟨by decide, by decide⟩ (Nat.le_of_ble_eq_true rfl) (g := (mkF m 40 #[.val (.long q0), .second, .val (.long q1), .second, .val (.long q2), .second, .val (.long q3), .second, .val (.long q4), .second, .val (.long q5), .second, .val (.ref br), .unset, .unset, .unset, .unset, .unset, .unset, .unset, .unset] [(.long q5), (.int (5 : Int32)), (.ref b1), (.ref b1)])) rfl rfl (hb hby at_40)
  clear V_b1
  have V_b1 : Arv Z h72 b1 k60 .long (6 : Int32) [(.long q0), (.long q1), (.long q2), (.long q3), (.long q4), (.long q5)] (.long (0 : Int64)) := V72
  replace E_br := E_br.wr W72
  replace F_counts_br := F_counts_br.other W72 (Or.inl ne_br_b1)
  replace V_dr := V_dr.other W72 ne_dr_b1
  replace E_dr := E_dr.wr W72
  replace E_b1 := E_b1.wr W72
  have Z73 := Nat.le_trans Z71 (Keep.of_wr W72).1
  have N72 := Fr.snoc X72 N70 g_b1
  refine own_st st72 ?_
  show own_Go p e s below _ _ _ T72 (mkF m 41 #[.val (.long q0), .second, .val (.long q1), .second, .val (.long q2), .second, .val (.long q3), .second, .val (.long q4), .second, .val (.long q5), .second, .val (.ref br), .unset, .unset, .unset, .unset, .unset, .unset, .unset, .unset] [(.ref b1)])
  refine own_callS X72 hx hZ (y := (⟨"com/example/coterie/coterie/network/peer/MessageCount", "of", "([J)Lcom/example/coterie/coterie/network/peer/MessageCount;"⟩ : MethodName)) hown (hw _ (List.mem_of_getElem? (i := 15) rfl)) (hw _ (List.mem_of_getElem? (i := 16) rfl)) (hw _ (List.mem_of_getElem? (i := 2) rfl)) (hw _ (List.mem_of_getElem? (i := 17) rfl)) (by decide) e72 (rm4 l Z a0 hw [] b1 k60 q0 q1 q2 q3 q4 q5 h72 n0 Z73 V_b1 E_b1) 0 (by decide) (by decide) (g := (mkF m 41 #[.val (.long q0), .second, .val (.long q1), .second, .val (.long q2), .second, .val (.long q3), .second, .val (.long q4), .second, .val (.long q5), .second, .val (.ref br), .unset, .unset, .unset, .unset, .unset, .unset, .unset, .unset] [(.ref b1)])) rfl (by rw [hml]; rfl) (argsL := [(.ref b1)]) (rest := []) pd2 rfl rfl rfl (by show 2 * 0 + _ ≤ _; exact Nat.le_of_eq rfl) (hb hby at_41) (by decide) (by decide) ?_
  intro T74 v74 L74 X74 hQ74
  obtain ⟨bx, dx, rfl, N74q, K74q, sf_bx, sf_dx, y74_0, y74_1, y74_2, y74_3, y74_4⟩ := hQ74
  have N74 := Fr.app N72 N74q
  have g_bx := Nat.le_trans Z73 sf_bx
  have ne_b1_bx : b1 ≠ bx := Nat.ne_of_lt (Nat.lt_of_lt_of_le E_b1.lt sf_bx)
  have ne_bx_b1 := Ne.symm ne_b1_bx
  have ne_br_bx : br ≠ bx := Nat.ne_of_lt (Nat.lt_of_lt_of_le E_br.lt sf_bx)
  have ne_bx_br := Ne.symm ne_br_bx
  have ne_dr_bx : dr ≠ bx := Nat.ne_of_lt (Nat.lt_of_lt_of_le V_dr.lt sf_bx)
  have ne_bx_dr := Ne.symm ne_dr_bx
  have g_dx := Nat.le_trans Z73 sf_dx
  have ne_b1_dx : b1 ≠ dx := Nat.ne_of_lt (Nat.lt_of_lt_of_le E_b1.lt sf_dx)
  have ne_dx_b1 := Ne.symm ne_b1_dx
  have ne_br_dx : br ≠ dx := Nat.ne_of_lt (Nat.lt_of_lt_of_le E_br.lt sf_dx)
  have ne_dx_br := Ne.symm ne_br_dx
  have ne_dr_dx : dr ≠ dx := Nat.ne_of_lt (Nat.lt_of_lt_of_le V_dr.lt sf_dx)
  have ne_dx_dr := Ne.symm ne_dr_dx
  replace E_br := E_br.keep K74q
  replace F_counts_br := F_counts_br.keep K74q nin0
  replace V_dr := V_dr.keep K74q nin0
  replace E_dr := E_dr.keep K74q
  replace E_b1 := E_b1.keep K74q
  replace V_b1 := V_b1.keep K74q nin0
  have Z75 := Nat.le_trans Z73 K74q.1
  have ne_bx_dx := y74_0
  have E_bx := y74_1
  have F_counts_bx := y74_2
  have V_dx := y74_3
  have E_dx := y74_4
  show own_Go p e s below _ _ _ T74 (mkF m 44 #[.val (.long q0), .second, .val (.long q1), .second, .val (.long q2), .second, .val (.long q3), .second, .val (.long q4), .second, .val (.long q5), .second, .val (.ref br), .unset, .unset, .unset, .unset, .unset, .unset, .unset, .unset] [(.ref bx)])
  have ne_dx_bx := Ne.symm ne_bx_dx
  show own_Go p e s below _ _ _ T74 (mkF m 44 #[.val (.long q0), .second, .val (.long q1), .second, .val (.long q2), .second, .val (.long q3), .second, .val (.long q4), .second, .val (.long q5), .second, .val (.ref br), .unset, .unset, .unset, .unset, .unset, .unset, .unset, .unset] [(.ref bx)])
  refine own_st (fun _ k => XS.astore X74.here hx rfl (hb hby at_44) rfl rfl (l' := #[.val (.long q0), .second, .val (.long q1), .second, .val (.long q2), .second, .val (.long q3), .second, .val (.long q4), .second, .val (.long q5), .second, .val (.ref br), .val (.ref bx), .unset, .unset, .unset, .unset, .unset, .unset, .unset]) rfl k) ?_
  show own_Go p e s below _ _ _ T74 (mkF m 46 #[.val (.long q0), .second, .val (.long q1), .second, .val (.long q2), .second, .val (.long q3), .second, .val (.long q4), .second, .val (.long q5), .second, .val (.ref br), .val (.ref bx), .unset, .unset, .unset, .unset, .unset, .unset, .unset] [])
  refine own_st (fun _ k => XS.bipush X74.here hx rfl (hb hby at_46) k) ?_
  show own_Go p e s below _ _ _ T74 (mkF m 48 #[.val (.long q0), .second, .val (.long q1), .second, .val (.long q2), .second, .val (.long q3), .second, .val (.long q4), .second, .val (.long q5), .second, .val (.ref br), .val (.ref bx), .unset, .unset, .unset, .unset, .unset, .unset, .unset] [(.int (6 : Int32))])
  obtain ⟨T76, h76, k76, X76, e76, E76, A76, Ex76, st76⟩ := newPE X74 hx hZ (hw _ (List.mem_of_getElem? (i := 6) rfl)) rfl (g := (mkF m 48 #[.val (.long q0), .second, .val (.long q1), .second, .val (.long q2), .second, .val (.long q3), .second, .val (.long q4), .second, .val (.long q5), .second, .val (.ref br), .val (.ref bx), .unset, .unset, .unset, .unset, .unset, .unset, .unset] [(.int (6 : Int32))])) rfl (hb hby at_48) rfl (by decide) (cap := 6) (by decide) (by decide) (by decide) (by decide) (ad := "[J") (by decide)
  obtain ⟨b2, g76⟩ : ∃ z, z = T74.heap.size := ⟨_, rfl⟩
  rw [← g76] at A76 Ex76 st76
  have g_b2 : n0 ≤ b2 := Nat.le_trans Z75 (Nat.le_of_eq g76.symm)
  have ne_br_b2 : br ≠ b2 := Nat.ne_of_lt (Nat.lt_of_lt_of_le E_br.lt (Nat.le_of_eq g76.symm))
  have ne_b2_br := Ne.symm ne_br_b2
  have ne_bx_b2 : bx ≠ b2 := Nat.ne_of_lt (Nat.lt_of_lt_of_le E_bx.lt (Nat.le_of_eq g76.symm))
  have ne_b2_bx := Ne.symm ne_bx_b2
  have ne_dr_b2 : dr ≠ b2 := Nat.ne_of_lt (Nat.lt_of_lt_of_le V_dr.lt (Nat.le_of_eq g76.symm))
  have ne_b2_dr := Ne.symm ne_dr_b2
  have ne_dx_b2 : dx ≠ b2 := Nat.ne_of_lt (Nat.lt_of_lt_of_le V_dx.lt (Nat.le_of_eq g76.symm))
  have ne_b2_dx := Ne.symm ne_dx_b2
  replace E_br := E_br.ext E76
  replace F_counts_br := F_counts_br.ext E76
  replace V_dr := V_dr.ext E76
  replace E_dr := E_dr.ext E76
  replace E_bx := E_bx.ext E76
  replace F_counts_bx := F_counts_bx.ext E76
  replace V_dx := V_dx.ext E76
  replace E_dx := E_dx.ext E76
  have Z77 := Nat.le_trans Z75 E76.1
  have V_b2 : Arv Z h76 b2 k76 .long (6 : Int32) [(.long (0 : Int64)), (.long (0 : Int64)), (.long (0 : Int64)), (.long (0 : Int64)), (.long (0 : Int64)), (.long (0 : Int64))] (.long (0 : Int64)) := (Arv.new A76 (by decide)).pad (pad_rep [] (.long (0 : Int64)) 6)
  have E_b2 := Ex76
  refine own_st st76 ?_
  show own_Go p e s below _ _ _ T76 (mkF m 50 #[.val (.long q0), .second, .val (.long q1), .second, .val (.long q2), .second, .val (.long q3), .second, .val (.long q4), .second, .val (.long q5), .second, .val (.ref br), .val (.ref bx), .unset, .unset, .unset, .unset, .unset, .unset, .unset] [(.ref b2)])
  refine own_st (fun _ k => XS.dup X76.here hx rfl (hb hby at_50) rfl rfl k) ?_
  show own_Go p e s below _ _ _ T76 (mkF m 51 #[.val (.long q0), .second, .val (.long q1), .second, .val (.long q2), .second, .val (.long q3), .second, .val (.long q4), .second, .val (.long q5), .second, .val (.ref br), .val (.ref bx), .unset, .unset, .unset, .unset, .unset, .unset, .unset] [(.ref b2), (.ref b2)])
  refine own_st (fun _ k => XS.iconst X76.here hx rfl (hb hby at_51) k) ?_
  show own_Go p e s below _ _ _ T76 (mkF m 52 #[.val (.long q0), .second, .val (.long q1), .second, .val (.long q2), .second, .val (.long q3), .second, .val (.long q4), .second, .val (.long q5), .second, .val (.ref br), .val (.ref bx), .unset, .unset, .unset, .unset, .unset, .unset, .unset] [(.int (0 : Int32)), (.ref b2), (.ref b2)])
  refine own_st (fun _ k => XS.lloadN X76.here hx rfl (hb hby at_52) rfl k) ?_
  show own_Go p e s below _ _ _ T76 (mkF m 53 #[.val (.long q0), .second, .val (.long q1), .second, .val (.long q2), .second, .val (.long q3), .second, .val (.long q4), .second, .val (.long q5), .second, .val (.ref br), .val (.ref bx), .unset, .unset, .unset, .unset, .unset, .unset, .unset] [(.long q1), (.int (0 : Int32)), (.ref b2), (.ref b2)])
  obtain ⟨T78, h78, X78, e78, W78, V78, st78⟩ := own_stJ X76 hx hZ e76 V_b2 (j := (0 : Int32)) ⟨by decide, by decide⟩ (Nat.le_of_ble_eq_true rfl) (g := (mkF m 53 #[.val (.long q0), .second, .val (.long q1), .second, .val (.long q2), .second, .val (.long q3), .second, .val (.long q4), .second, .val (.long q5), .second, .val (.ref br), .val (.ref bx), .unset, .unset, .unset, .unset, .unset, .unset, .unset] [(.long q1), (.int (0 : Int32)), (.ref b2), (.ref b2)])) rfl rfl (hb hby at_53)
  clear V_b2
  have V_b2 : Arv Z h78 b2 k76 .long (6 : Int32) [(.long q1), (.long (0 : Int64)), (.long (0 : Int64)), (.long (0 : Int64)), (.long (0 : Int64)), (.long (0 : Int64))] (.long (0 : Int64)) := V78
  replace E_br := E_br.wr W78
  replace F_counts_br := F_counts_br.other W78 (Or.inl ne_br_b2)
  replace V_dr := V_dr.other W78 ne_dr_b2
  replace E_dr := E_dr.wr W78
  replace E_bx := E_bx.wr W78
  replace F_counts_bx := F_counts_bx.other W78 (Or.inl ne_bx_b2)
  replace V_dx := V_dx.other W78 ne_dx_b2
  replace E_dx := E_dx.wr W78
  replace E_b2 := E_b2.wr W78
  have Z79 := Nat.le_trans Z77 (Keep.of_wr W78).1
  have N78 := Fr.snoc X78 N74 g_b2
  refine own_st st78 ?_
  show own_Go p e s below _ _ _ T78 (mkF m 54 #[.val (.long q0), .second, .val (.long q1), .second, .val (.long q2), .second, .val (.long q3), .second, .val (.long q4), .second, .val (.long q5), .second, .val (.ref br), .val (.ref bx), .unset, .unset, .unset, .unset, .unset, .unset, .unset] [(.ref b2)])
  refine own_st (fun _ k => XS.dup X78.here hx rfl (hb hby at_54) rfl rfl k) ?_
  show own_Go p e s below _ _ _ T78 (mkF m 55 #[.val (.long q0), .second, .val (.long q1), .second, .val (.long q2), .second, .val (.long q3), .second, .val (.long q4), .second, .val (.long q5), .second, .val (.ref br), .val (.ref bx), .unset, .unset, .unset, .unset, .unset, .unset, .unset] [(.ref b2), (.ref b2)])
  refine own_st (fun _ k => XS.iconst X78.here hx rfl (hb hby at_55) k) ?_
  show own_Go p e s below _ _ _ T78 (mkF m 56 #[.val (.long q0), .second, .val (.long q1), .second, .val (.long q2), .second, .val (.long q3), .second, .val (.long q4), .second, .val (.long q5), .second, .val (.ref br), .val (.ref bx), .unset, .unset, .unset, .unset, .unset, .unset, .unset] [(.int (1 : Int32)), (.ref b2), (.ref b2)])
  refine own_st (fun _ k => XS.lload X78.here hx rfl (hb hby at_56) rfl k) ?_
  show own_Go p e s below _ _ _ T78 (mkF m 58 #[.val (.long q0), .second, .val (.long q1), .second, .val (.long q2), .second, .val (.long q3), .second, .val (.long q4), .second, .val (.long q5), .second, .val (.ref br), .val (.ref bx), .unset, .unset, .unset, .unset, .unset, .unset, .unset] [(.long q2), (.int (1 : Int32)), (.ref b2), (.ref b2)])
  obtain ⟨T80, h80, X80, e80, W80, V80, st80⟩ := own_stJ X78 hx hZ e78 V_b2 (j := (1 : Int32)) ⟨by decide, by decide⟩ (Nat.le_of_ble_eq_true rfl) (g := (mkF m 58 #[.val (.long q0), .second, .val (.long q1), .second, .val (.long q2), .second, .val (.long q3), .second, .val (.long q4), .second, .val (.long q5), .second, .val (.ref br), .val (.ref bx), .unset, .unset, .unset, .unset, .unset, .unset, .unset] [(.long q2), (.int (1 : Int32)), (.ref b2), (.ref b2)])) rfl rfl (hb hby at_58)
  clear V_b2
  have V_b2 : Arv Z h80 b2 k76 .long (6 : Int32) [(.long q1), (.long q2), (.long (0 : Int64)), (.long (0 : Int64)), (.long (0 : Int64)), (.long (0 : Int64))] (.long (0 : Int64)) := V80
  replace E_br := E_br.wr W80
  replace F_counts_br := F_counts_br.other W80 (Or.inl ne_br_b2)
  replace V_dr := V_dr.other W80 ne_dr_b2
  replace E_dr := E_dr.wr W80
  replace E_bx := E_bx.wr W80
  replace F_counts_bx := F_counts_bx.other W80 (Or.inl ne_bx_b2)
  replace V_dx := V_dx.other W80 ne_dx_b2
  replace E_dx := E_dx.wr W80
  replace E_b2 := E_b2.wr W80
  have Z81 := Nat.le_trans Z79 (Keep.of_wr W80).1
  have N80 := Fr.snoc X80 N78 g_b2
  refine own_st st80 ?_
  show own_Go p e s below _ _ _ T80 (mkF m 59 #[.val (.long q0), .second, .val (.long q1), .second, .val (.long q2), .second, .val (.long q3), .second, .val (.long q4), .second, .val (.long q5), .second, .val (.ref br), .val (.ref bx), .unset, .unset, .unset, .unset, .unset, .unset, .unset] [(.ref b2)])
  refine own_st (fun _ k => XS.dup X80.here hx rfl (hb hby at_59) rfl rfl k) ?_
  show own_Go p e s below _ _ _ T80 (mkF m 60 #[.val (.long q0), .second, .val (.long q1), .second, .val (.long q2), .second, .val (.long q3), .second, .val (.long q4), .second, .val (.long q5), .second, .val (.ref br), .val (.ref bx), .unset, .unset, .unset, .unset, .unset, .unset, .unset] [(.ref b2), (.ref b2)])
  refine own_st (fun _ k => XS.iconst X80.here hx rfl (hb hby at_60) k) ?_
  show own_Go p e s below _ _ _ T80 (mkF m 61 #[.val (.long q0), .second, .val (.long q1), .second, .val (.long q2), .second, .val (.long q3), .second, .val (.long q4), .second, .val (.long q5), .second, .val (.ref br), .val (.ref bx), .unset, .unset, .unset, .unset, .unset, .unset, .unset] [(.int (2 : Int32)), (.ref b2), (.ref b2)])
  refine own_st (fun _ k => XS.lload X80.here hx rfl (hb hby at_61) rfl k) ?_
  show own_Go p e s below _ _ _ T80 (mkF m 63 #[.val (.long q0), .second, .val (.long q1), .second, .val (.long q2), .second, .val (.long q3), .second, .val (.long q4), .second, .val (.long q5), .second, .val (.ref br), .val (.ref bx), .unset, .unset, .unset, .unset, .unset, .unset, .unset] [(.long q3), (.int (2 : Int32)), (.ref b2), (.ref b2)])
  obtain ⟨T82, h82, X82, e82, W82, V82, st82⟩ := own_stJ X80 hx hZ e80 V_b2 (j := (2 : Int32)) ⟨by decide, by decide⟩ (Nat.le_of_ble_eq_true rfl) (g := (mkF m 63 #[.val (.long q0), .second, .val (.long q1), .second, .val (.long q2), .second, .val (.long q3), .second, .val (.long q4), .second, .val (.long q5), .second, .val (.ref br), .val (.ref bx), .unset, .unset, .unset, .unset, .unset, .unset, .unset] [(.long q3), (.int (2 : Int32)), (.ref b2), (.ref b2)])) rfl rfl (hb hby at_63)
  clear V_b2
  have V_b2 : Arv Z h82 b2 k76 .long (6 : Int32) [(.long q1), (.long q2), (.long q3), (.long (0 : Int64)), (.long (0 : Int64)), (.long (0 : Int64))] (.long (0 : Int64)) := V82
  replace E_br := E_br.wr W82
  replace F_counts_br := F_counts_br.other W82 (Or.inl ne_br_b2)
  replace V_dr := V_dr.other W82 ne_dr_b2
  replace E_dr := E_dr.wr W82
  replace E_bx := E_bx.wr W82
  replace F_counts_bx := F_counts_bx.other W82 (Or.inl ne_bx_b2)
  replace V_dx := V_dx.other W82 ne_dx_b2
  replace E_dx := E_dx.wr W82
  replace E_b2 := E_b2.wr W82
  have Z83 := Nat.le_trans Z81 (Keep.of_wr W82).1
  have N82 := Fr.snoc X82 N80 g_b2
  refine own_st st82 ?_
  show own_Go p e s below _ _ _ T82 (mkF m 64 #[.val (.long q0), .second, .val (.long q1), .second, .val (.long q2), .second, .val (.long q3), .second, .val (.long q4), .second, .val (.long q5), .second, .val (.ref br), .val (.ref bx), .unset, .unset, .unset, .unset, .unset, .unset, .unset] [(.ref b2)])
  refine own_st (fun _ k => XS.dup X82.here hx rfl (hb hby at_64) rfl rfl k) ?_
  show own_Go p e s below _ _ _ T82 (mkF m 65 #[.val (.long q0), .second, .val (.long q1), .second, .val (.long q2), .second, .val (.long q3), .second, .val (.long q4), .second, .val (.long q5), .second, .val (.ref br), .val (.ref bx), .unset, .unset, .unset, .unset, .unset, .unset, .unset] [(.ref b2), (.ref b2)])
  refine own_st (fun _ k => XS.iconst X82.here hx rfl (hb hby at_65) k) ?_
  show own_Go p e s below _ _ _ T82 (mkF m 66 #[.val (.long q0), .second, .val (.long q1), .second, .val (.long q2), .second, .val (.long q3), .second, .val (.long q4), .second, .val (.long q5), .second, .val (.ref br), .val (.ref bx), .unset, .unset, .unset, .unset, .unset, .unset, .unset] [(.int (3 : Int32)), (.ref b2), (.ref b2)])
  refine own_st (fun _ k => XS.lload X82.here hx rfl (hb hby at_66) rfl k) ?_
  show own_Go p e s below _ _ _ T82 (mkF m 68 #[.val (.long q0), .second, .val (.long q1), .second, .val (.long q2), .second, .val (.long q3), .second, .val (.long q4), .second, .val (.long q5), .second, .val (.ref br), .val (.ref bx), .unset, .unset, .unset, .unset, .unset, .unset, .unset] [(.long q4), (.int (3 : Int32)), (.ref b2), (.ref b2)])
  obtain ⟨T84, h84, X84, e84, W84, V84, st84⟩ := own_stJ X82 hx hZ e82 V_b2 (j := (3 : Int32)) ⟨by decide, by decide⟩ (Nat.le_of_ble_eq_true rfl) (g := (mkF m 68 #[.val (.long q0), .second, .val (.long q1), .second, .val (.long q2), .second, .val (.long q3), .second, .val (.long q4), .second, .val (.long q5), .second, .val (.ref br), .val (.ref bx), .unset, .unset, .unset, .unset, .unset, .unset, .unset] [(.long q4), (.int (3 : Int32)), (.ref b2), (.ref b2)])) rfl rfl (hb hby at_68)
  clear V_b2
  have V_b2 : Arv Z h84 b2 k76 .long (6 : Int32) [(.long q1), (.long q2), (.long q3), (.long q4), (.long (0 : Int64)), (.long (0 : Int64))] (.long (0 : Int64)) := V84
  replace E_br := E_br.wr W84
  replace F_counts_br := F_counts_br.other W84 (Or.inl ne_br_b2)
  replace V_dr := V_dr.other W84 ne_dr_b2
  replace E_dr := E_dr.wr W84
  replace E_bx := E_bx.wr W84
  replace F_counts_bx := F_counts_bx.other W84 (Or.inl ne_bx_b2)
  replace V_dx := V_dx.other W84 ne_dx_b2
  replace E_dx := E_dx.wr W84
  replace E_b2 := E_b2.wr W84
  have Z85 := Nat.le_trans Z83 (Keep.of_wr W84).1
  have N84 := Fr.snoc X84 N82 g_b2
  refine own_st st84 ?_
  show own_Go p e s below _ _ _ T84 (mkF m 69 #[.val (.long q0), .second, .val (.long q1), .second, .val (.long q2), .second, .val (.long q3), .second, .val (.long q4), .second, .val (.long q5), .second, .val (.ref br), .val (.ref bx), .unset, .unset, .unset, .unset, .unset, .unset, .unset] [(.ref b2)])
  refine own_st (fun _ k => XS.dup X84.here hx rfl (hb hby at_69) rfl rfl k) ?_
  show own_Go p e s below _ _ _ T84 (mkF m 70 #[.val (.long q0), .second, .val (.long q1), .second, .val (.long q2), .second, .val (.long q3), .second, .val (.long q4), .second, .val (.long q5), .second, .val (.ref br), .val (.ref bx), .unset, .unset, .unset, .unset, .unset, .unset, .unset] [(.ref b2), (.ref b2)])
  refine own_st (fun _ k => XS.iconst X84.here hx rfl (hb hby at_70) k) ?_
  show own_Go p e s below _ _ _ T84 (mkF m 71 #[.val (.long q0), .second, .val (.long q1), .second, .val (.long q2), .second, .val (.long q3), .second, .val (.long q4), .second, .val (.long q5), .second, .val (.ref br), .val (.ref bx), .unset, .unset, .unset, .unset, .unset, .unset, .unset] [(.int (4 : Int32)), (.ref b2), (.ref b2)])
  refine own_st (fun _ k => XS.lload X84.here hx rfl (hb hby at_71) rfl k) ?_
  show own_Go p e s below _ _ _ T84 (mkF m 73 #[.val (.long q0), .second, .val (.long q1), .second, .val (.long q2), .second, .val (.long q3), .second, .val (.long q4), .second, .val (.long q5), .second, .val (.ref br), .val (.ref bx), .unset, .unset, .unset, .unset, .unset, .unset, .unset] [(.long q5), (.int (4 : Int32)), (.ref b2), (.ref b2)])
  obtain ⟨T86, h86, X86, e86, W86, V86, st86⟩ := own_stJ X84 hx hZ e84 V_b2 (j := (4 : Int32)) ⟨by decide, by decide⟩ (Nat.le_of_ble_eq_true rfl) (g := (mkF m 73 #[.val (.long q0), .second, .val (.long q1), .second, .val (.long q2), .second, .val (.long q3), .second, .val (.long q4), .second, .val (.long q5), .second, .val (.ref br), .val (.ref bx), .unset, .unset, .unset, .unset, .unset, .unset, .unset] [(.long q5), (.int (4 : Int32)), (.ref b2), (.ref b2)])) rfl rfl (hb hby at_73)
  clear V_b2
  have V_b2 : Arv Z h86 b2 k76 .long (6 : Int32) [(.long q1), (.long q2), (.long q3), (.long q4), (.long q5), (.long (0 : Int64))] (.long (0 : Int64)) := V86
  replace E_br := E_br.wr W86
  replace F_counts_br := F_counts_br.other W86 (Or.inl ne_br_b2)
  replace V_dr := V_dr.other W86 ne_dr_b2
  replace E_dr := E_dr.wr W86
  replace E_bx := E_bx.wr W86
  replace F_counts_bx := F_counts_bx.other W86 (Or.inl ne_bx_b2)
  replace V_dx := V_dx.other W86 ne_dx_b2
  replace E_dx := E_dx.wr W86
  replace E_b2 := E_b2.wr W86
  have Z87 := Nat.le_trans Z85 (Keep.of_wr W86).1
  have N86 := Fr.snoc X86 N84 g_b2
  refine own_st st86 ?_
  show own_Go p e s below _ _ _ T86 (mkF m 74 #[.val (.long q0), .second, .val (.long q1), .second, .val (.long q2), .second, .val (.long q3), .second, .val (.long q4), .second, .val (.long q5), .second, .val (.ref br), .val (.ref bx), .unset, .unset, .unset, .unset, .unset, .unset, .unset] [(.ref b2)])
  refine own_st (fun _ k => XS.dup X86.here hx rfl (hb hby at_74) rfl rfl k) ?_
  show own_Go p e s below _ _ _ T86 (mkF m 75 #[.val (.long q0), .second, .val (.long q1), .second, .val (.long q2), .second, .val (.long q3), .second, .val (.long q4), .second, .val (.long q5), .second, .val (.ref br), .val (.ref bx), .unset, .unset, .unset, .unset, .unset, .unset, .unset] [(.ref b2), (.ref b2)])
  refine own_st (fun _ k => XS.iconst X86.here hx rfl (hb hby at_75) k) ?_
  show own_Go p e s below _ _ _ T86 (mkF m 76 #[.val (.long q0), .second, .val (.long q1), .second, .val (.long q2), .second, .val (.long q3), .second, .val (.long q4), .second, .val (.long q5), .second, .val (.ref br), .val (.ref bx), .unset, .unset, .unset, .unset, .unset, .unset, .unset] [(.int (5 : Int32)), (.ref b2), (.ref b2)])
  refine own_st (fun _ k => XS.lloadN X86.here hx rfl (hb hby at_76) rfl k) ?_
  show own_Go p e s below _ _ _ T86 (mkF m 77 #[.val (.long q0), .second, .val (.long q1), .second, .val (.long q2), .second, .val (.long q3), .second, .val (.long q4), .second, .val (.long q5), .second, .val (.ref br), .val (.ref bx), .unset, .unset, .unset, .unset, .unset, .unset, .unset] [(.long q0), (.int (5 : Int32)), (.ref b2), (.ref b2)])
  obtain ⟨T88, h88, X88, e88, W88, V88, st88⟩ := own_stJ X86 hx hZ e86 V_b2 (j := (5 : Int32)) ⟨by decide, by decide⟩ (Nat.le_of_ble_eq_true rfl) (g := (mkF m 77 #[.val (.long q0), .second, .val (.long q1), .second, .val (.long q2), .second, .val (.long q3), .second, .val (.long q4), .second, .val (.long q5), .second, .val (.ref br), .val (.ref bx), .unset, .unset, .unset, .unset, .unset, .unset, .unset] [(.long q0), (.int (5 : Int32)), (.ref b2), (.ref b2)])) rfl rfl (hb hby at_77)
  clear V_b2
  have V_b2 : Arv Z h88 b2 k76 .long (6 : Int32) [(.long q1), (.long q2), (.long q3), (.long q4), (.long q5), (.long q0)] (.long (0 : Int64)) := V88
  replace E_br := E_br.wr W88
  replace F_counts_br := F_counts_br.other W88 (Or.inl ne_br_b2)
  replace V_dr := V_dr.other W88 ne_dr_b2
  replace E_dr := E_dr.wr W88
  replace E_bx := E_bx.wr W88
  replace F_counts_bx := F_counts_bx.other W88 (Or.inl ne_bx_b2)
  replace V_dx := V_dx.other W88 ne_dx_b2
  replace E_dx := E_dx.wr W88
  replace E_b2 := E_b2.wr W88
  have Z89 := Nat.le_trans Z87 (Keep.of_wr W88).1
  have N88 := Fr.snoc X88 N86 g_b2
  refine own_st st88 ?_
  show own_Go p e s below _ _ _ T88 (mkF m 78 #[.val (.long q0), .second, .val (.long q1), .second, .val (.long q2), .second, .val (.long q3), .second, .val (.long q4), .second, .val (.long q5), .second, .val (.ref br), .val (.ref bx), .unset, .unset, .unset, .unset, .unset, .unset, .unset] [(.ref b2)])
  refine own_callS X88 hx hZ (y := (⟨"com/example/coterie/coterie/network/peer/MessageCount", "of", "([J)Lcom/example/coterie/coterie/network/peer/MessageCount;"⟩ : MethodName)) hown (hw _ (List.mem_of_getElem? (i := 15) rfl)) (hw _ (List.mem_of_getElem? (i := 16) rfl)) (hw _ (List.mem_of_getElem? (i := 2) rfl)) (hw _ (List.mem_of_getElem? (i := 17) rfl)) (by decide) e88 (rm4 l Z a0 hw [] b2 k76 q1 q2 q3 q4 q5 q0 h88 n0 Z89 V_b2 E_b2) 0 (by decide) (by decide) (g := (mkF m 78 #[.val (.long q0), .second, .val (.long q1), .second, .val (.long q2), .second, .val (.long q3), .second, .val (.long q4), .second, .val (.long q5), .second, .val (.ref br), .val (.ref bx), .unset, .unset, .unset, .unset, .unset, .unset, .unset] [(.ref b2)])) rfl (by rw [hml]; rfl) (argsL := [(.ref b2)]) (rest := []) pd2 rfl rfl rfl (by show 2 * 0 + _ ≤ _; exact Nat.le_of_eq rfl) (hb hby at_78) (by decide) (by decide) ?_
  intro T90 v90 L90 X90 hQ90
  obtain ⟨by', dy, rfl, N90q, K90q, sf_by', sf_dy, y90_0, y90_1, y90_2, y90_3, y90_4⟩ := hQ90
  have N90 := Fr.app N88 N90q
  have g_by' := Nat.le_trans Z89 sf_by'
  have ne_b2_by' : b2 ≠ by' := Nat.ne_of_lt (Nat.lt_of_lt_of_le E_b2.lt sf_by')
  have ne_by'_b2 := Ne.symm ne_b2_by'
  have ne_br_by' : br ≠ by' := Nat.ne_of_lt (Nat.lt_of_lt_of_le E_br.lt sf_by')
  have ne_by'_br := Ne.symm ne_br_by'
  have ne_bx_by' : bx ≠ by' := Nat.ne_of_lt (Nat.lt_of_lt_of_le E_bx.lt sf_by')
  have ne_by'_bx := Ne.symm ne_bx_by'
  have ne_dr_by' : dr ≠ by' := Nat.ne_of_lt (Nat.lt_of_lt_of_le V_dr.lt sf_by')
  have ne_by'_dr := Ne.symm ne_dr_by'
  have ne_dx_by' : dx ≠ by' := Nat.ne_of_lt (Nat.lt_of_lt_of_le V_dx.lt sf_by')
  have ne_by'_dx := Ne.symm ne_dx_by'
  have g_dy := Nat.le_trans Z89 sf_dy
  have ne_b2_dy : b2 ≠ dy := Nat.ne_of_lt (Nat.lt_of_lt_of_le E_b2.lt sf_dy)
  have ne_dy_b2 := Ne.symm ne_b2_dy
  have ne_br_dy : br ≠ dy := Nat.ne_of_lt (Nat.lt_of_lt_of_le E_br.lt sf_dy)
  have ne_dy_br := Ne.symm ne_br_dy
  have ne_bx_dy : bx ≠ dy := Nat.ne_of_lt (Nat.lt_of_lt_of_le E_bx.lt sf_dy)
  have ne_dy_bx := Ne.symm ne_bx_dy
  have ne_dr_dy : dr ≠ dy := Nat.ne_of_lt (Nat.lt_of_lt_of_le V_dr.lt sf_dy)
  have ne_dy_dr := Ne.symm ne_dr_dy
  have ne_dx_dy : dx ≠ dy := Nat.ne_of_lt (Nat.lt_of_lt_of_le V_dx.lt sf_dy)
  have ne_dy_dx := Ne.symm ne_dx_dy
  replace E_br := E_br.keep K90q
  replace F_counts_br := F_counts_br.keep K90q nin0
  replace V_dr := V_dr.keep K90q nin0
  replace E_dr := E_dr.keep K90q
  replace E_bx := E_bx.keep K90q
  replace F_counts_bx := F_counts_bx.keep K90q nin0
  replace V_dx := V_dx.keep K90q nin0
  replace E_dx := E_dx.keep K90q
  replace E_b2 := E_b2.keep K90q
  replace V_b2 := V_b2.keep K90q nin0
  have Z91 := Nat.le_trans Z89 K90q.1
  have ne_by'_dy := y90_0
  have E_by' := y90_1
  have F_counts_by' := y90_2
  have V_dy := y90_3
  have E_dy := y90_4
  show own_Go p e s below _ _ _ T90 (mkF m 81 #[.val (.long q0), .second, .val (.long q1), .second, .val (.long q2), .second, .val (.long q3), .second, .val (.long q4), .second, .val (.long q5), .second, .val (.ref br), .val (.ref bx), .unset, .unset, .unset, .unset, .unset, .unset, .unset] [(.ref by')])
  have ne_dy_by' := Ne.symm ne_by'_dy
  show own_Go p e s below _ _ _ T90 (mkF m 81 #[.val (.long q0), .second, .val (.long q1), .second, .val (.long q2), .second, .val (.long q3), .second, .val (.long q4), .second, .val (.long q5), .second, .val (.ref br), .val (.ref bx), .unset, .unset, .unset, .unset, .unset, .unset, .unset] [(.ref by')])
  refine own_st (fun _ k => XS.astore X90.here hx rfl (hb hby at_81) rfl rfl (l' := #[.val (.long q0), .second, .val (.long q1), .second, .val (.long q2), .second, .val (.long q3), .second, .val (.long q4), .second, .val (.long q5), .second, .val (.ref br), .val (.ref bx), .val (.ref by'), .unset, .unset, .unset, .unset, .unset, .unset]) rfl k) ?_
  show own_Go p e s below _ _ _ T90 (mkF m 83 #[.val (.long q0), .second, .val (.long q1), .second, .val (.long q2), .second, .val (.long q3), .second, .val (.long q4), .second, .val (.long q5), .second, .val (.ref br), .val (.ref bx), .val (.ref by'), .unset, .unset, .unset, .unset, .unset, .unset] [])
  refine own_st (fun _ k => XS.aload X90.here hx rfl (hb hby at_83) rfl rfl k) ?_
  show own_Go p e s below _ _ _ T90 (mkF m 85 #[.val (.long q0), .second, .val (.long q1), .second, .val (.long q2), .second, .val (.long q3), .second, .val (.long q4), .second, .val (.long q5), .second, .val (.ref br), .val (.ref bx), .val (.ref by'), .unset, .unset, .unset, .unset, .unset, .unset] [(.ref br)])
  refine own_st (fun _ k => XS.aload X90.here hx rfl (hb hby at_85) rfl rfl k) ?_
  show own_Go p e s below _ _ _ T90 (mkF m 87 #[.val (.long q0), .second, .val (.long q1), .second, .val (.long q2), .second, .val (.long q3), .second, .val (.long q4), .second, .val (.long q5), .second, .val (.ref br), .val (.ref bx), .val (.ref by'), .unset, .unset, .unset, .unset, .unset, .unset] [(.ref bx), (.ref br)])
  refine own_callV X90 hx hZ (y := (⟨"com/example/coterie/coterie/network/peer/MessageCount", "add", "(Lcom/example/coterie/coterie/network/peer/MessageCount;)V"⟩ : MethodName)) hown (hw _ (List.mem_of_getElem? (i := 28) rfl)) (hw _ (List.mem_of_getElem? (i := 29) rfl)) (hw _ (List.mem_of_getElem? (i := 31) rfl)) (hw _ (List.mem_of_getElem? (i := 30) rfl)) (hw _ (List.mem_of_getElem? (i := 2) rfl)) (hw _ (List.mem_of_getElem? (i := 32) rfl)) (by decide) rfl (rm5 l Z a0 hw [] br bx dr dx kr k60 (0 : Int64) (0 : Int64) (0 : Int64) (0 : Int64) (0 : Int64) (0 : Int64) q0 q1 q2 q3 q4 q5 T90.heap n0 Z91 F_counts_br F_counts_bx V_dr V_dx ne_br_dr ne_bx_dr ne_dx_dr g_dr) 0 (by decide) (by decide) E_br (g := (mkF m 87 #[.val (.long q0), .second, .val (.long q1), .second, .val (.long q2), .second, .val (.long q3), .second, .val (.long q4), .second, .val (.long q5), .second, .val (.ref br), .val (.ref bx), .val (.ref by'), .unset, .unset, .unset, .unset, .unset, .unset] [(.ref bx), (.ref br)])) rfl (by rw [hml]; rfl) (argsL := [(.ref bx)]) (rest := []) pd3 rfl rfl rfl (by show 2 * 0 + _ ≤ _; exact Nat.le_of_eq rfl) (hb hby at_87) (by decide) (by decide) ?_
  intro T92 v92 L92 X92 hQ92
  obtain ⟨rfl, N92q, K92q, y92_0⟩ := hQ92
  have N92 := Fr.app N90 N92q
  replace E_br := E_br.keep K92q
  replace F_counts_br := F_counts_br.keep K92q (ninS ne_br_dr nin0)
  clear V_dr
  replace E_dr := E_dr.keep K92q
  replace E_bx := E_bx.keep K92q
  replace F_counts_bx := F_counts_bx.keep K92q (ninS ne_bx_dr nin0)
  replace V_dx := V_dx.keep K92q (ninS ne_dx_dr nin0)
  replace E_dx := E_dx.keep K92q
  replace E_by' := E_by'.keep K92q
  replace F_counts_by' := F_counts_by'.keep K92q (ninS ne_by'_dr nin0)
  replace V_dy := V_dy.keep K92q (ninS ne_dy_dr nin0)
  replace E_dy := E_dy.keep K92q
  have Z93 := Nat.le_trans Z91 K92q.1
  have V_dr := y92_0
  show own_Go p e s below _ _ _ T92 (mkF m 90 #[.val (.long q0), .second, .val (.long q1), .second, .val (.long q2), .second, .val (.long q3), .second, .val (.long q4), .second, .val (.long q5), .second, .val (.ref br), .val (.ref bx), .val (.ref by'), .unset, .unset, .unset, .unset, .unset, .unset] [])
  refine own_st (fun _ k => XS.aload X92.here hx rfl (hb hby at_90) rfl rfl k) ?_
  show own_Go p e s below _ _ _ T92 (mkF m 92 #[.val (.long q0), .second, .val (.long q1), .second, .val (.long q2), .second, .val (.long q3), .second, .val (.long q4), .second, .val (.long q5), .second, .val (.ref br), .val (.ref bx), .val (.ref by'), .unset, .unset, .unset, .unset, .unset, .unset] [(.ref br)])
  refine own_callV X92 hx hZ (y := (⟨"com/example/coterie/coterie/network/peer/MessageCount", "counts", "()[J"⟩ : MethodName)) hown (hw _ (List.mem_of_getElem? (i := 33) rfl)) (hw _ (List.mem_of_getElem? (i := 34) rfl)) (hw _ (List.mem_of_getElem? (i := 36) rfl)) (hw _ (List.mem_of_getElem? (i := 35) rfl)) (hw _ (List.mem_of_getElem? (i := 2) rfl)) (hw _ (List.mem_of_getElem? (i := 37) rfl)) (by decide) rfl (rm6 l Z a0 hw [] br dr kr ((0 : Int64) + q0) ((0 : Int64) + q1) ((0 : Int64) + q2) ((0 : Int64) + q3) ((0 : Int64) + q4) ((0 : Int64) + q5) T92.heap n0 Z93 F_counts_br V_dr E_dr) 0 (by decide) (by decide) E_br (g := (mkF m 92 #[.val (.long q0), .second, .val (.long q1), .second, .val (.long q2), .second, .val (.long q3), .second, .val (.long q4), .second, .val (.long q5), .second, .val (.ref br), .val (.ref bx), .val (.ref by'), .unset, .unset, .unset, .unset, .unset, .unset] [(.ref br)])) rfl (by rw [hml]; rfl) (argsL := []) (rest := []) pd4 rfl rfl rfl (by show 2 * 0 + _ ≤ _; exact Nat.le_of_eq rfl) (hb hby at_92) (by decide) (by decide) ?_
  intro T94 v94 L94 X94 hQ94
  obtain ⟨c1, rfl, N94q, K94q, sf_c1, y94_0⟩ := hQ94
  have N94 := Fr.app N92 N94q
  have g_c1 := Nat.le_trans Z93 sf_c1
  have ne_br_c1 : br ≠ c1 := Nat.ne_of_lt (Nat.lt_of_lt_of_le E_br.lt sf_c1)
  have ne_c1_br := Ne.symm ne_br_c1
  have ne_bx_c1 : bx ≠ c1 := Nat.ne_of_lt (Nat.lt_of_lt_of_le E_bx.lt sf_c1)
  have ne_c1_bx := Ne.symm ne_bx_c1
  have ne_by'_c1 : by' ≠ c1 := Nat.ne_of_lt (Nat.lt_of_lt_of_le E_by'.lt sf_c1)
  have ne_c1_by' := Ne.symm ne_by'_c1
  have ne_dr_c1 : dr ≠ c1 := Nat.ne_of_lt (Nat.lt_of_lt_of_le E_dr.lt sf_c1)
  have ne_c1_dr := Ne.symm ne_dr_c1
  have ne_dx_c1 : dx ≠ c1 := Nat.ne_of_lt (Nat.lt_of_lt_of_le V_dx.lt sf_c1)
  have ne_c1_dx := Ne.symm ne_dx_c1
  have ne_dy_c1 : dy ≠ c1 := Nat.ne_of_lt (Nat.lt_of_lt_of_le V_dy.lt sf_c1)
  have ne_c1_dy := Ne.symm ne_dy_c1
  replace E_br := E_br.keep K94q
  replace F_counts_br := F_counts_br.keep K94q nin0
  replace E_dr := E_dr.keep K94q
  replace E_bx := E_bx.keep K94q
  replace F_counts_bx := F_counts_bx.keep K94q nin0
  replace V_dx := V_dx.keep K94q nin0
  replace E_dx := E_dx.keep K94q
  replace E_by' := E_by'.keep K94q
  replace F_counts_by' := F_counts_by'.keep K94q nin0
  replace V_dy := V_dy.keep K94q nin0
  replace E_dy := E_dy.keep K94q
  replace V_dr := V_dr.keep K94q nin0
  have Z95 := Nat.le_trans Z93 K94q.1
  have V_c1 := y94_0
  show own_Go p e s below _ _ _ T94 (mkF m 95 #[.val (.long q0), .second, .val (.long q1), .second, .val (.long q2), .second, .val (.long q3), .second, .val (.long q4), .second, .val (.long q5), .second, .val (.ref br), .val (.ref bx), .val (.ref by'), .unset, .unset, .unset, .unset, .unset, .unset] [(.ref c1)])
  refine own_st (fun _ k => XS.astore X94.here hx rfl (hb hby at_95) rfl rfl (l' := #[.val (.long q0), .second, .val (.long q1), .second, .val (.long q2), .second, .val (.long q3), .second, .val (.long q4), .second, .val (.long q5), .second, .val (.ref br), .val (.ref bx), .val (.ref by'), .val (.ref c1), .unset, .unset, .unset, .unset, .unset]) rfl k) ?_
  show own_Go p e s below _ _ _ T94 (mkF m 97 #[.val (.long q0), .second, .val (.long q1), .second, .val (.long q2), .second, .val (.long q3), .second, .val (.long q4), .second, .val (.long q5), .second, .val (.ref br), .val (.ref bx), .val (.ref by'), .val (.ref c1), .unset, .unset, .unset, .unset, .unset] [])
  refine own_st (fun _ k => XS.aload X94.here hx rfl (hb hby at_97) rfl rfl k) ?_
  show own_Go p e s below _ _ _ T94 (mkF m 99 #[.val (.long q0), .second, .val (.long q1), .second, .val (.long q2), .second, .val (.long q3), .second, .val (.long q4), .second, .val (.long q5), .second, .val (.ref br), .val (.ref bx), .val (.ref by'), .val (.ref c1), .unset, .unset, .unset, .unset, .unset] [(.ref br)])
  refine own_st (fun _ k => XS.aload X94.here hx rfl (hb hby at_99) rfl rfl k) ?_
  show own_Go p e s below _ _ _ T94 (mkF m 101 #[.val (.long q0), .second, .val (.long q1), .second, .val (.long q2), .second, .val (.long q3), .second, .val (.long q4), .second, .val (.long q5), .second, .val (.ref br), .val (.ref bx), .val (.ref by'), .val (.ref c1), .unset, .unset, .unset, .unset, .unset] [(.ref by'), (.ref br)])
  refine own_callV X94 hx hZ (y := (⟨"com/example/coterie/coterie/network/peer/MessageCount", "add", "(Lcom/example/coterie/coterie/network/peer/MessageCount;)V"⟩ : MethodName)) hown (hw _ (List.mem_of_getElem? (i := 28) rfl)) (hw _ (List.mem_of_getElem? (i := 29) rfl)) (hw _ (List.mem_of_getElem? (i := 31) rfl)) (hw _ (List.mem_of_getElem? (i := 30) rfl)) (hw _ (List.mem_of_getElem? (i := 2) rfl)) (hw _ (List.mem_of_getElem? (i := 32) rfl)) (by decide) rfl (rm5 l Z a0 hw [] br by' dr dy kr k76 ((0 : Int64) + q0) ((0 : Int64) + q1) ((0 : Int64) + q2) ((0 : Int64) + q3) ((0 : Int64) + q4) ((0 : Int64) + q5) q1 q2 q3 q4 q5 q0 T94.heap n0 Z95 F_counts_br F_counts_by' V_dr V_dy ne_br_dr ne_by'_dr ne_dy_dr g_dr) 0 (by decide) (by decide) E_br (g := (mkF m 101 #[.val (.long q0), .second, .val (.long q1), .second, .val (.long q2), .second, .val (.long q3), .second, .val (.long q4), .second, .val (.long q5), .second, .val (.ref br), .val (.ref bx), .val (.ref by'), .val (.ref c1), .unset, .unset, .unset, .unset, .unset] [(.ref by'), (.ref br)])) rfl (by rw [hml]; rfl) (argsL := [(.ref by')]) (rest := []) pd3 rfl rfl rfl (by show 2 * 0 + _ ≤ _; exact Nat.le_of_eq rfl) (hb hby at_101) (by decide) (by decide) ?_
  intro T96 v96 L96 X96 hQ96
  obtain ⟨rfl, N96q, K96q, y96_0⟩ := hQ96
  have N96 := Fr.app N94 N96q
  replace E_br := E_br.keep K96q
  replace F_counts_br := F_counts_br.keep K96q (ninS ne_br_dr nin0)
  replace E_dr := E_dr.keep K96q
  replace E_bx := E_bx.keep K96q
  replace F_counts_bx := F_counts_bx.keep K96q (ninS ne_bx_dr nin0)
  replace V_dx := V_dx.keep K96q (ninS ne_dx_dr nin0)
  replace E_dx := E_dx.keep K96q
  replace E_by' := E_by'.keep K96q
  replace F_counts_by' := F_counts_by'.keep K96q (ninS ne_by'_dr nin0)
  replace V_dy := V_dy.keep K96q (ninS ne_dy_dr nin0)
  replace E_dy := E_dy.keep K96q
  clear V_dr
  replace V_c1 := V_c1.keep K96q (ninS ne_c1_dr nin0)
  have Z97 := Nat.le_trans Z95 K96q.1
  have V_dr := y96_0
  show own_Go p e s below _ _ _ T96 (mkF m 104 #[.val (.long q0), .second, .val (.long q1), .second, .val (.long q2), .second, .val (.long q3), .second, .val (.long q4), .second, .val (.long q5), .second, .val (.ref br), .val (.ref bx), .val (.ref by'), .val (.ref c1), .unset, .unset, .unset, .unset, .unset] [])
  refine own_st (fun _ k => XS.aload X96.here hx rfl (hb hby at_104) rfl rfl k) ?_
  show own_Go p e s below _ _ _ T96 (mkF m 106 #[.val (.long q0), .second, .val (.long q1), .second, .val (.long q2), .second, .val (.long q3), .second, .val (.long q4), .second, .val (.long q5), .second, .val (.ref br), .val (.ref bx), .val (.ref by'), .val (.ref c1), .unset, .unset, .unset, .unset, .unset] [(.ref br)])
  refine own_callV X96 hx hZ (y := (⟨"com/example/coterie/coterie/network/peer/MessageCount", "counts", "()[J"⟩ : MethodName)) hown (hw _ (List.mem_of_getElem? (i := 33) rfl)) (hw _ (List.mem_of_getElem? (i := 34) rfl)) (hw _ (List.mem_of_getElem? (i := 36) rfl)) (hw _ (List.mem_of_getElem? (i := 35) rfl)) (hw _ (List.mem_of_getElem? (i := 2) rfl)) (hw _ (List.mem_of_getElem? (i := 37) rfl)) (by decide) rfl (rm6 l Z a0 hw [] br dr kr (((0 : Int64) + q0) + q1) (((0 : Int64) + q1) + q2) (((0 : Int64) + q2) + q3) (((0 : Int64) + q3) + q4) (((0 : Int64) + q4) + q5) (((0 : Int64) + q5) + q0) T96.heap n0 Z97 F_counts_br V_dr E_dr) 0 (by decide) (by decide) E_br (g := (mkF m 106 #[.val (.long q0), .second, .val (.long q1), .second, .val (.long q2), .second, .val (.long q3), .second, .val (.long q4), .second, .val (.long q5), .second, .val (.ref br), .val (.ref bx), .val (.ref by'), .val (.ref c1), .unset, .unset, .unset, .unset, .unset] [(.ref br)])) rfl (by rw [hml]; rfl) (argsL := []) (rest := []) pd4 rfl rfl rfl (by show 2 * 0 + _ ≤ _; exact Nat.le_of_eq rfl) (hb hby at_106) (by decide) (by decide) ?_
  intro T98 v98 L98 X98 hQ98
  obtain ⟨c2, rfl, N98q, K98q, sf_c2, y98_0⟩ := hQ98
  have N98 := Fr.app N96 N98q
  have g_c2 := Nat.le_trans Z97 sf_c2
  have ne_br_c2 : br ≠ c2 := Nat.ne_of_lt (Nat.lt_of_lt_of_le E_br.lt sf_c2)
  have ne_c2_br := Ne.symm ne_br_c2
  have ne_bx_c2 : bx ≠ c2 := Nat.ne_of_lt (Nat.lt_of_lt_of_le E_bx.lt sf_c2)
  have ne_c2_bx := Ne.symm ne_bx_c2
  have ne_by'_c2 : by' ≠ c2 := Nat.ne_of_lt (Nat.lt_of_lt_of_le E_by'.lt sf_c2)
  have ne_c2_by' := Ne.symm ne_by'_c2
  have ne_c1_c2 : c1 ≠ c2 := Nat.ne_of_lt (Nat.lt_of_lt_of_le V_c1.lt sf_c2)
  have ne_c2_c1 := Ne.symm ne_c1_c2
  have ne_dr_c2 : dr ≠ c2 := Nat.ne_of_lt (Nat.lt_of_lt_of_le E_dr.lt sf_c2)
  have ne_c2_dr := Ne.symm ne_dr_c2
  have ne_dx_c2 : dx ≠ c2 := Nat.ne_of_lt (Nat.lt_of_lt_of_le V_dx.lt sf_c2)
  have ne_c2_dx := Ne.symm ne_dx_c2
  have ne_dy_c2 : dy ≠ c2 := Nat.ne_of_lt (Nat.lt_of_lt_of_le V_dy.lt sf_c2)
  have ne_c2_dy := Ne.symm ne_dy_c2
  replace E_br := E_br.keep K98q
  replace F_counts_br := F_counts_br.keep K98q nin0
  replace E_dr := E_dr.keep K98q
  replace E_bx := E_bx.keep K98q
  replace F_counts_bx := F_counts_bx.keep K98q nin0
  replace V_dx := V_dx.keep K98q nin0
  replace E_dx := E_dx.keep K98q
  replace E_by' := E_by'.keep K98q
  replace F_counts_by' := F_counts_by'.keep K98q nin0
  replace V_dy := V_dy.keep K98q nin0
  replace E_dy := E_dy.keep K98q
  replace V_c1 := V_c1.keep K98q nin0
  replace V_dr := V_dr.keep K98q nin0
  have Z99 := Nat.le_trans Z97 K98q.1
  have V_c2 := y98_0
  show own_Go p e s below _ _ _ T98 (mkF m 109 #[.val (.long q0), .second, .val (.long q1), .second, .val (.long q2), .second, .val (.long q3), .second, .val (.long q4), .second, .val (.long q5), .second, .val (.ref br), .val (.ref bx), .val (.ref by'), .val (.ref c1), .unset, .unset, .unset, .unset, .unset] [(.ref c2)])
  refine own_st (fun _ k => XS.astore X98.here hx rfl (hb hby at_109) rfl rfl (l' := #[.val (.long q0), .second, .val (.long q1), .second, .val (.long q2), .second, .val (.long q3), .second, .val (.long q4), .second, .val (.long q5), .second, .val (.ref br), .val (.ref bx), .val (.ref by'), .val (.ref c1), .val (.ref c2), .unset, .unset, .unset, .unset]) rfl k) ?_
  show own_Go p e s below _ _ _ T98 (mkF m 111 #[.val (.long q0), .second, .val (.long q1), .second, .val (.long q2), .second, .val (.long q3), .second, .val (.long q4), .second, .val (.long q5), .second, .val (.ref br), .val (.ref bx), .val (.ref by'), .val (.ref c1), .val (.ref c2), .unset, .unset, .unset, .unset] [])
  refine own_st (fun _ k => XS.aload X98.here hx rfl (hb hby at_111) rfl rfl k) ?_
  show own_Go p e s below _ _ _ T98 (mkF m 113 #[.val (.long q0), .second, .val (.long q1), .second, .val (.long q2), .second, .val (.long q3), .second, .val (.long q4), .second, .val (.long q5), .second, .val (.ref br), .val (.ref bx), .val (.ref by'), .val (.ref c1), .val (.ref c2), .unset, .unset, .unset, .unset] [(.ref by')])
  refine own_callV X98 hx hZ (y := (⟨"com/example/coterie/coterie/network/peer/MessageCount", "counts", "()[J"⟩ : MethodName)) hown (hw _ (List.mem_of_getElem? (i := 33) rfl)) (hw _ (List.mem_of_getElem? (i := 34) rfl)) (hw _ (List.mem_of_getElem? (i := 36) rfl)) (hw _ (List.mem_of_getElem? (i := 35) rfl)) (hw _ (List.mem_of_getElem? (i := 2) rfl)) (hw _ (List.mem_of_getElem? (i := 37) rfl)) (by decide) rfl (rm6 l Z a0 hw [] by' dy k76 q1 q2 q3 q4 q5 q0 T98.heap n0 Z99 F_counts_by' V_dy E_dy) 0 (by decide) (by decide) E_by' (g := (mkF m 113 #[.val (.long q0), .second, .val (.long q1), .second, .val (.long q2), .second, .val (.long q3), .second, .val (.long q4), .second, .val (.long q5), .second, .val (.ref br), .val (.ref bx), .val (.ref by'), .val (.ref c1), .val (.ref c2), .unset, .unset, .unset, .unset] [(.ref by')])) rfl (by rw [hml]; rfl) (argsL := []) (rest := []) pd4 rfl rfl rfl (by show 2 * 0 + _ ≤ _; exact Nat.le_of_eq rfl) (hb hby at_113) (by decide) (by decide) ?_
  intro T100 v100 L100 X100 hQ100
  obtain ⟨c3, rfl, N100q, K100q, sf_c3, y100_0⟩ := hQ100
  have N100 := Fr.app N98 N100q
  have g_c3 := Nat.le_trans Z99 sf_c3
  have ne_br_c3 : br ≠ c3 := Nat.ne_of_lt (Nat.lt_of_lt_of_le E_br.lt sf_c3)
  have ne_c3_br := Ne.symm ne_br_c3
  have ne_bx_c3 : bx ≠ c3 := Nat.ne_of_lt (Nat.lt_of_lt_of_le E_bx.lt sf_c3)
  have ne_c3_bx := Ne.symm ne_bx_c3
  have ne_by'_c3 : by' ≠ c3 := Nat.ne_of_lt (Nat.lt_of_lt_of_le E_by'.lt sf_c3)
  have ne_c3_by' := Ne.symm ne_by'_c3
  have ne_c1_c3 : c1 ≠ c3 := Nat.ne_of_lt (Nat.lt_of_lt_of_le V_c1.lt sf_c3)
  have ne_c3_c1 := Ne.symm ne_c1_c3
  have ne_c2_c3 : c2 ≠ c3 := Nat.ne_of_lt (Nat.lt_of_lt_of_le V_c2.lt sf_c3)
  have ne_c3_c2 := Ne.symm ne_c2_c3
  have ne_dr_c3 : dr ≠ c3 := Nat.ne_of_lt (Nat.lt_of_lt_of_le E_dr.lt sf_c3)
  have ne_c3_dr := Ne.symm ne_dr_c3
  have ne_dx_c3 : dx ≠ c3 := Nat.ne_of_lt (Nat.lt_of_lt_of_le V_dx.lt sf_c3)
  have ne_c3_dx := Ne.symm ne_dx_c3
  have ne_dy_c3 : dy ≠ c3 := Nat.ne_of_lt (Nat.lt_of_lt_of_le V_dy.lt sf_c3)
  have ne_c3_dy := Ne.symm ne_dy_c3
  replace E_br := E_br.keep K100q
  replace F_counts_br := F_counts_br.keep K100q nin0
  replace E_dr := E_dr.keep K100q
  replace E_bx := E_bx.keep K100q
  replace F_counts_bx := F_counts_bx.keep K100q nin0
  replace V_dx := V_dx.keep K100q nin0
  replace E_dx := E_dx.keep K100q
  replace E_by' := E_by'.keep K100q
  replace F_counts_by' := F_counts_by'.keep K100q nin0
  replace V_dy := V_dy.keep K100q nin0
  replace E_dy := E_dy.keep K100q
  replace V_c1 := V_c1.keep K100q nin0
  replace V_dr := V_dr.keep K100q nin0
  replace V_c2 := V_c2.keep K100q nin0
  have Z101 := Nat.le_trans Z99 K100q.1
  have V_c3 := y100_0
  show own_Go p e s below _ _ _ T100 (mkF m 116 #[.val (.long q0), .second, .val (.long q1), .second, .val (.long q2), .second, .val (.long q3), .second, .val (.long q4), .second, .val (.long q5), .second, .val (.ref br), .val (.ref bx), .val (.ref by'), .val (.ref c1), .val (.ref c2), .unset, .unset, .unset, .unset] [(.ref c3)])
  refine own_st (fun _ k => XS.astore X100.here hx rfl (hb hby at_116) rfl rfl (l' := #[.val (.long q0), .second, .val (.long q1), .second, .val (.long q2), .second, .val (.long q3), .second, .val (.long q4), .second, .val (.long q5), .second, .val (.ref br), .val (.ref bx), .val (.ref by'), .val (.ref c1), .val (.ref c2), .val (.ref c3), .unset, .unset, .unset]) rfl k) ?_
  show own_Go p e s below _ _ _ T100 (mkF m 118 #[.val (.long q0), .second, .val (.long q1), .second, .val (.long q2), .second, .val (.long q3), .second, .val (.long q4), .second, .val (.long q5), .second, .val (.ref br), .val (.ref bx), .val (.ref by'), .val (.ref c1), .val (.ref c2), .val (.ref c3), .unset, .unset, .unset] [])
  refine own_st (fun _ k => XS.aload X100.here hx rfl (hb hby at_118) rfl rfl k) ?_
  show own_Go p e s below _ _ _ T100 (mkF m 120 #[.val (.long q0), .second, .val (.long q1), .second, .val (.long q2), .second, .val (.long q3), .second, .val (.long q4), .second, .val (.long q5), .second, .val (.ref br), .val (.ref bx), .val (.ref by'), .val (.ref c1), .val (.ref c2), .val (.ref c3), .unset, .unset, .unset] [(.ref c1)])
  refine own_st (fun _ k => XS.iconst X100.here hx rfl (hb hby at_120) k) ?_
  show own_Go p e s below _ _ _ T100 (mkF m 121 #[.val (.long q0), .second, .val (.long q1), .second, .val (.long q2), .second, .val (.long q3), .second, .val (.long q4), .second, .val (.long q5), .second, .val (.ref br), .val (.ref bx), .val (.ref by'), .val (.ref c1), .val (.ref c2), .val (.ref c3), .unset, .unset, .unset] [(.int (0 : Int32)), (.ref c1)])
  refine own_st (own_ldJ X100 hx hZ rfl V_c1 (j := (0 : Int32)) (x := ((0 : Int64) + q0)) ⟨by decide, by decide⟩ rfl (g := (mkF m 121 #[.val (.long q0), .second, .val (.long q1), .second, .val (.long q2), .second, .val (.long q3), .second, .val (.long q4), .second, .val (.long q5), .second, .val (.ref br), .val (.ref bx), .val (.ref by'), .val (.ref c1), .val (.ref c2), .val (.ref c3), .unset, .unset, .unset] [(.int (0 : Int32)), (.ref c1)])) rfl rfl (hb hby at_121)) ?_
  show own_Go p e s below _ _ _ T100 (mkF m 122 #[.val (.long q0), .second, .val (.long q1), .second, .val (.long q2), .second, .val (.long q3), .second, .val (.long q4), .second, .val (.long q5), .second, .val (.ref br), .val (.ref bx), .val (.ref by'), .val (.ref c1), .val (.ref c2), .val (.ref c3), .unset, .unset, .unset] [(.long ((0 : Int64) + q0))])
  refine own_st (fun _ k => XS.lloadN X100.here hx rfl (hb hby at_122) rfl k) ?_
  show own_Go p e s below _ _ _ T100 (mkF m 123 #[.val (.long q0), .second, .val (.long q1), .second, .val (.long q2), .second, .val (.long q3), .second, .val (.long q4), .second, .val (.long q5), .second, .val (.ref br), .val (.ref bx), .val (.ref by'), .val (.ref c1), .val (.ref c2), .val (.ref c3), .unset, .unset, .unset] [(.long q0), (.long ((0 : Int64) + q0))])
  refine own_st (fun _ k => XS.lcmp X100.here hx rfl (hb hby at_123) rfl k) ?_
  show own_Go p e s below _ _ _ T100 (mkF m 124 #[.val (.long q0), .second, .val (.long q1), .second, .val (.long q2), .second, .val (.long q3), .second, .val (.long q4), .second, .val (.long q5), .second, .val (.ref br), .val (.ref bx), .val (.ref by'), .val (.ref c1), .val (.ref c2), .val (.ref c3), .unset, .unset, .unset] [(.int (lcmpW ((0 : Int64) + q0) q0))])
  refine own_st (fun _ k => XS.ifNo X100.here hx rfl (hb hby at_124) rfl ((if0 _ _).trans (teq ((lw_eq _ _).mpr (by simp : ((0 : Int64) + q0) = q0))).2) k) ?_
  show own_Go p e s below _ _ _ T100 (mkF m 127 #[.val (.long q0), .second, .val (.long q1), .second, .val (.long q2), .second, .val (.long q3), .second, .val (.long q4), .second, .val (.long q5), .second, .val (.ref br), .val (.ref bx), .val (.ref by'), .val (.ref c1), .val (.ref c2), .val (.ref c3), .unset, .unset, .unset] [])
  refine own_st (fun _ k => XS.aload X100.here hx rfl (hb hby at_127) rfl rfl k) ?_
  show own_Go p e s below _ _ _ T100 (mkF m 129 #[.val (.long q0), .second, .val (.long q1), .second, .val (.long q2), .second, .val (.long q3), .second, .val (.long q4), .second, .val (.long q5), .second, .val (.ref br), .val (.ref bx), .val (.ref by'), .val (.ref c1), .val (.ref c2), .val (.ref c3), .unset, .unset, .unset] [(.ref c1)])
  refine own_st (fun _ k => XS.iconst X100.here hx rfl (hb hby at_129) k) ?_
  show own_Go p e s below _ _ _ T100 (mkF m 130 #[.val (.long q0), .second, .val (.long q1), .second, .val (.long q2), .second, .val (.long q3), .second, .val (.long q4), .second, .val (.long q5), .second, .val (.ref br), .val (.ref bx), .val (.ref by'), .val (.ref c1), .val (.ref c2), .val (.ref c3), .unset, .unset, .unset] [(.int (1 : Int32)), (.ref c1)])
  refine own_st (own_ldJ X100 hx hZ rfl V_c1 (j := (1 : Int32)) (x := ((0 : Int64) + q1)) ⟨by decide, by decide⟩ rfl (g := (mkF m 130 #[.val (.long q0), .second, .val (.long q1), .second, .val (.long q2), .second, .val (.long q3), .second, .val (.long q4), .second, .val (.long q5), .second, .val (.ref br), .val (.ref bx), .val (.ref by'), .val (.ref c1), .val (.ref c2), .val (.ref c3), .unset, .unset, .unset] [(.int (1 : Int32)), (.ref c1)])) rfl rfl (hb hby at_130)) ?_
  show own_Go p e s below _ _ _ T100 (mkF m 131 #[.val (.long q0), .second, .val (.long q1), .second, .val (.long q2), .second, .val (.long q3), .second, .val (.long q4), .second, .val (.long q5), .second, .val (.ref br), .val (.ref bx), .val (.ref by'), .val (.ref c1), .val (.ref c2), .val (.ref c3), .unset, .unset, .unset] [(.long ((0 : Int64) + q1))])
  refine own_st (fun _ k => XS.lloadN X100.here hx rfl (hb hby at_131) rfl k) ?_
  show own_Go p e s below _ _ _ T100 (mkF m 132 #[.val (.long q0), .second, .val (.long q1), .second, .val (.long q2), .second, .val (.long q3), .second, .val (.long q4), .second, .val (.long q5), .second, .val (.ref br), .val (.ref bx), .val (.ref by'), .val (.ref c1), .val (.ref c2), .val (.ref c3), .unset, .unset, .unset] [(.long q1), (.long ((0 : Int64) + q1))])
  refine own_st (fun _ k => XS.lcmp X100.here hx rfl (hb hby at_132) rfl k) ?_
  show own_Go p e s below _ _ _ T100 (mkF m 133 #[.val (.long q0), .second, .val (.long q1), .second, .val (.long q2), .second, .val (.long q3), .second, .val (.long q4), .second, .val (.long q5), .second, .val (.ref br), .val (.ref bx), .val (.ref by'), .val (.ref c1), .val (.ref c2), .val (.ref c3), .unset, .unset, .unset] [(.int (lcmpW ((0 : Int64) + q1) q1))])
  refine own_st (fun _ k => XS.ifNo X100.here hx rfl (hb hby at_133) rfl ((if0 _ _).trans (teq ((lw_eq _ _).mpr (by simp : ((0 : Int64) + q1) = q1))).2) k) ?_
  show own_Go p e s below _ _ _ T100 (mkF m 136 #[.val (.long q0), .second, .val (.long q1), .second, .val (.long q2), .second, .val (.long q3), .second, .val (.long q4), .second, .val (.long q5), .second, .val (.ref br), .val (.ref bx), .val (.ref by'), .val (.ref c1), .val (.ref c2), .val (.ref c3), .unset, .unset, .unset] [])
  refine own_st (fun _ k => XS.aload X100.here hx rfl (hb hby at_136) rfl rfl k) ?_
  show own_Go p e s below _ _ _ T100 (mkF m 138 #[.val (.long q0), .second, .val (.long q1), .second, .val (.long q2), .second, .val (.long q3), .second, .val (.long q4), .second, .val (.long q5), .second, .val (.ref br), .val (.ref bx), .val (.ref by'), .val (.ref c1), .val (.ref c2), .val (.ref c3), .unset, .unset, .unset] [(.ref c1)])
  refine own_st (fun _ k => XS.iconst X100.here hx rfl (hb hby at_138) k) ?_
  show own_Go p e s below _ _ _ T100 (mkF m 139 #[.val (.long q0), .second, .val (.long q1), .second, .val (.long q2), .second, .val (.long q3), .second, .val (.long q4), .second, .val (.long q5), .second, .val (.ref br), .val (.ref bx), .val (.ref by'), .val (.ref c1), .val (.ref c2), .val (.ref c3), .unset, .unset, .unset] [(.int (2 : Int32)), (.ref c1)])
  refine own_st (own_ldJ X100 hx hZ rfl V_c1 (j := (2 : Int32)) (x := ((0 : Int64) + q2)) ⟨by decide, by decide⟩ rfl (g := (mkF m 139 #[.val (.long q0), .second, .val (.long q1), .second, .val (.long q2), .second, .val (.long q3), .second, .val (.long q4), .second, .val (.long q5), .second, .val (.ref br), .val (.ref bx), .val (.ref by'), .val (.ref c1), .val (.ref c2), .val (.ref c3), .unset, .unset, .unset] [(.int (2 : Int32)), (.ref c1)])) rfl rfl (hb hby at_139)) ?_
  show own_Go p e s below _ _ _ T100 (mkF m 140 #[.val (.long q0), .second, .val (.long q1), .second, .val (.long q2), .second, .val (.long q3), .second, .val (.long q4), .second, .val (.long q5), .second, .val (.ref br), .val (.ref bx), .val (.ref by'), .val (.ref c1), .val (.ref c2), .val (.ref c3), .unset, .unset, .unset] [(.long ((0 : Int64) + q2))])
  refine own_st (fun _ k => XS.lload X100.here hx rfl (hb hby at_140) rfl k) ?_
  show own_Go p e s below _ _ _ T100 (mkF m 142 #[.val (.long q0), .second, .val (.long q1), .second, .val (.long q2), .second, .val (.long q3), .second, .val (.long q4), .second, .val (.long q5), .second, .val (.ref br), .val (.ref bx), .val (.ref by'), .val (.ref c1), .val (.ref c2), .val (.ref c3), .unset, .unset, .unset] [(.long q2), (.long ((0 : Int64) + q2))])
  refine own_st (fun _ k => XS.lcmp X100.here hx rfl (hb hby at_142) rfl k) ?_
  show own_Go p e s below _ _ _ T100 (mkF m 143 #[.val (.long q0), .second, .val (.long q1), .second, .val (.long q2), .second, .val (.long q3), .second, .val (.long q4), .second, .val (.long q5), .second, .val (.ref br), .val (.ref bx), .val (.ref by'), .val (.ref c1), .val (.ref c2), .val (.ref c3), .unset, .unset, .unset] [(.int (lcmpW ((0 : Int64) + q2) q2))])
  refine own_st (fun _ k => XS.ifNo X100.here hx rfl (hb hby at_143) rfl ((if0 _ _).trans (teq ((lw_eq _ _).mpr (by simp : ((0 : Int64) + q2) = q2))).2) k) ?_
  show own_Go p e s below _ _ _ T100 (mkF m 146 #[.val (.long q0), .second, .val (.long q1), .second, .val (.long q2), .second, .val (.long q3), .second, .val (.long q4), .second, .val (.long q5), .second, .val (.ref br), .val (.ref bx), .val (.ref by'), .val (.ref c1), .val (.ref c2), .val (.ref c3), .unset, .unset, .unset] [])
  refine own_st (fun _ k => XS.aload X100.here hx rfl (hb hby at_146) rfl rfl k) ?_
  show own_Go p e s below _ _ _ T100 (mkF m 148 #[.val (.long q0), .second, .val (.long q1), .second, .val (.long q2), .second, .val (.long q3), .second, .val (.long q4), .second, .val (.long q5), .second, .val (.ref br), .val (.ref bx), .val (.ref by'), .val (.ref c1), .val (.ref c2), .val (.ref c3), .unset, .unset, .unset] [(.ref c1)])
  refine own_st (fun _ k => XS.iconst X100.here hx rfl (hb hby at_148) k) ?_
  show own_Go p e s below _ _ _ T100 (mkF m 149 #[.val (.long q0), .second, .val (.long q1), .second, .val (.long q2), .second, .val (.long q3), .second, .val (.long q4), .second, .val (.long q5), .second, .val (.ref br), .val (.ref bx), .val (.ref by'), .val (.ref c1), .val (.ref c2), .val (.ref c3), .unset, .unset, .unset] [(.int (3 : Int32)), (.ref c1)])
  refine own_st (own_ldJ X100 hx hZ rfl V_c1 (j := (3 : Int32)) (x := ((0 : Int64) + q3)) ⟨by decide, by decide⟩ rfl (g := (mkF m 149 #[.val (.long q0), .second, .val (.long q1), .second, .val (.long q2), .second, .val (.long q3), .second, .val (.long q4), .second, .val (.long q5), .second, .val (.ref br), .val (.ref bx), .val (.ref by'), .val (.ref c1), .val (.ref c2), .val (.ref c3), .unset, .unset, .unset] [(.int (3 : Int32)), (.ref c1)])) rfl rfl (hb hby at_149)) ?_
  show own_Go p e s below _ _ _ T100 (mkF m 150 #[.val (.long q0), .second, .val (.long q1), .second, .val (.long q2), .second, .val (.long q3), .second, .val (.long q4), .second, .val (.long q5), .second, .val (.ref br), .val (.ref bx), .val (.ref by'), .val (.ref c1), .val (.ref c2), .val (.ref c3), .unset, .unset, .unset] [(.long ((0 : Int64) + q3))])
  refine own_st (fun _ k => XS.lload X100.here hx rfl (hb hby at_150) rfl k) ?_
  show own_Go p e s below _ _ _ T100 (mkF m 152 #[.val (.long q0), .second, .val (.long q1), .second, .val (.long q2), .second, .val (.long q3), .second, .val (.long q4), .second, .val (.long q5), .second, .val (.ref br), .val (.ref bx), .val (.ref by'), .val (.ref c1), .val (.ref c2), .val (.ref c3), .unset, .unset, .unset] [(.long q3), (.long ((0 : Int64) + q3))])
  refine own_st (fun _ k => XS.lcmp X100.here hx rfl (hb hby at_152) rfl k) ?_
  show own_Go p e s below _ _ _ T100 (mkF m 153 #[.val (.long q0), .second, .val (.long q1), .second, .val (.long q2), .second, .val (.long q3), .second, .val (.long q4), .second, .val (.long q5), .second, .val (.ref br), .val (.ref bx), .val (.ref by'), .val (.ref c1), .val (.ref c2), .val (.ref c3), .unset, .unset, .unset] [(.int (lcmpW ((0 : Int64) + q3) q3))])
  refine own_st (fun _ k => XS.ifNo X100.here hx rfl (hb hby at_153) rfl ((if0 _ _).trans (teq ((lw_eq _ _).mpr (by simp : ((0 : Int64) + q3) = q3))).2) k) ?_
  show own_Go p e s below _ _ _ T100 (mkF m 156 #[.val (.long q0), .second, .val (.long q1), .second, .val (.long q2), .second, .val (.long q3), .second, .val (.long q4), .second, .val (.long q5), .second, .val (.ref br), .val (.ref bx), .val (.ref by'), .val (.ref c1), .val (.ref c2), .val (.ref c3), .unset, .unset, .unset] [])
  refine own_st (fun _ k => XS.aload X100.here hx rfl (hb hby at_156) rfl rfl k) ?_
  show own_Go p e s below _ _ _ T100 (mkF m 158 #[.val (.long q0), .second, .val (.long q1), .second, .val (.long q2), .second, .val (.long q3), .second, .val (.long q4), .second, .val (.long q5), .second, .val (.ref br), .val (.ref bx), .val (.ref by'), .val (.ref c1), .val (.ref c2), .val (.ref c3), .unset, .unset, .unset] [(.ref c1)])
  refine own_st (fun _ k => XS.iconst X100.here hx rfl (hb hby at_158) k) ?_
  show own_Go p e s below _ _ _ T100 (mkF m 159 #[.val (.long q0), .second, .val (.long q1), .second, .val (.long q2), .second, .val (.long q3), .second, .val (.long q4), .second, .val (.long q5), .second, .val (.ref br), .val (.ref bx), .val (.ref by'), .val (.ref c1), .val (.ref c2), .val (.ref c3), .unset, .unset, .unset] [(.int (4 : Int32)), (.ref c1)])
  refine own_st (own_ldJ X100 hx hZ rfl V_c1 (j := (4 : Int32)) (x := ((0 : Int64) + q4)) ⟨by decide, by decide⟩ rfl (g := (mkF m 159 #[.val (.long q0), .second, .val (.long q1), .second, .val (.long q2), .second, .val (.long q3), .second, .val (.long q4), .second, .val (.long q5), .second, .val (.ref br), .val (.ref bx), .val (.ref by'), .val (.ref c1), .val (.ref c2), .val (.ref c3), .unset, .unset, .unset] [(.int (4 : Int32)), (.ref c1)])) rfl rfl (hb hby at_159)) ?_
  show own_Go p e s below _ _ _ T100 (mkF m 160 #[.val (.long q0), .second, .val (.long q1), .second, .val (.long q2), .second, .val (.long q3), .second, .val (.long q4), .second, .val (.long q5), .second, .val (.ref br), .val (.ref bx), .val (.ref by'), .val (.ref c1), .val (.ref c2), .val (.ref c3), .unset, .unset, .unset] [(.long ((0 : Int64) + q4))])
  refine own_st (fun _ k => XS.lload X100.here hx rfl (hb hby at_160) rfl k) ?_
  show own_Go p e s below _ _ _ T100 (mkF m 162 #[.val (.long q0), .second, .val (.long q1), .second, .val (.long q2), .second, .val (.long q3), .second, .val (.long q4), .second, .val (.long q5), .second, .val (.ref br), .val (.ref bx), .val (.ref by'), .val (.ref c1), .val (.ref c2), .val (.ref c3), .unset, .unset, .unset] [(.long q4), (.long ((0 : Int64) + q4))])
  refine own_st (fun _ k => XS.lcmp X100.here hx rfl (hb hby at_162) rfl k) ?_
  show own_Go p e s below _ _ _ T100 (mkF m 163 #[.val (.long q0), .second, .val (.long q1), .second, .val (.long q2), .second, .val (.long q3), .second, .val (.long q4), .second, .val (.long q5), .second, .val (.ref br), .val (.ref bx), .val (.ref by'), .val (.ref c1), .val (.ref c2), .val (.ref c3), .unset, .unset, .unset] [(.int (lcmpW ((0 : Int64) + q4) q4))])
  refine own_st (fun _ k => XS.ifNo X100.here hx rfl (hb hby at_163) rfl ((if0 _ _).trans (teq ((lw_eq _ _).mpr (by simp : ((0 : Int64) + q4) = q4))).2) k) ?_
  show own_Go p e s below _ _ _ T100 (mkF m 166 #[.val (.long q0), .second, .val (.long q1), .second, .val (.long q2), .second, .val (.long q3), .second, .val (.long q4), .second, .val (.long q5), .second, .val (.ref br), .val (.ref bx), .val (.ref by'), .val (.ref c1), .val (.ref c2), .val (.ref c3), .unset, .unset, .unset] [])
  refine own_st (fun _ k => XS.aload X100.here hx rfl (hb hby at_166) rfl rfl k) ?_
  show own_Go p e s below _ _ _ T100 (mkF m 168 #[.val (.long q0), .second, .val (.long q1), .second, .val (.long q2), .second, .val (.long q3), .second, .val (.long q4), .second, .val (.long q5), .second, .val (.ref br), .val (.ref bx), .val (.ref by'), .val (.ref c1), .val (.ref c2), .val (.ref c3), .unset, .unset, .unset] [(.ref c1)])
  refine own_st (fun _ k => XS.iconst X100.here hx rfl (hb hby at_168) k) ?_
  show own_Go p e s below _ _ _ T100 (mkF m 169 #[.val (.long q0), .second, .val (.long q1), .second, .val (.long q2), .second, .val (.long q3), .second, .val (.long q4), .second, .val (.long q5), .second, .val (.ref br), .val (.ref bx), .val (.ref by'), .val (.ref c1), .val (.ref c2), .val (.ref c3), .unset, .unset, .unset] [(.int (5 : Int32)), (.ref c1)])
  refine own_st (own_ldJ X100 hx hZ rfl V_c1 (j := (5 : Int32)) (x := ((0 : Int64) + q5)) ⟨by decide, by decide⟩ rfl (g := (mkF m 169 #[.val (.long q0), .second, .val (.long q1), .second, .val (.long q2), .second, .val (.long q3), .second, .val (.long q4), .second, .val (.long q5), .second, .val (.ref br), .val (.ref bx), .val (.ref by'), .val (.ref c1), .val (.ref c2), .val (.ref c3), .unset, .unset, .unset] [(.int (5 : Int32)), (.ref c1)])) rfl rfl (hb hby at_169)) ?_
  show own_Go p e s below _ _ _ T100 (mkF m 170 #[.val (.long q0), .second, .val (.long q1), .second, .val (.long q2), .second, .val (.long q3), .second, .val (.long q4), .second, .val (.long q5), .second, .val (.ref br), .val (.ref bx), .val (.ref by'), .val (.ref c1), .val (.ref c2), .val (.ref c3), .unset, .unset, .unset] [(.long ((0 : Int64) + q5))])
  refine own_st (fun _ k => XS.lload X100.here hx rfl (hb hby at_170) rfl k) ?_
  show own_Go p e s below _ _ _ T100 (mkF m 172 #[.val (.long q0), .second, .val (.long q1), .second, .val (.long q2), .second, .val (.long q3), .second, .val (.long q4), .second, .val (.long q5), .second, .val (.ref br), .val (.ref bx), .val (.ref by'), .val (.ref c1), .val (.ref c2), .val (.ref c3), .unset, .unset, .unset] [(.long q5), (.long ((0 : Int64) + q5))])
  refine own_st (fun _ k => XS.lcmp X100.here hx rfl (hb hby at_172) rfl k) ?_
  show own_Go p e s below _ _ _ T100 (mkF m 173 #[.val (.long q0), .second, .val (.long q1), .second, .val (.long q2), .second, .val (.long q3), .second, .val (.long q4), .second, .val (.long q5), .second, .val (.ref br), .val (.ref bx), .val (.ref by'), .val (.ref c1), .val (.ref c2), .val (.ref c3), .unset, .unset, .unset] [(.int (lcmpW ((0 : Int64) + q5) q5))])
  refine own_st (fun _ k => XS.ifNo X100.here hx rfl (hb hby at_173) rfl ((if0 _ _).trans (teq ((lw_eq _ _).mpr (by simp : ((0 : Int64) + q5) = q5))).2) k) ?_
  show own_Go p e s below _ _ _ T100 (mkF m 176 #[.val (.long q0), .second, .val (.long q1), .second, .val (.long q2), .second, .val (.long q3), .second, .val (.long q4), .second, .val (.long q5), .second, .val (.ref br), .val (.ref bx), .val (.ref by'), .val (.ref c1), .val (.ref c2), .val (.ref c3), .unset, .unset, .unset] [])
  refine own_st (fun _ k => XS.iconst X100.here hx rfl (hb hby at_176) k) ?_
  show own_Go p e s below _ _ _ T100 (mkF m 177 #[.val (.long q0), .second, .val (.long q1), .second, .val (.long q2), .second, .val (.long q3), .second, .val (.long q4), .second, .val (.long q5), .second, .val (.ref br), .val (.ref bx), .val (.ref by'), .val (.ref c1), .val (.ref c2), .val (.ref c3), .unset, .unset, .unset] [(.int (1 : Int32))])
  refine own_st (fun _ k => XS.goto X100.here hx rfl (pc0 := 177) (pc' := 181) rfl (hb hby at_177) (by decide) (by decide) k) ?_
  show own_Go p e s below _ _ _ T100 (mkF m 181 #[.val (.long q0), .second, .val (.long q1), .second, .val (.long q2), .second, .val (.long q3), .second, .val (.long q4), .second, .val (.long q5), .second, .val (.ref br), .val (.ref bx), .val (.ref by'), .val (.ref c1), .val (.ref c2), .val (.ref c3), .unset, .unset, .unset] [(.int (1 : Int32))])
  refine own_st (fun _ k => XS.istore X100.here hx rfl (hb hby at_181) rfl (l' := #[.val (.long q0), .second, .val (.long q1), .second, .val (.long q2), .second, .val (.long q3), .second, .val (.long q4), .second, .val (.long q5), .second, .val (.ref br), .val (.ref bx), .val (.ref by'), .val (.ref c1), .val (.ref c2), .val (.ref c3), .val (.int (1 : Int32)), .unset, .unset]) rfl k) ?_
  show own_Go p e s below _ _ _ T100 (mkF m 183 #[.val (.long q0), .second, .val (.long q1), .second, .val (.long q2), .second, .val (.long q3), .second, .val (.long q4), .second, .val (.long q5), .second, .val (.ref br), .val (.ref bx), .val (.ref by'), .val (.ref c1), .val (.ref c2), .val (.ref c3), .val (.int (1 : Int32)), .unset, .unset] [])
  refine own_st (fun _ k => XS.aload X100.here hx rfl (hb hby at_183) rfl rfl k) ?_
  show own_Go p e s below _ _ _ T100 (mkF m 185 #[.val (.long q0), .second, .val (.long q1), .second, .val (.long q2), .second, .val (.long q3), .second, .val (.long q4), .second, .val (.long q5), .second, .val (.ref br), .val (.ref bx), .val (.ref by'), .val (.ref c1), .val (.ref c2), .val (.ref c3), .val (.int (1 : Int32)), .unset, .unset] [(.ref c2)])
  refine own_st (fun _ k => XS.iconst X100.here hx rfl (hb hby at_185) k) ?_
  show own_Go p e s below _ _ _ T100 (mkF m 186 #[.val (.long q0), .second, .val (.long q1), .second, .val (.long q2), .second, .val (.long q3), .second, .val (.long q4), .second, .val (.long q5), .second, .val (.ref br), .val (.ref bx), .val (.ref by'), .val (.ref c1), .val (.ref c2), .val (.ref c3), .val (.int (1 : Int32)), .unset, .unset] [(.int (0 : Int32)), (.ref c2)])
  refine own_st (own_ldJ X100 hx hZ rfl V_c2 (j := (0 : Int32)) (x := (((0 : Int64) + q0) + q1)) ⟨by decide, by decide⟩ rfl (g := (mkF m 186 #[.val (.long q0), .second, .val (.long q1), .second, .val (.long q2), .second, .val (.long q3), .second, .val (.long q4), .second, .val (.long q5), .second, .val (.ref br), .val (.ref bx), .val (.ref by'), .val (.ref c1), .val (.ref c2), .val (.ref c3), .val (.int (1 : Int32)), .unset, .unset] [(.int (0 : Int32)), (.ref c2)])) rfl rfl (hb hby at_186)) ?_
  show own_Go p e s below _ _ _ T100 (mkF m 187 #[.val (.long q0), .second, .val (.long q1), .second, .val (.long q2), .second, .val (.long q3), .second, .val (.long q4), .second, .val (.long q5), .second, .val (.ref br), .val (.ref bx), .val (.ref by'), .val (.ref c1), .val (.ref c2), .val (.ref c3), .val (.int (1 : Int32)), .unset, .unset] [(.long (((0 : Int64) + q0) + q1))])
  refine own_st (fun _ k => XS.lloadN X100.here hx rfl (hb hby at_187) rfl k) ?_
  show own_Go p e s below _ _ _ T100 (mkF m 188 #[.val (.long q0), .second, .val (.long q1), .second, .val (.long q2), .second, .val (.long q3), .second, .val (.long q4), .second, .val (.long q5), .second, .val (.ref br), .val (.ref bx), .val (.ref by'), .val (.ref c1), .val (.ref c2), .val (.ref c3), .val (.int (1 : Int32)), .unset, .unset] [(.long q0), (.long (((0 : Int64) + q0) + q1))])
  refine own_st (fun _ k => XS.lloadN X100.here hx rfl (hb hby at_188) rfl k) ?_
  show own_Go p e s below _ _ _ T100 (mkF m 189 #[.val (.long q0), .second, .val (.long q1), .second, .val (.long q2), .second, .val (.long q3), .second, .val (.long q4), .second, .val (.long q5), .second, .val (.ref br), .val (.ref bx), .val (.ref by'), .val (.ref c1), .val (.ref c2), .val (.ref c3), .val (.int (1 : Int32)), .unset, .unset] [(.long q1), (.long q0), (.long (((0 : Int64) + q0) + q1))])
  refine own_st (fun _ k => XS.ladd X100.here hx rfl (hb hby at_189) rfl k) ?_
  show own_Go p e s below _ _ _ T100 (mkF m 190 #[.val (.long q0), .second, .val (.long q1), .second, .val (.long q2), .second, .val (.long q3), .second, .val (.long q4), .second, .val (.long q5), .second, .val (.ref br), .val (.ref bx), .val (.ref by'), .val (.ref c1), .val (.ref c2), .val (.ref c3), .val (.int (1 : Int32)), .unset, .unset] [(.long (q0 + q1)), (.long (((0 : Int64) + q0) + q1))])
  refine own_st (fun _ k => XS.lcmp X100.here hx rfl (hb hby at_190) rfl k) ?_
  show own_Go p e s below _ _ _ T100 (mkF m 191 #[.val (.long q0), .second, .val (.long q1), .second, .val (.long q2), .second, .val (.long q3), .second, .val (.long q4), .second, .val (.long q5), .second, .val (.ref br), .val (.ref bx), .val (.ref by'), .val (.ref c1), .val (.ref c2), .val (.ref c3), .val (.int (1 : Int32)), .unset, .unset] [(.int (lcmpW (((0 : Int64) + q0) + q1) (q0 + q1)))])
  refine own_st (fun _ k => XS.ifNo X100.here hx rfl (hb hby at_191) rfl ((if0 _ _).trans (teq ((lw_eq _ _).mpr (by simp : (((0 : Int64) + q0) + q1) = (q0 + q1)))).2) k) ?_
  show own_Go p e s below _ _ _ T100 (mkF m 194 #[.val (.long q0), .second, .val (.long q1), .second, .val (.long q2), .second, .val (.long q3), .second, .val (.long q4), .second, .val (.long q5), .second, .val (.ref br), .val (.ref bx), .val (.ref by'), .val (.ref c1), .val (.ref c2), .val (.ref c3), .val (.int (1 : Int32)), .unset, .unset] [])
  refine own_st (fun _ k => XS.aload X100.here hx rfl (hb hby at_194) rfl rfl k) ?_
  show own_Go p e s below _ _ _ T100 (mkF m 196 #[.val (.long q0), .second, .val (.long q1), .second, .val (.long q2), .second, .val (.long q3), .second, .val (.long q4), .second, .val (.long q5), .second, .val (.ref br), .val (.ref bx), .val (.ref by'), .val (.ref c1), .val (.ref c2), .val (.ref c3), .val (.int (1 : Int32)), .unset, .unset] [(.ref c2)])
  refine own_st (fun _ k => XS.iconst X100.here hx rfl (hb hby at_196) k) ?_
  show own_Go p e s below _ _ _ T100 (mkF m 197 #[.val (.long q0), .second, .val (.long q1), .second, .val (.long q2), .second, .val (.long q3), .second, .val (.long q4), .second, .val (.long q5), .second, .val (.ref br), .val (.ref bx), .val (.ref by'), .val (.ref c1), .val (.ref c2), .val (.ref c3), .val (.int (1 : Int32)), .unset, .unset] [(.int (1 : Int32)), (.ref c2)])
  refine own_st (own_ldJ X100 hx hZ rfl V_c2 (j := (1 : Int32)) (x := (((0 : Int64) + q1) + q2)) ⟨by decide, by decide⟩ rfl (g := (mkF m 197 #[.val (.long q0), .second, .val (.long q1), .second, .val (.long q2), .second, .val (.long q3), .second, .val (.long q4), .second, .val (.long q5), .second, .val (.ref br), .val (.ref bx), .val (.ref by'), .val (.ref c1), .val (.ref c2), .val (.ref c3), .val (.int (1 : Int32)), .unset, .unset] [(.int (1 : Int32)), (.ref c2)])) rfl rfl (hb hby at_197)) ?_
  show own_Go p e s below _ _ _ T100 (mkF m 198 #[.val (.long q0), .second, .val (.long q1), .second, .val (.long q2), .second, .val (.long q3), .second, .val (.long q4), .second, .val (.long q5), .second, .val (.ref br), .val (.ref bx), .val (.ref by'), .val (.ref c1), .val (.ref c2), .val (.ref c3), .val (.int (1 : Int32)), .unset, .unset] [(.long (((0 : Int64) + q1) + q2))])
  refine own_st (fun _ k => XS.lloadN X100.here hx rfl (hb hby at_198) rfl k) ?_
  show own_Go p e s below _ _ _ T100 (mkF m 199 #[.val (.long q0), .second, .val (.long q1), .second, .val (.long q2), .second, .val (.long q3), .second, .val (.long q4), .second, .val (.long q5), .second, .val (.ref br), .val (.ref bx), .val (.ref by'), .val (.ref c1), .val (.ref c2), .val (.ref c3), .val (.int (1 : Int32)), .unset, .unset] [(.long q1), (.long (((0 : Int64) + q1) + q2))])
  refine own_st (fun _ k => XS.lload X100.here hx rfl (hb hby at_199) rfl k) ?_
  show own_Go p e s below _ _ _ T100 (mkF m 201 #[.val (.long q0), .second, .val (.long q1), .second, .val (.long q2), .second, .val (.long q3), .second, .val (.long q4), .second, .val (.long q5), .second, .val (.ref br), .val (.ref bx), .val (.ref by'), .val (.ref c1), .val (.ref c2), .val (.ref c3), .val (.int (1 : Int32)), .unset, .unset] [(.long q2), (.long q1), (.long (((0 : Int64) + q1) + q2))])
  refine own_st (fun _ k => XS.ladd X100.here hx rfl (hb hby at_201) rfl k) ?_
  show own_Go p e s below _ _ _ T100 (mkF m 202 #[.val (.long q0), .second, .val (.long q1), .second, .val (.long q2), .second, .val (.long q3), .second, .val (.long q4), .second, .val (.long q5), .second, .val (.ref br), .val (.ref bx), .val (.ref by'), .val (.ref c1), .val (.ref c2), .val (.ref c3), .val (.int (1 : Int32)), .unset, .unset] [(.long (q1 + q2)), (.long (((0 : Int64) + q1) + q2))])
  refine own_st (fun _ k => XS.lcmp X100.here hx rfl (hb hby at_202) rfl k) ?_
  show own_Go p e s below _ _ _ T100 (mkF m 203 #[.val (.long q0), .second, .val (.long q1), .second, .val (.long q2), .second, .val (.long q3), .second, .val (.long q4), .second, .val (.long q5), .second, .val (.ref br), .val (.ref bx), .val (.ref by'), .val (.ref c1), .val (.ref c2), .val (.ref c3), .val (.int (1 : Int32)), .unset, .unset] [(.int (lcmpW (((0 : Int64) + q1) + q2) (q1 + q2)))])
  refine own_st (fun _ k => XS.ifNo X100.here hx rfl (hb hby at_203) rfl ((if0 _ _).trans (teq ((lw_eq _ _).mpr (by simp : (((0 : Int64) + q1) + q2) = (q1 + q2)))).2) k) ?_
  show own_Go p e s below _ _ _ T100 (mkF m 206 #[.val (.long q0), .second, .val (.long q1), .second, .val (.long q2), .second, .val (.long q3), .second, .val (.long q4), .second, .val (.long q5), .second, .val (.ref br), .val (.ref bx), .val (.ref by'), .val (.ref c1), .val (.ref c2), .val (.ref c3), .val (.int (1 : Int32)), .unset, .unset] [])
  refine own_st (fun _ k => XS.aload X100.here hx rfl (hb hby at_206) rfl rfl k) ?_
  show own_Go p e s below _ _ _ T100 (mkF m 208 #[.val (.long q0), .second, .val (.long q1), .second, .val (.long q2), .second, .val (.long q3), .second, .val (.long q4), .second, .val (.long q5), .second, .val (.ref br), .val (.ref bx), .val (.ref by'), .val (.ref c1), .val (.ref c2), .val (.ref c3), .val (.int (1 : Int32)), .unset, .unset] [(.ref c2)])
  refine own_st (fun _ k => XS.iconst X100.here hx rfl (hb hby at_208) k) ?_
  show own_Go p e s below _ _ _ T100 (mkF m 209 #[.val (.long q0), .second, .val (.long q1), .second, .val (.long q2), .second, .val (.long q3), .second, .val (.long q4), .second, .val (.long q5), .second, .val (.ref br), .val (.ref bx), .val (.ref by'), .val (.ref c1), .val (.ref c2), .val (.ref c3), .val (.int (1 : Int32)), .unset, .unset] [(.int (2 : Int32)), (.ref c2)])
  refine own_st (own_ldJ X100 hx hZ rfl V_c2 (j := (2 : Int32)) (x := (((0 : Int64) + q2) + q3)) ⟨by decide, by decide⟩ rfl (g := (mkF m 209 #[.val (.long q0), .second, .val (.long q1), .second, .val (.long q2), .second, .val (.long q3), .second, .val (.long q4), .second, .val (.long q5), .second, .val (.ref br), .val (.ref bx), .val (.ref by'), .val (.ref c1), .val (.ref c2), .val (.ref c3), .val (.int (1 : Int32)), .unset, .unset] [(.int (2 : Int32)), (.ref c2)])) rfl rfl (hb hby at_209)) ?_
  show own_Go p e s below _ _ _ T100 (mkF m 210 #[.val (.long q0), .second, .val (.long q1), .second, .val (.long q2), .second, .val (.long q3), .second, .val (.long q4), .second, .val (.long q5), .second, .val (.ref br), .val (.ref bx), .val (.ref by'), .val (.ref c1), .val (.ref c2), .val (.ref c3), .val (.int (1 : Int32)), .unset, .unset] [(.long (((0 : Int64) + q2) + q3))])
  refine own_st (fun _ k => XS.lload X100.here hx rfl (hb hby at_210) rfl k) ?_
  show own_Go p e s below _ _ _ T100 (mkF m 212 #[.val (.long q0), .second, .val (.long q1), .second, .val (.long q2), .second, .val (.long q3), .second, .val (.long q4), .second, .val (.long q5), .second, .val (.ref br), .val (.ref bx), .val (.ref by'), .val (.ref c1), .val (.ref c2), .val (.ref c3), .val (.int (1 : Int32)), .unset, .unset] [(.long q2), (.long (((0 : Int64) + q2) + q3))])
  refine own_st (fun _ k => XS.lload X100.here hx rfl (hb hby at_212) rfl k) ?_
  show own_Go p e s below _ _ _ T100 (mkF m 214 #[.val (.long q0), .second, .val (.long q1), .second, .val (.long q2), .second, .val (.long q3), .second, .val (.long q4), .second, .val (.long q5), .second, .val (.ref br), .val (.ref bx), .val (.ref by'), .val (.ref c1), .val (.ref c2), .val (.ref c3), .val (.int (1 : Int32)), .unset, .unset] [(.long q3), (.long q2), (.long (((0 : Int64) + q2) + q3))])
  refine own_st (fun _ k => XS.ladd X100.here hx rfl (hb hby at_214) rfl k) ?_
  show own_Go p e s below _ _ _ T100 (mkF m 215 #[.val (.long q0), .second, .val (.long q1), .second, .val (.long q2), .second, .val (.long q3), .second, .val (.long q4), .second, .val (.long q5), .second, .val (.ref br), .val (.ref bx), .val (.ref by'), .val (.ref c1), .val (.ref c2), .val (.ref c3), .val (.int (1 : Int32)), .unset, .unset] [(.long (q2 + q3)), (.long (((0 : Int64) + q2) + q3))])
  refine own_st (fun _ k => XS.lcmp X100.here hx rfl (hb hby at_215) rfl k) ?_
  show own_Go p e s below _ _ _ T100 (mkF m 216 #[.val (.long q0), .second, .val (.long q1), .second, .val (.long q2), .second, .val (.long q3), .second, .val (.long q4), .second, .val (.long q5), .second, .val (.ref br), .val (.ref bx), .val (.ref by'), .val (.ref c1), .val (.ref c2), .val (.ref c3), .val (.int (1 : Int32)), .unset, .unset] [(.int (lcmpW (((0 : Int64) + q2) + q3) (q2 + q3)))])
  refine own_st (fun _ k => XS.ifNo X100.here hx rfl (hb hby at_216) rfl ((if0 _ _).trans (teq ((lw_eq _ _).mpr (by simp : (((0 : Int64) + q2) + q3) = (q2 + q3)))).2) k) ?_
  show own_Go p e s below _ _ _ T100 (mkF m 219 #[.val (.long q0), .second, .val (.long q1), .second, .val (.long q2), .second, .val (.long q3), .second, .val (.long q4), .second, .val (.long q5), .second, .val (.ref br), .val (.ref bx), .val (.ref by'), .val (.ref c1), .val (.ref c2), .val (.ref c3), .val (.int (1 : Int32)), .unset, .unset] [])
  refine own_st (fun _ k => XS.aload X100.here hx rfl (hb hby at_219) rfl rfl k) ?_
  show own_Go p e s below _ _ _ T100 (mkF m 221 #[.val (.long q0), .second, .val (.long q1), .second, .val (.long q2), .second, .val (.long q3), .second, .val (.long q4), .second, .val (.long q5), .second, .val (.ref br), .val (.ref bx), .val (.ref by'), .val (.ref c1), .val (.ref c2), .val (.ref c3), .val (.int (1 : Int32)), .unset, .unset] [(.ref c2)])
  refine own_st (fun _ k => XS.iconst X100.here hx rfl (hb hby at_221) k) ?_
  show own_Go p e s below _ _ _ T100 (mkF m 222 #[.val (.long q0), .second, .val (.long q1), .second, .val (.long q2), .second, .val (.long q3), .second, .val (.long q4), .second, .val (.long q5), .second, .val (.ref br), .val (.ref bx), .val (.ref by'), .val (.ref c1), .val (.ref c2), .val (.ref c3), .val (.int (1 : Int32)), .unset, .unset] [(.int (3 : Int32)), (.ref c2)])
  refine own_st (own_ldJ X100 hx hZ rfl V_c2 (j := (3 : Int32)) (x := (((0 : Int64) + q3) + q4)) ⟨by decide, by decide⟩ rfl (g := (mkF m 222 #[.val (.long q0), .second, .val (.long q1), .second, .val (.long q2), .second, .val (.long q3), .second, .val (.long q4), .second, .val (.long q5), .second, .val (.ref br), .val (.ref bx), .val (.ref by'), .val (.ref c1), .val (.ref c2), .val (.ref c3), .val (.int (1 : Int32)), .unset, .unset] [(.int (3 : Int32)), (.ref c2)])) rfl rfl (hb hby at_222)) ?_
  show own_Go p e s below _ _ _ T100 (mkF m 223 #[.val (.long q0), .second, .val (.long q1), .second, .val (.long q2), .second, .val (.long q3), .second, .val (.long q4), .second, .val (.long q5), .second, .val (.ref br), .val (.ref bx), .val (.ref by'), .val (.ref c1), .val (.ref c2), .val (.ref c3), .val (.int (1 : Int32)), .unset, .unset] [(.long (((0 : Int64) + q3) + q4))])
  refine own_st (fun _ k => XS.lload X100.here hx rfl (hb hby at_223) rfl k) ?_
  show own_Go p e s below _ _ _ T100 (mkF m 225 #[.val (.long q0), .second, .val (.long q1), .second, .val (.long q2), .second, .val (.long q3), .second, .val (.long q4), .second, .val (.long q5), .second, .val (.ref br), .val (.ref bx), .val (.ref by'), .val (.ref c1), .val (.ref c2), .val (.ref c3), .val (.int (1 : Int32)), .unset, .unset] [(.long q3), (.long (((0 : Int64) + q3) + q4))])
  refine own_st (fun _ k => XS.lload X100.here hx rfl (hb hby at_225) rfl k) ?_
  show own_Go p e s below _ _ _ T100 (mkF m 227 #[.val (.long q0), .second, .val (.long q1), .second, .val (.long q2), .second, .val (.long q3), .second, .val (.long q4), .second, .val (.long q5), .second, .val (.ref br), .val (.ref bx), .val (.ref by'), .val (.ref c1), .val (.ref c2), .val (.ref c3), .val (.int (1 : Int32)), .unset, .unset] [(.long q4), (.long q3), (.long (((0 : Int64) + q3) + q4))])
  refine own_st (fun _ k => XS.ladd X100.here hx rfl (hb hby at_227) rfl k) ?_
  show own_Go p e s below _ _ _ T100 (mkF m 228 #[.val (.long q0), .second, .val (.long q1), .second, .val (.long q2), .second, .val (.long q3), .second, .val (.long q4), .second, .val (.long q5), .second, .val (.ref br), .val (.ref bx), .val (.ref by'), .val (.ref c1), .val (.ref c2), .val (.ref c3), .val (.int (1 : Int32)), .unset, .unset] [(.long (q3 + q4)), (.long (((0 : Int64) + q3) + q4))])
  refine own_st (fun _ k => XS.lcmp X100.here hx rfl (hb hby at_228) rfl k) ?_
  show own_Go p e s below _ _ _ T100 (mkF m 229 #[.val (.long q0), .second, .val (.long q1), .second, .val (.long q2), .second, .val (.long q3), .second, .val (.long q4), .second, .val (.long q5), .second, .val (.ref br), .val (.ref bx), .val (.ref by'), .val (.ref c1), .val (.ref c2), .val (.ref c3), .val (.int (1 : Int32)), .unset, .unset] [(.int (lcmpW (((0 : Int64) + q3) + q4) (q3 + q4)))])
  refine own_st (fun _ k => XS.ifNo X100.here hx rfl (hb hby at_229) rfl ((if0 _ _).trans (teq ((lw_eq _ _).mpr (by simp : (((0 : Int64) + q3) + q4) = (q3 + q4)))).2) k) ?_
  show own_Go p e s below _ _ _ T100 (mkF m 232 #[.val (.long q0), .second, .val (.long q1), .second, .val (.long q2), .second, .val (.long q3), .second, .val (.long q4), .second, .val (.long q5), .second, .val (.ref br), .val (.ref bx), .val (.ref by'), .val (.ref c1), .val (.ref c2), .val (.ref c3), .val (.int (1 : Int32)), .unset, .unset] [])
  refine own_st (fun _ k => XS.aload X100.here hx rfl (hb hby at_232) rfl rfl k) ?_
  show own_Go p e s below _ _ _ T100 (mkF m 234 #[.val (.long q0), .second, .val (.long q1), .second, .val (.long q2), .second, .val (.long q3), .second, .val (.long q4), .second, .val (.long q5), .second, .val (.ref br), .val (.ref bx), .val (.ref by'), .val (.ref c1), .val (.ref c2), .val (.ref c3), .val (.int (1 : Int32)), .unset, .unset] [(.ref c2)])
  refine own_st (fun _ k => XS.iconst X100.here hx rfl (hb hby at_234) k) ?_
  show own_Go p e s below _ _ _ T100 (mkF m 235 #[.val (.long q0), .second, .val (.long q1), .second, .val (.long q2), .second, .val (.long q3), .second, .val (.long q4), .second, .val (.long q5), .second, .val (.ref br), .val (.ref bx), .val (.ref by'), .val (.ref c1), .val (.ref c2), .val (.ref c3), .val (.int (1 : Int32)), .unset, .unset] [(.int (4 : Int32)), (.ref c2)])
  refine own_st (own_ldJ X100 hx hZ rfl V_c2 (j := (4 : Int32)) (x := (((0 : Int64) + q4) + q5)) ⟨by decide, by decide⟩ rfl (g := (mkF m 235 #[.val (.long q0), .second, .val (.long q1), .second, .val (.long q2), .second, .val (.long q3), .second, .val (.long q4), .second, .val (.long q5), .second, .val (.ref br), .val (.ref bx), .val (.ref by'), .val (.ref c1), .val (.ref c2), .val (.ref c3), .val (.int (1 : Int32)), .unset, .unset] [(.int (4 : Int32)), (.ref c2)])) rfl rfl (hb hby at_235)) ?_
  show own_Go p e s below _ _ _ T100 (mkF m 236 #[.val (.long q0), .second, .val (.long q1), .second, .val (.long q2), .second, .val (.long q3), .second, .val (.long q4), .second, .val (.long q5), .second, .val (.ref br), .val (.ref bx), .val (.ref by'), .val (.ref c1), .val (.ref c2), .val (.ref c3), .val (.int (1 : Int32)), .unset, .unset] [(.long (((0 : Int64) + q4) + q5))])
  refine own_st (fun _ k => XS.lload X100.here hx rfl (hb hby at_236) rfl k) ?_
  show own_Go p e s below _ _ _ T100 (mkF m 238 #[.val (.long q0), .second, .val (.long q1), .second, .val (.long q2), .second, .val (.long q3), .second, .val (.long q4), .second, .val (.long q5), .second, .val (.ref br), .val (.ref bx), .val (.ref by'), .val (.ref c1), .val (.ref c2), .val (.ref c3), .val (.int (1 : Int32)), .unset, .unset] [(.long q4), (.long (((0 : Int64) + q4) + q5))])
  refine own_st (fun _ k => XS.lload X100.here hx rfl (hb hby at_238) rfl k) ?_
  show own_Go p e s below _ _ _ T100 (mkF m 240 #[.val (.long q0), .second, .val (.long q1), .second, .val (.long q2), .second, .val (.long q3), .second, .val (.long q4), .second, .val (.long q5), .second, .val (.ref br), .val (.ref bx), .val (.ref by'), .val (.ref c1), .val (.ref c2), .val (.ref c3), .val (.int (1 : Int32)), .unset, .unset] [(.long q5), (.long q4), (.long (((0 : Int64) + q4) + q5))])
  refine own_st (fun _ k => XS.ladd X100.here hx rfl (hb hby at_240) rfl k) ?_
  show own_Go p e s below _ _ _ T100 (mkF m 241 #[.val (.long q0), .second, .val (.long q1), .second, .val (.long q2), .second, .val (.long q3), .second, .val (.long q4), .second, .val (.long q5), .second, .val (.ref br), .val (.ref bx), .val (.ref by'), .val (.ref c1), .val (.ref c2), .val (.ref c3), .val (.int (1 : Int32)), .unset, .unset] [(.long (q4 + q5)), (.long (((0 : Int64) + q4) + q5))])
  refine own_st (fun _ k => XS.lcmp X100.here hx rfl (hb hby at_241) rfl k) ?_
  show own_Go p e s below _ _ _ T100 (mkF m 242 #[.val (.long q0), .second, .val (.long q1), .second, .val (.long q2), .second, .val (.long q3), .second, .val (.long q4), .second, .val (.long q5), .second, .val (.ref br), .val (.ref bx), .val (.ref by'), .val (.ref c1), .val (.ref c2), .val (.ref c3), .val (.int (1 : Int32)), .unset, .unset] [(.int (lcmpW (((0 : Int64) + q4) + q5) (q4 + q5)))])
  refine own_st (fun _ k => XS.ifNo X100.here hx rfl (hb hby at_242) rfl ((if0 _ _).trans (teq ((lw_eq _ _).mpr (by simp : (((0 : Int64) + q4) + q5) = (q4 + q5)))).2) k) ?_
  show own_Go p e s below _ _ _ T100 (mkF m 245 #[.val (.long q0), .second, .val (.long q1), .second, .val (.long q2), .second, .val (.long q3), .second, .val (.long q4), .second, .val (.long q5), .second, .val (.ref br), .val (.ref bx), .val (.ref by'), .val (.ref c1), .val (.ref c2), .val (.ref c3), .val (.int (1 : Int32)), .unset, .unset] [])
  refine own_st (fun _ k => XS.aload X100.here hx rfl (hb hby at_245) rfl rfl k) ?_
  show own_Go p e s below _ _ _ T100 (mkF m 247 #[.val (.long q0), .second, .val (.long q1), .second, .val (.long q2), .second, .val (.long q3), .second, .val (.long q4), .second, .val (.long q5), .second, .val (.ref br), .val (.ref bx), .val (.ref by'), .val (.ref c1), .val (.ref c2), .val (.ref c3), .val (.int (1 : Int32)), .unset, .unset] [(.ref c2)])
  refine own_st (fun _ k => XS.iconst X100.here hx rfl (hb hby at_247) k) ?_
  show own_Go p e s below _ _ _ T100 (mkF m 248 #[.val (.long q0), .second, .val (.long q1), .second, .val (.long q2), .second, .val (.long q3), .second, .val (.long q4), .second, .val (.long q5), .second, .val (.ref br), .val (.ref bx), .val (.ref by'), .val (.ref c1), .val (.ref c2), .val (.ref c3), .val (.int (1 : Int32)), .unset, .unset] [(.int (5 : Int32)), (.ref c2)])
  refine own_st (own_ldJ X100 hx hZ rfl V_c2 (j := (5 : Int32)) (x := (((0 : Int64) + q5) + q0)) ⟨by decide, by decide⟩ rfl (g := (mkF m 248 #[.val (.long q0), .second, .val (.long q1), .second, .val (.long q2), .second, .val (.long q3), .second, .val (.long q4), .second, .val (.long q5), .second, .val (.ref br), .val (.ref bx), .val (.ref by'), .val (.ref c1), .val (.ref c2), .val (.ref c3), .val (.int (1 : Int32)), .unset, .unset] [(.int (5 : Int32)), (.ref c2)])) rfl rfl (hb hby at_248)) ?_
  show own_Go p e s below _ _ _ T100 (mkF m 249 #[.val (.long q0), .second, .val (.long q1), .second, .val (.long q2), .second, .val (.long q3), .second, .val (.long q4), .second, .val (.long q5), .second, .val (.ref br), .val (.ref bx), .val (.ref by'), .val (.ref c1), .val (.ref c2), .val (.ref c3), .val (.int (1 : Int32)), .unset, .unset] [(.long (((0 : Int64) + q5) + q0))])
  refine own_st (fun _ k => XS.lload X100.here hx rfl (hb hby at_249) rfl k) ?_
  show own_Go p e s below _ _ _ T100 (mkF m 251 #[.val (.long q0), .second, .val (.long q1), .second, .val (.long q2), .second, .val (.long q3), .second, .val (.long q4), .second, .val (.long q5), .second, .val (.ref br), .val (.ref bx), .val (.ref by'), .val (.ref c1), .val (.ref c2), .val (.ref c3), .val (.int (1 : Int32)), .unset, .unset] [(.long q5), (.long (((0 : Int64) + q5) + q0))])
  refine own_st (fun _ k => XS.lloadN X100.here hx rfl (hb hby at_251) rfl k) ?_
  show own_Go p e s below _ _ _ T100 (mkF m 252 #[.val (.long q0), .second, .val (.long q1), .second, .val (.long q2), .second, .val (.long q3), .second, .val (.long q4), .second, .val (.long q5), .second, .val (.ref br), .val (.ref bx), .val (.ref by'), .val (.ref c1), .val (.ref c2), .val (.ref c3), .val (.int (1 : Int32)), .unset, .unset] [(.long q0), (.long q5), (.long (((0 : Int64) + q5) + q0))])
  refine own_st (fun _ k => XS.ladd X100.here hx rfl (hb hby at_252) rfl k) ?_
  show own_Go p e s below _ _ _ T100 (mkF m 253 #[.val (.long q0), .second, .val (.long q1), .second, .val (.long q2), .second, .val (.long q3), .second, .val (.long q4), .second, .val (.long q5), .second, .val (.ref br), .val (.ref bx), .val (.ref by'), .val (.ref c1), .val (.ref c2), .val (.ref c3), .val (.int (1 : Int32)), .unset, .unset] [(.long (q5 + q0)), (.long (((0 : Int64) + q5) + q0))])
  refine own_st (fun _ k => XS.lcmp X100.here hx rfl (hb hby at_253) rfl k) ?_
  show own_Go p e s below _ _ _ T100 (mkF m 254 #[.val (.long q0), .second, .val (.long q1), .second, .val (.long q2), .second, .val (.long q3), .second, .val (.long q4), .second, .val (.long q5), .second, .val (.ref br), .val (.ref bx), .val (.ref by'), .val (.ref c1), .val (.ref c2), .val (.ref c3), .val (.int (1 : Int32)), .unset, .unset] [(.int (lcmpW (((0 : Int64) + q5) + q0) (q5 + q0)))])
  refine own_st (fun _ k => XS.ifNo X100.here hx rfl (hb hby at_254) rfl ((if0 _ _).trans (teq ((lw_eq _ _).mpr (by simp : (((0 : Int64) + q5) + q0) = (q5 + q0)))).2) k) ?_
  show own_Go p e s below _ _ _ T100 (mkF m 257 #[.val (.long q0), .second, .val (.long q1), .second, .val (.long q2), .second, .val (.long q3), .second, .val (.long q4), .second, .val (.long q5), .second, .val (.ref br), .val (.ref bx), .val (.ref by'), .val (.ref c1), .val (.ref c2), .val (.ref c3), .val (.int (1 : Int32)), .unset, .unset] [])
  refine own_st (fun _ k => XS.iconst X100.here hx rfl (hb hby at_257) k) ?_
  show own_Go p e s below _ _ _ T100 (mkF m 258 #[.val (.long q0), .second, .val (.long q1), .second, .val (.long q2), .second, .val (.long q3), .second, .val (.long q4), .second, .val (.long q5), .second, .val (.ref br), .val (.ref bx), .val (.ref by'), .val (.ref c1), .val (.ref c2), .val (.ref c3), .val (.int (1 : Int32)), .unset, .unset] [(.int (1 : Int32))])
  refine own_st (fun _ k => XS.goto X100.here hx rfl (pc0 := 258) (pc' := 262) rfl (hb hby at_258) (by decide) (by decide) k) ?_
  show own_Go p e s below _ _ _ T100 (mkF m 262 #[.val (.long q0), .second, .val (.long q1), .second, .val (.long q2), .second, .val (.long q3), .second, .val (.long q4), .second, .val (.long q5), .second, .val (.ref br), .val (.ref bx), .val (.ref by'), .val (.ref c1), .val (.ref c2), .val (.ref c3), .val (.int (1 : Int32)), .unset, .unset] [(.int (1 : Int32))])
  refine own_st (fun _ k => XS.istore X100.here hx rfl (hb hby at_262) rfl (l' := #[.val (.long q0), .second, .val (.long q1), .second, .val (.long q2), .second, .val (.long q3), .second, .val (.long q4), .second, .val (.long q5), .second, .val (.ref br), .val (.ref bx), .val (.ref by'), .val (.ref c1), .val (.ref c2), .val (.ref c3), .val (.int (1 : Int32)), .val (.int (1 : Int32)), .unset]) rfl k) ?_
  show own_Go p e s below _ _ _ T100 (mkF m 264 #[.val (.long q0), .second, .val (.long q1), .second, .val (.long q2), .second, .val (.long q3), .second, .val (.long q4), .second, .val (.long q5), .second, .val (.ref br), .val (.ref bx), .val (.ref by'), .val (.ref c1), .val (.ref c2), .val (.ref c3), .val (.int (1 : Int32)), .val (.int (1 : Int32)), .unset] [])
  refine own_st (fun _ k => XS.aload X100.here hx rfl (hb hby at_264) rfl rfl k) ?_
  show own_Go p e s below _ _ _ T100 (mkF m 266 #[.val (.long q0), .second, .val (.long q1), .second, .val (.long q2), .second, .val (.long q3), .second, .val (.long q4), .second, .val (.long q5), .second, .val (.ref br), .val (.ref bx), .val (.ref by'), .val (.ref c1), .val (.ref c2), .val (.ref c3), .val (.int (1 : Int32)), .val (.int (1 : Int32)), .unset] [(.ref c3)])
  refine own_st (fun _ k => XS.iconst X100.here hx rfl (hb hby at_266) k) ?_
  show own_Go p e s below _ _ _ T100 (mkF m 267 #[.val (.long q0), .second, .val (.long q1), .second, .val (.long q2), .second, .val (.long q3), .second, .val (.long q4), .second, .val (.long q5), .second, .val (.ref br), .val (.ref bx), .val (.ref by'), .val (.ref c1), .val (.ref c2), .val (.ref c3), .val (.int (1 : Int32)), .val (.int (1 : Int32)), .unset] [(.int (0 : Int32)), (.ref c3)])
  refine own_st (own_ldJ X100 hx hZ rfl V_c3 (j := (0 : Int32)) (x := q1) ⟨by decide, by decide⟩ rfl (g := (mkF m 267 #[.val (.long q0), .second, .val (.long q1), .second, .val (.long q2), .second, .val (.long q3), .second, .val (.long q4), .second, .val (.long q5), .second, .val (.ref br), .val (.ref bx), .val (.ref by'), .val (.ref c1), .val (.ref c2), .val (.ref c3), .val (.int (1 : Int32)), .val (.int (1 : Int32)), .unset] [(.int (0 : Int32)), (.ref c3)])) rfl rfl (hb hby at_267)) ?_
  show own_Go p e s below _ _ _ T100 (mkF m 268 #[.val (.long q0), .second, .val (.long q1), .second, .val (.long q2), .second, .val (.long q3), .second, .val (.long q4), .second, .val (.long q5), .second, .val (.ref br), .val (.ref bx), .val (.ref by'), .val (.ref c1), .val (.ref c2), .val (.ref c3), .val (.int (1 : Int32)), .val (.int (1 : Int32)), .unset] [(.long q1)])
  refine own_st (fun _ k => XS.lloadN X100.here hx rfl (hb hby at_268) rfl k) ?_
  show own_Go p e s below _ _ _ T100 (mkF m 269 #[.val (.long q0), .second, .val (.long q1), .second, .val (.long q2), .second, .val (.long q3), .second, .val (.long q4), .second, .val (.long q5), .second, .val (.ref br), .val (.ref bx), .val (.ref by'), .val (.ref c1), .val (.ref c2), .val (.ref c3), .val (.int (1 : Int32)), .val (.int (1 : Int32)), .unset] [(.long q1), (.long q1)])
  refine own_st (fun _ k => XS.lcmp X100.here hx rfl (hb hby at_269) rfl k) ?_
  show own_Go p e s below _ _ _ T100 (mkF m 270 #[.val (.long q0), .second, .val (.long q1), .second, .val (.long q2), .second, .val (.long q3), .second, .val (.long q4), .second, .val (.long q5), .second, .val (.ref br), .val (.ref bx), .val (.ref by'), .val (.ref c1), .val (.ref c2), .val (.ref c3), .val (.int (1 : Int32)), .val (.int (1 : Int32)), .unset] [(.int (lcmpW q1 q1))])
  refine own_st (fun _ k => XS.ifNo X100.here hx rfl (hb hby at_270) rfl ((if0 _ _).trans (teq ((lw_eq _ _).mpr (rfl : q1 = q1))).2) k) ?_
  show own_Go p e s below _ _ _ T100 (mkF m 273 #[.val (.long q0), .second, .val (.long q1), .second, .val (.long q2), .second, .val (.long q3), .second, .val (.long q4), .second, .val (.long q5), .second, .val (.ref br), .val (.ref bx), .val (.ref by'), .val (.ref c1), .val (.ref c2), .val (.ref c3), .val (.int (1 : Int32)), .val (.int (1 : Int32)), .unset] [])
  refine own_st (fun _ k => XS.aload X100.here hx rfl (hb hby at_273) rfl rfl k) ?_
  show own_Go p e s below _ _ _ T100 (mkF m 275 #[.val (.long q0), .second, .val (.long q1), .second, .val (.long q2), .second, .val (.long q3), .second, .val (.long q4), .second, .val (.long q5), .second, .val (.ref br), .val (.ref bx), .val (.ref by'), .val (.ref c1), .val (.ref c2), .val (.ref c3), .val (.int (1 : Int32)), .val (.int (1 : Int32)), .unset] [(.ref c3)])
  refine own_st (fun _ k => XS.iconst X100.here hx rfl (hb hby at_275) k) ?_
  show own_Go p e s below _ _ _ T100 (mkF m 276 #[.val (.long q0), .second, .val (.long q1), .second, .val (.long q2), .second, .val (.long q3), .second, .val (.long q4), .second, .val (.long q5), .second, .val (.ref br), .val (.ref bx), .val (.ref by'), .val (.ref c1), .val (.ref c2), .val (.ref c3), .val (.int (1 : Int32)), .val (.int (1 : Int32)), .unset] [(.int (1 : Int32)), (.ref c3)])
  refine own_st (own_ldJ X100 hx hZ rfl V_c3 (j := (1 : Int32)) (x := q2) ⟨by decide, by decide⟩ rfl (g := (mkF m 276 #[.val (.long q0), .second, .val (.long q1), .second, .val (.long q2), .second, .val (.long q3), .second, .val (.long q4), .second, .val (.long q5), .second, .val (.ref br), .val (.ref bx), .val (.ref by'), .val (.ref c1), .val (.ref c2), .val (.ref c3), .val (.int (1 : Int32)), .val (.int (1 : Int32)), .unset] [(.int (1 : Int32)), (.ref c3)])) rfl rfl (hb hby at_276)) ?_
  show own_Go p e s below _ _ _ T100 (mkF m 277 #[.val (.long q0), .second, .val (.long q1), .second, .val (.long q2), .second, .val (.long q3), .second, .val (.long q4), .second, .val (.long q5), .second, .val (.ref br), .val (.ref bx), .val (.ref by'), .val (.ref c1), .val (.ref c2), .val (.ref c3), .val (.int (1 : Int32)), .val (.int (1 : Int32)), .unset] [(.long q2)])
  refine own_st (fun _ k => XS.lload X100.here hx rfl (hb hby at_277) rfl k) ?_
  show own_Go p e s below _ _ _ T100 (mkF m 279 #[.val (.long q0), .second, .val (.long q1), .second, .val (.long q2), .second, .val (.long q3), .second, .val (.long q4), .second, .val (.long q5), .second, .val (.ref br), .val (.ref bx), .val (.ref by'), .val (.ref c1), .val (.ref c2), .val (.ref c3), .val (.int (1 : Int32)), .val (.int (1 : Int32)), .unset] [(.long q2), (.long q2)])
  refine own_st (fun _ k => XS.lcmp X100.here hx rfl (hb hby at_279) rfl k) ?_
  show own_Go p e s below _ _ _ T100 (mkF m 280 #[.val (.long q0), .second, .val (.long q1), .second, .val (.long q2), .second, .val (.long q3), .second, .val (.long q4), .second, .val (.long q5), .second, .val (.ref br), .val (.ref bx), .val (.ref by'), .val (.ref c1), .val (.ref c2), .val (.ref c3), .val (.int (1 : Int32)), .val (.int (1 : Int32)), .unset] [(.int (lcmpW q2 q2))])
  refine own_st (fun _ k => XS.ifNo X100.here hx rfl (hb hby at_280) rfl ((if0 _ _).trans (teq ((lw_eq _ _).mpr (rfl : q2 = q2))).2) k) ?_
  show own_Go p e s below _ _ _ T100 (mkF m 283 #[.val (.long q0), .second, .val (.long q1), .second, .val (.long q2), .second, .val (.long q3), .second, .val (.long q4), .second, .val (.long q5), .second, .val (.ref br), .val (.ref bx), .val (.ref by'), .val (.ref c1), .val (.ref c2), .val (.ref c3), .val (.int (1 : Int32)), .val (.int (1 : Int32)), .unset] [])
  refine own_st (fun _ k => XS.aload X100.here hx rfl (hb hby at_283) rfl rfl k) ?_
  show own_Go p e s below _ _ _ T100 (mkF m 285 #[.val (.long q0), .second, .val (.long q1), .second, .val (.long q2), .second, .val (.long q3), .second, .val (.long q4), .second, .val (.long q5), .second, .val (.ref br), .val (.ref bx), .val (.ref by'), .val (.ref c1), .val (.ref c2), .val (.ref c3), .val (.int (1 : Int32)), .val (.int (1 : Int32)), .unset] [(.ref c3)])
  refine own_st (fun _ k => XS.iconst X100.here hx rfl (hb hby at_285) k) ?_
  show own_Go p e s below _ _ _ T100 (mkF m 286 #[.val (.long q0), .second, .val (.long q1), .second, .val (.long q2), .second, .val (.long q3), .second, .val (.long q4), .second, .val (.long q5), .second, .val (.ref br), .val (.ref bx), .val (.ref by'), .val (.ref c1), .val (.ref c2), .val (.ref c3), .val (.int (1 : Int32)), .val (.int (1 : Int32)), .unset] [(.int (2 : Int32)), (.ref c3)])
  refine own_st (own_ldJ X100 hx hZ rfl V_c3 (j := (2 : Int32)) (x := q3) ⟨by decide, by decide⟩ rfl (g := (mkF m 286 #[.val (.long q0), .second, .val (.long q1), .second, .val (.long q2), .second, .val (.long q3), .second, .val (.long q4), .second, .val (.long q5), .second, .val (.ref br), .val (.ref bx), .val (.ref by'), .val (.ref c1), .val (.ref c2), .val (.ref c3), .val (.int (1 : Int32)), .val (.int (1 : Int32)), .unset] [(.int (2 : Int32)), (.ref c3)])) rfl rfl (hb hby at_286)) ?_
  show own_Go p e s below _ _ _ T100 (mkF m 287 #[.val (.long q0), .second, .val (.long q1), .second, .val (.long q2), .second, .val (.long q3), .second, .val (.long q4), .second, .val (.long q5), .second, .val (.ref br), .val (.ref bx), .val (.ref by'), .val (.ref c1), .val (.ref c2), .val (.ref c3), .val (.int (1 : Int32)), .val (.int (1 : Int32)), .unset] [(.long q3)])
  refine own_st (fun _ k => XS.lload X100.here hx rfl (hb hby at_287) rfl k) ?_
  show own_Go p e s below _ _ _ T100 (mkF m 289 #[.val (.long q0), .second, .val (.long q1), .second, .val (.long q2), .second, .val (.long q3), .second, .val (.long q4), .second, .val (.long q5), .second, .val (.ref br), .val (.ref bx), .val (.ref by'), .val (.ref c1), .val (.ref c2), .val (.ref c3), .val (.int (1 : Int32)), .val (.int (1 : Int32)), .unset] [(.long q3), (.long q3)])
  refine own_st (fun _ k => XS.lcmp X100.here hx rfl (hb hby at_289) rfl k) ?_
  show own_Go p e s below _ _ _ T100 (mkF m 290 #[.val (.long q0), .second, .val (.long q1), .second, .val (.long q2), .second, .val (.long q3), .second, .val (.long q4), .second, .val (.long q5), .second, .val (.ref br), .val (.ref bx), .val (.ref by'), .val (.ref c1), .val (.ref c2), .val (.ref c3), .val (.int (1 : Int32)), .val (.int (1 : Int32)), .unset] [(.int (lcmpW q3 q3))])
  refine own_st (fun _ k => XS.ifNo X100.here hx rfl (hb hby at_290) rfl ((if0 _ _).trans (teq ((lw_eq _ _).mpr (rfl : q3 = q3))).2) k) ?_
  show own_Go p e s below _ _ _ T100 (mkF m 293 #[.val (.long q0), .second, .val (.long q1), .second, .val (.long q2), .second, .val (.long q3), .second, .val (.long q4), .second, .val (.long q5), .second, .val (.ref br), .val (.ref bx), .val (.ref by'), .val (.ref c1), .val (.ref c2), .val (.ref c3), .val (.int (1 : Int32)), .val (.int (1 : Int32)), .unset] [])
  refine own_st (fun _ k => XS.aload X100.here hx rfl (hb hby at_293) rfl rfl k) ?_
  show own_Go p e s below _ _ _ T100 (mkF m 295 #[.val (.long q0), .second, .val (.long q1), .second, .val (.long q2), .second, .val (.long q3), .second, .val (.long q4), .second, .val (.long q5), .second, .val (.ref br), .val (.ref bx), .val (.ref by'), .val (.ref c1), .val (.ref c2), .val (.ref c3), .val (.int (1 : Int32)), .val (.int (1 : Int32)), .unset] [(.ref c3)])
  refine own_st (fun _ k => XS.iconst X100.here hx rfl (hb hby at_295) k) ?_
  show own_Go p e s below _ _ _ T100 (mkF m 296 #[.val (.long q0), .second, .val (.long q1), .second, .val (.long q2), .second, .val (.long q3), .second, .val (.long q4), .second, .val (.long q5), .second, .val (.ref br), .val (.ref bx), .val (.ref by'), .val (.ref c1), .val (.ref c2), .val (.ref c3), .val (.int (1 : Int32)), .val (.int (1 : Int32)), .unset] [(.int (3 : Int32)), (.ref c3)])
  refine own_st (own_ldJ X100 hx hZ rfl V_c3 (j := (3 : Int32)) (x := q4) ⟨by decide, by decide⟩ rfl (g := (mkF m 296 #[.val (.long q0), .second, .val (.long q1), .second, .val (.long q2), .second, .val (.long q3), .second, .val (.long q4), .second, .val (.long q5), .second, .val (.ref br), .val (.ref bx), .val (.ref by'), .val (.ref c1), .val (.ref c2), .val (.ref c3), .val (.int (1 : Int32)), .val (.int (1 : Int32)), .unset] [(.int (3 : Int32)), (.ref c3)])) rfl rfl (hb hby at_296)) ?_
  show own_Go p e s below _ _ _ T100 (mkF m 297 #[.val (.long q0), .second, .val (.long q1), .second, .val (.long q2), .second, .val (.long q3), .second, .val (.long q4), .second, .val (.long q5), .second, .val (.ref br), .val (.ref bx), .val (.ref by'), .val (.ref c1), .val (.ref c2), .val (.ref c3), .val (.int (1 : Int32)), .val (.int (1 : Int32)), .unset] [(.long q4)])
  refine own_st (fun _ k => XS.lload X100.here hx rfl (hb hby at_297) rfl k) ?_
  show own_Go p e s below _ _ _ T100 (mkF m 299 #[.val (.long q0), .second, .val (.long q1), .second, .val (.long q2), .second, .val (.long q3), .second, .val (.long q4), .second, .val (.long q5), .second, .val (.ref br), .val (.ref bx), .val (.ref by'), .val (.ref c1), .val (.ref c2), .val (.ref c3), .val (.int (1 : Int32)), .val (.int (1 : Int32)), .unset] [(.long q4), (.long q4)])
  refine own_st (fun _ k => XS.lcmp X100.here hx rfl (hb hby at_299) rfl k) ?_
  show own_Go p e s below _ _ _ T100 (mkF m 300 #[.val (.long q0), .second, .val (.long q1), .second, .val (.long q2), .second, .val (.long q3), .second, .val (.long q4), .second, .val (.long q5), .second, .val (.ref br), .val (.ref bx), .val (.ref by'), .val (.ref c1), .val (.ref c2), .val (.ref c3), .val (.int (1 : Int32)), .val (.int (1 : Int32)), .unset] [(.int (lcmpW q4 q4))])
  refine own_st (fun _ k => XS.ifNo X100.here hx rfl (hb hby at_300) rfl ((if0 _ _).trans (teq ((lw_eq _ _).mpr (rfl : q4 = q4))).2) k) ?_
  show own_Go p e s below _ _ _ T100 (mkF m 303 #[.val (.long q0), .second, .val (.long q1), .second, .val (.long q2), .second, .val (.long q3), .second, .val (.long q4), .second, .val (.long q5), .second, .val (.ref br), .val (.ref bx), .val (.ref by'), .val (.ref c1), .val (.ref c2), .val (.ref c3), .val (.int (1 : Int32)), .val (.int (1 : Int32)), .unset] [])
  refine own_st (fun _ k => XS.aload X100.here hx rfl (hb hby at_303) rfl rfl k) ?_
  show own_Go p e s below _ _ _ T100 (mkF m 305 #[.val (.long q0), .second, .val (.long q1), .second, .val (.long q2), .second, .val (.long q3), .second, .val (.long q4), .second, .val (.long q5), .second, .val (.ref br), .val (.ref bx), .val (.ref by'), .val (.ref c1), .val (.ref c2), .val (.ref c3), .val (.int (1 : Int32)), .val (.int (1 : Int32)), .unset] [(.ref c3)])
  refine own_st (fun _ k => XS.iconst X100.here hx rfl (hb hby at_305) k) ?_
  show own_Go p e s below _ _ _ T100 (mkF m 306 #[.val (.long q0), .second, .val (.long q1), .second, .val (.long q2), .second, .val (.long q3), .second, .val (.long q4), .second, .val (.long q5), .second, .val (.ref br), .val (.ref bx), .val (.ref by'), .val (.ref c1), .val (.ref c2), .val (.ref c3), .val (.int (1 : Int32)), .val (.int (1 : Int32)), .unset] [(.int (4 : Int32)), (.ref c3)])
  refine own_st (own_ldJ X100 hx hZ rfl V_c3 (j := (4 : Int32)) (x := q5) ⟨by decide, by decide⟩ rfl (g := (mkF m 306 #[.val (.long q0), .second, .val (.long q1), .second, .val (.long q2), .second, .val (.long q3), .second, .val (.long q4), .second, .val (.long q5), .second, .val (.ref br), .val (.ref bx), .val (.ref by'), .val (.ref c1), .val (.ref c2), .val (.ref c3), .val (.int (1 : Int32)), .val (.int (1 : Int32)), .unset] [(.int (4 : Int32)), (.ref c3)])) rfl rfl (hb hby at_306)) ?_
  show own_Go p e s below _ _ _ T100 (mkF m 307 #[.val (.long q0), .second, .val (.long q1), .second, .val (.long q2), .second, .val (.long q3), .second, .val (.long q4), .second, .val (.long q5), .second, .val (.ref br), .val (.ref bx), .val (.ref by'), .val (.ref c1), .val (.ref c2), .val (.ref c3), .val (.int (1 : Int32)), .val (.int (1 : Int32)), .unset] [(.long q5)])
  refine own_st (fun _ k => XS.lload X100.here hx rfl (hb hby at_307) rfl k) ?_
  show own_Go p e s below _ _ _ T100 (mkF m 309 #[.val (.long q0), .second, .val (.long q1), .second, .val (.long q2), .second, .val (.long q3), .second, .val (.long q4), .second, .val (.long q5), .second, .val (.ref br), .val (.ref bx), .val (.ref by'), .val (.ref c1), .val (.ref c2), .val (.ref c3), .val (.int (1 : Int32)), .val (.int (1 : Int32)), .unset] [(.long q5), (.long q5)])
  refine own_st (fun _ k => XS.lcmp X100.here hx rfl (hb hby at_309) rfl k) ?_
  show own_Go p e s below _ _ _ T100 (mkF m 310 #[.val (.long q0), .second, .val (.long q1), .second, .val (.long q2), .second, .val (.long q3), .second, .val (.long q4), .second, .val (.long q5), .second, .val (.ref br), .val (.ref bx), .val (.ref by'), .val (.ref c1), .val (.ref c2), .val (.ref c3), .val (.int (1 : Int32)), .val (.int (1 : Int32)), .unset] [(.int (lcmpW q5 q5))])
  refine own_st (fun _ k => XS.ifNo X100.here hx rfl (hb hby at_310) rfl ((if0 _ _).trans (teq ((lw_eq _ _).mpr (rfl : q5 = q5))).2) k) ?_
  show own_Go p e s below _ _ _ T100 (mkF m 313 #[.val (.long q0), .second, .val (.long q1), .second, .val (.long q2), .second, .val (.long q3), .second, .val (.long q4), .second, .val (.long q5), .second, .val (.ref br), .val (.ref bx), .val (.ref by'), .val (.ref c1), .val (.ref c2), .val (.ref c3), .val (.int (1 : Int32)), .val (.int (1 : Int32)), .unset] [])
  refine own_st (fun _ k => XS.aload X100.here hx rfl (hb hby at_313) rfl rfl k) ?_
  show own_Go p e s below _ _ _ T100 (mkF m 315 #[.val (.long q0), .second, .val (.long q1), .second, .val (.long q2), .second, .val (.long q3), .second, .val (.long q4), .second, .val (.long q5), .second, .val (.ref br), .val (.ref bx), .val (.ref by'), .val (.ref c1), .val (.ref c2), .val (.ref c3), .val (.int (1 : Int32)), .val (.int (1 : Int32)), .unset] [(.ref c3)])
  refine own_st (fun _ k => XS.iconst X100.here hx rfl (hb hby at_315) k) ?_
  show own_Go p e s below _ _ _ T100 (mkF m 316 #[.val (.long q0), .second, .val (.long q1), .second, .val (.long q2), .second, .val (.long q3), .second, .val (.long q4), .second, .val (.long q5), .second, .val (.ref br), .val (.ref bx), .val (.ref by'), .val (.ref c1), .val (.ref c2), .val (.ref c3), .val (.int (1 : Int32)), .val (.int (1 : Int32)), .unset] [(.int (5 : Int32)), (.ref c3)])
  refine own_st (own_ldJ X100 hx hZ rfl V_c3 (j := (5 : Int32)) (x := q0) ⟨by decide, by decide⟩ rfl (g := (mkF m 316 #[.val (.long q0), .second, .val (.long q1), .second, .val (.long q2), .second, .val (.long q3), .second, .val (.long q4), .second, .val (.long q5), .second, .val (.ref br), .val (.ref bx), .val (.ref by'), .val (.ref c1), .val (.ref c2), .val (.ref c3), .val (.int (1 : Int32)), .val (.int (1 : Int32)), .unset] [(.int (5 : Int32)), (.ref c3)])) rfl rfl (hb hby at_316)) ?_
  show own_Go p e s below _ _ _ T100 (mkF m 317 #[.val (.long q0), .second, .val (.long q1), .second, .val (.long q2), .second, .val (.long q3), .second, .val (.long q4), .second, .val (.long q5), .second, .val (.ref br), .val (.ref bx), .val (.ref by'), .val (.ref c1), .val (.ref c2), .val (.ref c3), .val (.int (1 : Int32)), .val (.int (1 : Int32)), .unset] [(.long q0)])
  refine own_st (fun _ k => XS.lloadN X100.here hx rfl (hb hby at_317) rfl k) ?_
  show own_Go p e s below _ _ _ T100 (mkF m 318 #[.val (.long q0), .second, .val (.long q1), .second, .val (.long q2), .second, .val (.long q3), .second, .val (.long q4), .second, .val (.long q5), .second, .val (.ref br), .val (.ref bx), .val (.ref by'), .val (.ref c1), .val (.ref c2), .val (.ref c3), .val (.int (1 : Int32)), .val (.int (1 : Int32)), .unset] [(.long q0), (.long q0)])
  refine own_st (fun _ k => XS.lcmp X100.here hx rfl (hb hby at_318) rfl k) ?_
  show own_Go p e s below _ _ _ T100 (mkF m 319 #[.val (.long q0), .second, .val (.long q1), .second, .val (.long q2), .second, .val (.long q3), .second, .val (.long q4), .second, .val (.long q5), .second, .val (.ref br), .val (.ref bx), .val (.ref by'), .val (.ref c1), .val (.ref c2), .val (.ref c3), .val (.int (1 : Int32)), .val (.int (1 : Int32)), .unset] [(.int (lcmpW q0 q0))])
  refine own_st (fun _ k => XS.ifNo X100.here hx rfl (hb hby at_319) rfl ((if0 _ _).trans (teq ((lw_eq _ _).mpr (rfl : q0 = q0))).2) k) ?_
  show own_Go p e s below _ _ _ T100 (mkF m 322 #[.val (.long q0), .second, .val (.long q1), .second, .val (.long q2), .second, .val (.long q3), .second, .val (.long q4), .second, .val (.long q5), .second, .val (.ref br), .val (.ref bx), .val (.ref by'), .val (.ref c1), .val (.ref c2), .val (.ref c3), .val (.int (1 : Int32)), .val (.int (1 : Int32)), .unset] [])
  refine own_st (fun _ k => XS.iconst X100.here hx rfl (hb hby at_322) k) ?_
  show own_Go p e s below _ _ _ T100 (mkF m 323 #[.val (.long q0), .second, .val (.long q1), .second, .val (.long q2), .second, .val (.long q3), .second, .val (.long q4), .second, .val (.long q5), .second, .val (.ref br), .val (.ref bx), .val (.ref by'), .val (.ref c1), .val (.ref c2), .val (.ref c3), .val (.int (1 : Int32)), .val (.int (1 : Int32)), .unset] [(.int (1 : Int32))])
  refine own_st (fun _ k => XS.goto X100.here hx rfl (pc0 := 323) (pc' := 327) rfl (hb hby at_323) (by decide) (by decide) k) ?_
  show own_Go p e s below _ _ _ T100 (mkF m 327 #[.val (.long q0), .second, .val (.long q1), .second, .val (.long q2), .second, .val (.long q3), .second, .val (.long q4), .second, .val (.long q5), .second, .val (.ref br), .val (.ref bx), .val (.ref by'), .val (.ref c1), .val (.ref c2), .val (.ref c3), .val (.int (1 : Int32)), .val (.int (1 : Int32)), .unset] [(.int (1 : Int32))])
  refine own_st (fun _ k => XS.istore X100.here hx rfl (hb hby at_327) rfl (l' := #[.val (.long q0), .second, .val (.long q1), .second, .val (.long q2), .second, .val (.long q3), .second, .val (.long q4), .second, .val (.long q5), .second, .val (.ref br), .val (.ref bx), .val (.ref by'), .val (.ref c1), .val (.ref c2), .val (.ref c3), .val (.int (1 : Int32)), .val (.int (1 : Int32)), .val (.int (1 : Int32))]) rfl k) ?_
  show own_Go p e s below _ _ _ T100 (mkF m 329 #[.val (.long q0), .second, .val (.long q1), .second, .val (.long q2), .second, .val (.long q3), .second, .val (.long q4), .second, .val (.long q5), .second, .val (.ref br), .val (.ref bx), .val (.ref by'), .val (.ref c1), .val (.ref c2), .val (.ref c3), .val (.int (1 : Int32)), .val (.int (1 : Int32)), .val (.int (1 : Int32))] [])
  refine own_st (fun _ k => XS.iload X100.here hx rfl (hb hby at_329) rfl k) ?_
  show own_Go p e s below _ _ _ T100 (mkF m 331 #[.val (.long q0), .second, .val (.long q1), .second, .val (.long q2), .second, .val (.long q3), .second, .val (.long q4), .second, .val (.long q5), .second, .val (.ref br), .val (.ref bx), .val (.ref by'), .val (.ref c1), .val (.ref c2), .val (.ref c3), .val (.int (1 : Int32)), .val (.int (1 : Int32)), .val (.int (1 : Int32))] [(.int (1 : Int32))])
  refine own_st (fun _ k => XS.ifNo X100.here hx rfl (hb hby at_331) rfl (by decide) k) ?_
  show own_Go p e s below _ _ _ T100 (mkF m 334 #[.val (.long q0), .second, .val (.long q1), .second, .val (.long q2), .second, .val (.long q3), .second, .val (.long q4), .second, .val (.long q5), .second, .val (.ref br), .val (.ref bx), .val (.ref by'), .val (.ref c1), .val (.ref c2), .val (.ref c3), .val (.int (1 : Int32)), .val (.int (1 : Int32)), .val (.int (1 : Int32))] [])
  refine own_st (fun _ k => XS.iload X100.here hx rfl (hb hby at_334) rfl k) ?_
  show own_Go p e s below _ _ _ T100 (mkF m 336 #[.val (.long q0), .second, .val (.long q1), .second, .val (.long q2), .second, .val (.long q3), .second, .val (.long q4), .second, .val (.long q5), .second, .val (.ref br), .val (.ref bx), .val (.ref by'), .val (.ref c1), .val (.ref c2), .val (.ref c3), .val (.int (1 : Int32)), .val (.int (1 : Int32)), .val (.int (1 : Int32))] [(.int (1 : Int32))])
  refine own_st (fun _ k => XS.ifNo X100.here hx rfl (hb hby at_336) rfl (by decide) k) ?_
  show own_Go p e s below _ _ _ T100 (mkF m 339 #[.val (.long q0), .second, .val (.long q1), .second, .val (.long q2), .second, .val (.long q3), .second, .val (.long q4), .second, .val (.long q5), .second, .val (.ref br), .val (.ref bx), .val (.ref by'), .val (.ref c1), .val (.ref c2), .val (.ref c3), .val (.int (1 : Int32)), .val (.int (1 : Int32)), .val (.int (1 : Int32))] [])
  refine own_st (fun _ k => XS.iload X100.here hx rfl (hb hby at_339) rfl k) ?_
  show own_Go p e s below _ _ _ T100 (mkF m 341 #[.val (.long q0), .second, .val (.long q1), .second, .val (.long q2), .second, .val (.long q3), .second, .val (.long q4), .second, .val (.long q5), .second, .val (.ref br), .val (.ref bx), .val (.ref by'), .val (.ref c1), .val (.ref c2), .val (.ref c3), .val (.int (1 : Int32)), .val (.int (1 : Int32)), .val (.int (1 : Int32))] [(.int (1 : Int32))])
  refine own_st (fun _ k => XS.ifNo X100.here hx rfl (hb hby at_341) rfl (by decide) k) ?_
  show own_Go p e s below _ _ _ T100 (mkF m 344 #[.val (.long q0), .second, .val (.long q1), .second, .val (.long q2), .second, .val (.long q3), .second, .val (.long q4), .second, .val (.long q5), .second, .val (.ref br), .val (.ref bx), .val (.ref by'), .val (.ref c1), .val (.ref c2), .val (.ref c3), .val (.int (1 : Int32)), .val (.int (1 : Int32)), .val (.int (1 : Int32))] [])
  refine own_st (fun _ k => XS.iconst X100.here hx rfl (hb hby at_344) k) ?_
  show own_Go p e s below _ _ _ T100 (mkF m 345 #[.val (.long q0), .second, .val (.long q1), .second, .val (.long q2), .second, .val (.long q3), .second, .val (.long q4), .second, .val (.long q5), .second, .val (.ref br), .val (.ref bx), .val (.ref by'), .val (.ref c1), .val (.ref c2), .val (.ref c3), .val (.int (1 : Int32)), .val (.int (1 : Int32)), .val (.int (1 : Int32))] [(.int (1 : Int32))])
  refine own_st (fun _ k => XS.goto X100.here hx rfl (pc0 := 345) (pc' := 349) rfl (hb hby at_345) (by decide) (by decide) k) ?_
  show own_Go p e s below _ _ _ T100 (mkF m 349 #[.val (.long q0), .second, .val (.long q1), .second, .val (.long q2), .second, .val (.long q3), .second, .val (.long q4), .second, .val (.long q5), .second, .val (.ref br), .val (.ref bx), .val (.ref by'), .val (.ref c1), .val (.ref c2), .val (.ref c3), .val (.int (1 : Int32)), .val (.int (1 : Int32)), .val (.int (1 : Int32))] [(.int (1 : Int32))])
  exact own_retN X100 hx hlk (t := .boolean) hret (by simp) (hb hby at_349) (z' := (1 : Int32)) rfl (by decide) (by decide) ⟨rfl, N100⟩
set_option maxRecDepth 65536 in
set_option maxHeartbeats 40000000 in
theorem comes_1 {Post : Tables → Env → Array Value → State → Outcome → State → Prop} (hpost : ∀ tb e args s v u, (limb_1_1.after args s (.returned v) u = true ∧ limb_1_2.after args s (.returned v) u = true ∧ True) → FrameEnd s (.returned v) u (Jvm.fieldLocs frame_1_writes args s ++ Jvm.arrayLocs frame_1_arrays args s ++ Jvm.staticLocs frame_1_statics s) 32 192 → Post tb e args s (.returned v) u) :
    ArmFor flags0 classFile x code maxLocals ret World_1 tables_1 room_1 Calls_1 rest_1 Pre_1 Post := by
  intro l hfl _ _ p e ha hc hk s m args below hf hA hF happ hP
  obtain ⟨hcalls, hrest, hpre⟩ := hP
  obtain ⟨-, -, -, hnamed, -, -, -, hat⟩ := (Spec.applies_iff hf).mp happ
  obtain ⟨hg, hn⟩ := and_e (Cond.before_iff.mp (show (Jvm.Cond.and given_1 narrow_1).before args s = true from hpre))
  obtain ⟨h1, hr0⟩ := and_e hg
  obtain ⟨w0, w1, w2, w3, w4, w5, rfl⟩ : ∃ w0 w1 w2 w3 w4 w5 : Value, args = #[w0, w1, w2, w3, w4, w5] := by
    have hs : args.size = 6 := by simpa [Cond.value, given_1] using h1
    obtain ⟨L⟩ := args
    match L, hs with
    | [w0, w1, w2, w3, w4, w5], _ => exact ⟨w0, w1, w2, w3, w4, w5, rfl⟩
  have hw := fun d (hd : d ∈ tables_1) => atoms_spec (ws := Jvm.Cond.code x code maxLocals ret :: tables_1) hat d (List.mem_cons_of_mem _ hd)
  obtain ⟨ha0, hr1⟩ := and_e hr0
  obtain ⟨i0, e0⟩ := isL_v ha0
  obtain rfl : w0 = (.long i0) := Option.some.inj e0
  obtain ⟨ha1, hr2⟩ := and_e hr1
  obtain ⟨i1, e1⟩ := isL_v ha1
  obtain rfl : w1 = (.long i1) := Option.some.inj e1
  obtain ⟨ha2, hr3⟩ := and_e hr2
  obtain ⟨i2, e2⟩ := isL_v ha2
  obtain rfl : w2 = (.long i2) := Option.some.inj e2
  obtain ⟨ha3, hr4⟩ := and_e hr3
  obtain ⟨i3, e3⟩ := isL_v ha3
  obtain rfl : w3 = (.long i3) := Option.some.inj e3
  obtain ⟨ha4, hr5⟩ := and_e hr4
  obtain ⟨i4, e4⟩ := isL_v ha4
  obtain rfl : w4 = (.long i4) := Option.some.inj e4
  obtain ⟨i5, e5⟩ := isL_v hr5
  obtain rfl : w5 = (.long i5) := Option.some.inj e5
  obtain ⟨n, o, h1, h2, h3, _, L, rfl, ⟨rfl, N⟩, hq⟩ := rm0 l s _ hw tables_1 i0 i1 i2 i3 i4 i5 s.heap s.heap.size (Nat.le_refl _) p e ha hc hk s m _ below hf ((Spec.applies_iff_loose hf).mp happ).1 ⟨rfl, State.Warmed39.refl s, rfl⟩ trivial
  refine ⟨n, _, h1, h2, h3, hpost _ _ _ _ _ _ ⟨Cond.after_iff.mpr rfl, Cond.after_iff.mpr (eq_i res_at (Term.int_eval (1)) rfl), trivial⟩ ⟨hq.1, hq.2.1, (hq.2.2.sift fun y hy => Or.inr (N y hy)).mono (by decide) (by decide)⟩⟩
theorem main_1_1 : Claimed_1_1 := comes_1 fun _ _ _ _ _ _ h hF => ⟨h.1, hF⟩
theorem main_1_2 : Claimed_1_2 := comes_1 fun _ _ _ _ _ _ h hF => ⟨h.2.1, hF⟩
end Jvm.Pilot.@@N@@
namespace Jvm.Pilot.@@N@@
open Jvm Jvm.ClassFile Sem Op Lib Jvm.Free Jvm.Stand Jvm.Pilot.@@N@@.Jvm.D
/-! MADE BY PROGRAM (witnessworld.py) out of the Statement's table words and the real class files: 11 classes; the members and pool entries that the words name. The judged class is class 1, her method 1. -/
namespace start1
open Jvm.ClassFile
def u (s : String) : CpInfo := .utf8 (stringToUtf16 s)
/-- a pool by its gaps: so many unusable entries, then the entry; so many at the end -/
def gap : Nat → List CpInfo → List CpInfo
  | 0, r => r
  | n + 1, r => .unusable :: gap n r
def poolList (es : List (Nat × CpInfo)) (last : Nat) : List CpInfo := es.foldr (fun e r => gap e.1 (e.2 :: r)) (gap last [])
def pool (es : List (Nat × CpInfo)) (last : Nat) : Array CpInfo := ⟨poolList es last⟩
def fileOf (pool : Array CpInfo) (this : Nat) (attrs : Array Attribute := #[]) (ms : Array MethodInfo := #[]) (fl : Nat := 33) (sup : Nat := 0) (ifs : Array Nat := #[]) (fds : Array FieldInfo := #[]) : ClassFile where
  minorVersion := 0
  majorVersion := 65
  constantPool := pool
  accessFlags := fl
  thisClass := this
  superClass := sup
  interfaces := ifs
  fields := fds
  methods := ms
  attributes := attrs
def plain (name : String) (sup : Option ClassId) : Class where
  name := name
  kind := .ordinary
  loader := none
  accessFlags := 33
  super := sup
  interfaces := #[]
  cf := none
  fields := #[]
  methods := #[]
  instanceTypes := #[]
  staticTypes := #[]
  resolved := #[]
  callSites := []
  init := .initialized
  statics := none
  mirror := none

def pool0 : Array CpInfo := pool [(5, u "<init>"), (0, u "()V"), (1, .class_ 10), (1, u "java/lang/Object"), (85, u "clone"), (0, u "()Ljava/lang/Object;")] 26

def k0c0 : Code := { maxStack := 0, maxLocals := 1, code := object_method_1_code, exceptionTable := #[], attributes := #[] }
def k0m0 : Method := { name := "<init>", desc := "()V", sig := { parameters := [], returnType := none }, accessFlags := 1, code := some k0c0 }
def k0m1 : Method := { name := "clone", desc := "()Ljava/lang/Object;", sig := { parameters := [], returnType := some (.object "java/lang/Object") }, accessFlags := 260, code := none }
/-- java/lang/Object -/
def k0 : Class := { plain "java/lang/Object" none with
  accessFlags := 33
  interfaces := #[]
  cf := some (fileOf pool0 8 #[] #[{ accessFlags := 1, nameIndex := 5, descriptorIndex := 6, attributes := #[] }, { accessFlags := 260, nameIndex := 96, descriptorIndex := 97, attributes := #[] }] 33 0 #[] #[])
  fields := #[]
  methods := #[k0m0, k0m1]
  instanceTypes := #[]
  staticTypes := #[]
  resolved := Array.replicate 124 none
  statics := none }

def pool1 : Array CpInfo := pool [(2, .class_ 4), (0, .nameAndType 5 6), (0, u "java/lang/Object"), (0, u "<init>"), (0, u "()V"), (0, .class_ 8), (0, u "com/example/coterie/coterie/network/peer/MessageCount"), (0, .methodref 7 3), (0, .methodref 7 11), (0, .nameAndType 12 13), (0, u "of"), (0, u "([J)Lcom/example/coterie/coterie/network/peer/MessageCount;"), (0, .methodref 7 15), (0, .nameAndType 16 17), (0, u "add"), (0, u "(Lcom/example/coterie/coterie/network/peer/MessageCount;)V"), (0, .methodref 7 19), (0, .nameAndType 20 21), (0, u "counts"), (0, u "()[J"), (0, .class_ 23), (0, u "com/example/coterie/coterie/network/peer/MessageCountAddPinLaw"), (2, u "law"), (0, u "(JJJJJJ)Z")] 5

def k1m0 : Method := { name := "<init>", desc := "()V", sig := { parameters := [], returnType := none }, accessFlags := 1, code := none }
def k1c1 : Code := { maxStack := 6, maxLocals := 21, code := code, exceptionTable := #[], attributes := #[] }
def k1m1 : Method := { name := "law", desc := "(JJJJJJ)Z", sig := { parameters := [.long, .long, .long, .long, .long, .long], returnType := some .boolean }, accessFlags := 9, code := some k1c1 }
/-- com/example/coterie/coterie/network/peer/MessageCountAddPinLaw -/
def k1 : Class := { plain "com/example/coterie/coterie/network/peer/MessageCountAddPinLaw" (some 0) with
  accessFlags := 49
  interfaces := #[]
  cf := some (fileOf pool1 22 #[] #[{ accessFlags := 1, nameIndex := 5, descriptorIndex := 6, attributes := #[] }, { accessFlags := 9, nameIndex := 26, descriptorIndex := 27, attributes := #[] }] 49 2 #[] #[])
  fields := #[]
  methods := #[k1m0, k1m1]
  instanceTypes := #[]
  staticTypes := #[]
  resolved := Array.replicate 33 none
  statics := none }

def pool2 : Array CpInfo := pool [(1, .class_ 2), (0, u "com/example/coterie/coterie/network/peer/MessageCount"), (0, .methodref 1 4), (0, .nameAndType 5 6), (0, u "<init>"), (0, u "([J)V"), (0, .methodref 8 9), (0, .class_ 10), (0, .nameAndType 5 11), (0, u "java/lang/Object"), (0, u "()V"), (0, .fieldref 1 13), (0, .nameAndType 14 15), (0, u "counts"), (0, u "[J"), (9, .methodref 26 27), (0, .class_ 15), (0, .nameAndType 28 29), (0, u "clone"), (0, u "()Ljava/lang/Object;"), (33, u "SENT"), (0, u "I"), (2, u "SOURCE_QUERIES"), (1, u "CONTROL_MESSAGES"), (1, u "APPLIED"), (1, u "INITIAL_ROWS"), (1, u "CONTENTS"), (1, u "COUNTS"), (3, u "of"), (0, u "([J)Lcom/example/coterie/coterie/network/peer/MessageCount;"), (3, u "add"), (0, u "(Lcom/example/coterie/coterie/network/peer/MessageCount;)V"), (0, u "()[J")] 35

def k2c0 : Code := { maxStack := 2, maxLocals := 1, code := prog_178_method_1_code, exceptionTable := #[], attributes := #[] }
def k2m0 : Method := { name := "<init>", desc := "()V", sig := { parameters := [], returnType := none }, accessFlags := 1, code := some k2c0 }
def k2c1 : Code := { maxStack := 2, maxLocals := 2, code := prog_178_method_2_code, exceptionTable := #[], attributes := #[] }
def k2m1 : Method := { name := "<init>", desc := "([J)V", sig := { parameters := [(.array .long)], returnType := none }, accessFlags := 2, code := some k2c1 }
def k2c2 : Code := { maxStack := 3, maxLocals := 1, code := prog_178_method_3_code, exceptionTable := #[], attributes := #[] }
def k2m2 : Method := { name := "of", desc := "([J)Lcom/example/coterie/coterie/network/peer/MessageCount;", sig := { parameters := [(.array .long)], returnType := some (.object "com/example/coterie/coterie/network/peer/MessageCount") }, accessFlags := 137, code := some k2c2 }
def k2c3 : Code := { maxStack := 6, maxLocals := 3, code := prog_178_method_5_code, exceptionTable := #[], attributes := #[] }
def k2m3 : Method := { name := "add", desc := "(Lcom/example/coterie/coterie/network/peer/MessageCount;)V", sig := { parameters := [(.object "com/example/coterie/coterie/network/peer/MessageCount")], returnType := none }, accessFlags := 1, code := some k2c3 }
def k2c4 : Code := { maxStack := 1, maxLocals := 1, code := prog_178_method_6_code, exceptionTable := #[], attributes := #[] }
def k2m4 : Method := { name := "counts", desc := "()[J", sig := { parameters := [], returnType := some (.array .long) }, accessFlags := 1, code := some k2c4 }
/-- com/example/coterie/coterie/network/peer/MessageCount -/
def k2 : Class := { plain "com/example/coterie/coterie/network/peer/MessageCount" (some 0) with
  accessFlags := 49
  interfaces := #[]
  cf := some (fileOf pool2 1 #[] #[{ accessFlags := 1, nameIndex := 5, descriptorIndex := 11, attributes := #[] }, { accessFlags := 2, nameIndex := 5, descriptorIndex := 6, attributes := #[] }, { accessFlags := 137, nameIndex := 81, descriptorIndex := 82, attributes := #[] }, { accessFlags := 1, nameIndex := 86, descriptorIndex := 87, attributes := #[] }, { accessFlags := 1, nameIndex := 14, descriptorIndex := 88, attributes := #[] }] 49 8 #[] #[{ accessFlags := 26, nameIndex := 63, descriptorIndex := 64, attributes := #[] }, { accessFlags := 26, nameIndex := 67, descriptorIndex := 64, attributes := #[] }, { accessFlags := 26, nameIndex := 69, descriptorIndex := 64, attributes := #[] }, { accessFlags := 26, nameIndex := 71, descriptorIndex := 64, attributes := #[] }, { accessFlags := 26, nameIndex := 73, descriptorIndex := 64, attributes := #[] }, { accessFlags := 26, nameIndex := 75, descriptorIndex := 64, attributes := #[] }, { accessFlags := 26, nameIndex := 77, descriptorIndex := 64, attributes := #[] }, { accessFlags := 18, nameIndex := 14, descriptorIndex := 15, attributes := #[] }])
  fields := #[{ name := "SENT", type := .int, accessFlags := 26, slot := 0, constantValue := 0 }, { name := "SOURCE_QUERIES", type := .int, accessFlags := 26, slot := 1, constantValue := 0 }, { name := "CONTROL_MESSAGES", type := .int, accessFlags := 26, slot := 2, constantValue := 0 }, { name := "APPLIED", type := .int, accessFlags := 26, slot := 3, constantValue := 0 }, { name := "INITIAL_ROWS", type := .int, accessFlags := 26, slot := 4, constantValue := 0 }, { name := "CONTENTS", type := .int, accessFlags := 26, slot := 5, constantValue := 0 }, { name := "COUNTS", type := .int, accessFlags := 26, slot := 6, constantValue := 0 }, { name := "counts", type := (.array .long), accessFlags := 18, slot := 0, constantValue := 0 }]
  methods := #[k2m0, k2m1, k2m2, k2m3, k2m4]
  instanceTypes := #[(.array .long)]
  staticTypes := #[.int, .int, .int, .int, .int, .int, .int]
  resolved := Array.replicate 124 none
  statics := none }

def pool3 : Array CpInfo := pool [(1, .class_ 2), (0, u "java/lang/Cloneable"), (0, .class_ 4), (0, u "java/lang/Object")] 2

/-- java/lang/Cloneable -/
def k3 : Class := { plain "java/lang/Cloneable" (some 0) with
  accessFlags := 1537
  interfaces := #[]
  cf := some (fileOf pool3 1 #[] #[] 1537 3 #[] #[])
  fields := #[]
  methods := #[]
  instanceTypes := #[]
  staticTypes := #[]
  resolved := Array.replicate 7 none
  statics := none }

def pool4 : Array CpInfo := pool [(1, u "java/io/Serializable"), (0, .class_ 1), (0, u "java/lang/Object"), (0, .class_ 3)] 3

/-- java/io/Serializable -/
def k4 : Class := { plain "java/io/Serializable" (some 0) with
  accessFlags := 1537
  interfaces := #[]
  cf := some (fileOf pool4 2 #[] #[] 1537 4 #[] #[])
  fields := #[]
  methods := #[]
  instanceTypes := #[]
  staticTypes := #[]
  resolved := Array.replicate 8 none
  statics := none }

/-- the primitive byte -/
def k5 : Class := { plain "byte" none with kind := .primitive 'B', accessFlags := 0x411 }
/-- [B -/
def k6 : Class := { plain "[B" (some 0) with kind := .array 5 .byte, interfaces := #[3, 4], accessFlags := 1041 }

/-- the primitive int -/
def k7 : Class := { plain "int" none with kind := .primitive 'I', accessFlags := 0x411 }
/-- [I -/
def k8 : Class := { plain "[I" (some 0) with kind := .array 7 .int, interfaces := #[3, 4], accessFlags := 1041 }

/-- the primitive long -/
def k9 : Class := { plain "long" none with kind := .primitive 'J', accessFlags := 0x411 }
/-- [J -/
def k10 : Class := { plain "[J" (some 0) with kind := .array 9 .long, interfaces := #[3, 4], accessFlags := 1041 }

def heap : Heap := #[]
def classes : Array Class := #[k0, k1, k2, k3, k4, k5, k6, k7, k8, k9, k10]
def interned : List (Array UInt16 × Addr) := []
def slotsUsed : Nat := 0
def theMethod : MethodId := ⟨1, 1⟩
def args0 : Array Value := #[.long 7, .long 7, .long 7, .long 7, .long 7, .long 7]
def aboutOver (below : List Frame) : State where
  vm := { classes := classes, interned := interned.toArray }
  heap := heap
  slotsUsed := slotsUsed
  threads := #[{ frames := .invoking theMethod args0 :: below }]
def below0 : List Frame := [.native { method := ⟨0, 0⟩, args := #[] }]
def about1 : State := aboutOver below0
def p0 : Program := .bare "" "" ""
def e0 : Env := launch0.env 0 0 0
theorem w_frames : about1.frames = Frame.invoking theMethod args0 :: below0 := rfl
set_option maxRecDepth 65536 in
theorem w_args : argsFit about1.vm theMethod args0 = true := by decide +kernel
set_option maxRecDepth 65536 in
theorem w_heap : heapFits about1 = true := by decide +kernel
set_option maxRecDepth 65536 in
theorem w_runnable : about1.curStatus? = some .runnable := by decide +kernel
set_option maxRecDepth 65536 in
theorem w_alone : about1.alone = true := by decide +kernel
set_option maxRecDepth 65536 in
theorem w_named : about1.methodNamed? x = some theMethod := by decide +kernel
set_option maxRecDepth 65536 in
theorem w_hears : about1.hears theMethod below0 = true := by decide +kernel
set_option maxRecDepth 65536 in
theorem w_ripe : about1.ripe theMethod args0 below0 = true := by decide +kernel
theorem w_running : about1.status = .running := rfl
set_option maxRecDepth 65536 in
theorem w_room : about1.hasRoom e0.platform room_1 = true :=
  launch0.hasRoom_least _ room_1 (by decide +kernel) (by decide +kernel) (by decide +kernel) (by decide +kernel) (by decide +kernel) (by decide +kernel)
theorem allAtoms_all (ts : List Jvm.Cond) (a : Array Jvm.Value) (st : Jvm.State) : (allAtoms ts).before a st = ts.all (fun c => c.before a st) := by
  induction ts with
  | nil => rfl
  | cons c t ih =>
    show (Jvm.Cond.and c (allAtoms t)).before a st = _
    rw [Jvm.Cond.before_and, ih, List.all_cons]
def words1 : List Jvm.Cond := Jvm.Cond.code x code maxLocals ret :: tables_1
/-- a 'code' word, met by the world's own term for the bytes: nothing is compared byte by byte -/
theorem code_word {y : MethodName} {bytes : ByteArray} {mx : Nat} {rt : Option FieldType} {a : Array Value} {s : State} {m : MethodId} {meth : Method} {c : Code} (h1 : s.methodNamed? y = some m) (h2 : s.vm.method? m = some meth) (h3 : meth.code = some c) (h4 : c.code = bytes)
    (h5 : (c.maxLocals == mx && c.exceptionTable.isEmpty && decide (c.maxStack ≤ mostOperands) && decide (meth.sig.returnType = rt) && !meth.locks && decide (parseMethodDescriptor y.desc = some meth.sig)) = true) : (Jvm.Cond.code y bytes mx rt).before a s = true := by
  simp only [Bool.and_eq_true, beq_iff_eq, Bool.not_eq_true', decide_eq_true_eq] at h5
  obtain ⟨⟨⟨⟨⟨g1, g2⟩, g3⟩, g4⟩, g5⟩, g6⟩ := h5
  simp [Cond.before, Cond.holds, Cond.value, h1, h2, h3, h4, g1, g2, g3, g4, g5, g6]
def isCode : Jvm.Cond → Bool
  | .code _ _ _ _ => true
  | _ => false
theorem all_split {L : List Jvm.Cond} {P : Jvm.Cond → Bool} (h1 : L.all (fun c => isCode c || P c) = true) (h2 : ∀ c ∈ L.filter isCode, P c = true) : L.all P = true := by
  refine List.all_eq_true.mpr fun c hc => ?_
  have h := List.all_eq_true.mp h1 c hc
  rcases Bool.eq_false_or_eq_true (isCode c) with hi | hi
  · exact h2 c (List.mem_filter.mpr ⟨hc, hi⟩)
  · simpa [hi] using h
set_option maxRecDepth 65536 in
theorem w_c0 : (Jvm.Cond.code x code maxLocals ret).before args0 about1 = true := code_word (m := ⟨1, 1⟩) (meth := k1m1) (c := k1c1) (by decide +kernel) rfl rfl rfl (by decide +kernel)
set_option maxRecDepth 65536 in
theorem w_c1 : (Jvm.Cond.code ({ cls := "com/example/coterie/coterie/network/peer/MessageCount", name := "<init>", desc := "()V" } : Jvm.MethodName) prog_178_method_1_code (1 : Nat) (Option.none : Option Jvm.ClassFile.FieldType)).before args0 about1 = true := code_word (m := ⟨2, 0⟩) (meth := k2m0) (c := k2c0) (by decide +kernel) rfl rfl rfl (by decide +kernel)
set_option maxRecDepth 65536 in
theorem w_c2 : (Jvm.Cond.code ({ cls := "com/example/coterie/coterie/network/peer/MessageCount", name := "<init>", desc := "([J)V" } : Jvm.MethodName) prog_178_method_2_code (2 : Nat) (Option.none : Option Jvm.ClassFile.FieldType)).before args0 about1 = true := code_word (m := ⟨2, 1⟩) (meth := k2m1) (c := k2c1) (by decide +kernel) rfl rfl rfl (by decide +kernel)
set_option maxRecDepth 65536 in
theorem w_c3 : (Jvm.Cond.code ({ cls := "java/lang/Object", name := "<init>", desc := "()V" } : Jvm.MethodName) object_method_1_code (1 : Nat) (Option.none : Option Jvm.ClassFile.FieldType)).before args0 about1 = true := code_word (m := ⟨0, 0⟩) (meth := k0m0) (c := k0c0) (by decide +kernel) rfl rfl rfl (by decide +kernel)
set_option maxRecDepth 65536 in
theorem w_c4 : (Jvm.Cond.code ({ cls := "com/example/coterie/coterie/network/peer/MessageCount", name := "of", desc := "([J)Lcom/example/coterie/coterie/network/peer/MessageCount;" } : Jvm.MethodName) prog_178_method_3_code (1 : Nat) (Option.some (Jvm.ClassFile.FieldType.object "com/example/coterie/coterie/network/peer/MessageCount"))).before args0 about1 = true := code_word (m := ⟨2, 2⟩) (meth := k2m2) (c := k2c2) (by decide +kernel) rfl rfl rfl (by decide +kernel)
set_option maxRecDepth 65536 in
theorem w_c5 : (Jvm.Cond.code ({ cls := "com/example/coterie/coterie/network/peer/MessageCount", name := "add", desc := "(Lcom/example/coterie/coterie/network/peer/MessageCount;)V" } : Jvm.MethodName) prog_178_method_5_code (3 : Nat) (Option.none : Option Jvm.ClassFile.FieldType)).before args0 about1 = true := code_word (m := ⟨2, 3⟩) (meth := k2m3) (c := k2c3) (by decide +kernel) rfl rfl rfl (by decide +kernel)
set_option maxRecDepth 65536 in
theorem w_c6 : (Jvm.Cond.code ({ cls := "com/example/coterie/coterie/network/peer/MessageCount", name := "counts", desc := "()[J" } : Jvm.MethodName) prog_178_method_6_code (1 : Nat) (Option.some (Jvm.ClassFile.FieldType.array Jvm.ClassFile.FieldType.long))).before args0 about1 = true := code_word (m := ⟨2, 4⟩) (meth := k2m4) (c := k2c4) (by decide +kernel) rfl rfl rfl (by decide +kernel)
def codes1 : List Jvm.Cond := [Jvm.Cond.code x code maxLocals ret, Jvm.Cond.code ({ cls := "com/example/coterie/coterie/network/peer/MessageCount", name := "<init>", desc := "()V" } : Jvm.MethodName) prog_178_method_1_code (1 : Nat) (Option.none : Option Jvm.ClassFile.FieldType), Jvm.Cond.code ({ cls := "com/example/coterie/coterie/network/peer/MessageCount", name := "<init>", desc := "([J)V" } : Jvm.MethodName) prog_178_method_2_code (2 : Nat) (Option.none : Option Jvm.ClassFile.FieldType), Jvm.Cond.code ({ cls := "java/lang/Object", name := "<init>", desc := "()V" } : Jvm.MethodName) object_method_1_code (1 : Nat) (Option.none : Option Jvm.ClassFile.FieldType), Jvm.Cond.code ({ cls := "com/example/coterie/coterie/network/peer/MessageCount", name := "of", desc := "([J)Lcom/example/coterie/coterie/network/peer/MessageCount;" } : Jvm.MethodName) prog_178_method_3_code (1 : Nat) (Option.some (Jvm.ClassFile.FieldType.object "com/example/coterie/coterie/network/peer/MessageCount")), Jvm.Cond.code ({ cls := "com/example/coterie/coterie/network/peer/MessageCount", name := "add", desc := "(Lcom/example/coterie/coterie/network/peer/MessageCount;)V" } : Jvm.MethodName) prog_178_method_5_code (3 : Nat) (Option.none : Option Jvm.ClassFile.FieldType), Jvm.Cond.code ({ cls := "com/example/coterie/coterie/network/peer/MessageCount", name := "counts", desc := "()[J" } : Jvm.MethodName) prog_178_method_6_code (1 : Nat) (Option.some (Jvm.ClassFile.FieldType.array Jvm.ClassFile.FieldType.long))]
set_option maxRecDepth 65536 in
theorem codes_eq : words1.filter isCode = codes1 := rfl
theorem w_codes : ∀ c ∈ words1.filter isCode, c.before args0 about1 = true := by
  rw [codes_eq]
  intro c hc
  simp only [codes1, List.mem_cons, List.not_mem_nil, or_false] at hc
  rcases hc with rfl | rfl | rfl | rfl | rfl | rfl | rfl
  · exact w_c0
  · exact w_c1
  · exact w_c2
  · exact w_c3
  · exact w_c4
  · exact w_c5
  · exact w_c6
set_option maxRecDepth 65536 in
theorem w_t1 : (words1.take 24).all (fun c => isCode c || c.before args0 about1) = true := by decide +kernel
set_option maxRecDepth 65536 in
theorem w_t2 : (words1.drop 24).all (fun c => isCode c || c.before args0 about1) = true := by decide +kernel
theorem w_tables : (allAtoms (Jvm.Cond.code x code maxLocals ret :: tables_1)).before args0 about1 = true := by
  rw [allAtoms_all]
  show words1.all (fun c => c.before args0 about1) = true
  refine all_split ?_ w_codes
  rw [← List.take_append_drop 24 words1, List.all_append, w_t1, w_t2]
  rfl
set_option maxRecDepth 65536 in
theorem w_case : (Jvm.Cond.and given_1 narrow_1).before args0 about1 = true := by decide +kernel
theorem w_applies : (headSpec (Jvm.Cond.code x code maxLocals ret :: tables_1) room_1).applies x e0.platform about1 = true :=
  (Spec.applies_iff w_frames).mpr ⟨w_running, w_runnable, w_alone, w_named, w_hears, w_ripe, w_room, w_tables⟩
theorem atStart : AtStart classFile x code maxLocals ret World_1 tables_1 room_1 Calls_1 rest_1 Pre_1 launch0 p0 e0 about1 theMethod args0 below0 :=
  ⟨lists_1, trivial, launch0.admits_env _ _ _, launch0.least_env, fairChoices_fair.cas, fairChoices_fair.clock, w_frames, w_args, w_heap, w_applies, trivial, trivial, w_case⟩
end start1
theorem witness_1 : WitnessClaimed_1 := ⟨start1.p0, start1.e0, start1.about1, start1.theMethod, start1.args0, start1.below0, start1.atStart⟩
end Jvm.Pilot.@@N@@
