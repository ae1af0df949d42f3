import JvmDerived
import JvmDerived.Pilot.@@N@@Statement
import JvmDerived.Pilot.@@N@@Code
set_option linter.unusedVariables false
set_option linter.unusedSimpArgs false
namespace Jvm.Pilot.@@N@@
open Jvm Jvm.ClassFile Sem Op Lib Jvm.Free Jvm.Stand Jvm.LawKit Jvm.RoadKit Bundle Jvm.Pilot.@@N@@.Jvm.D
/-! the walk in the form of what is still to be run: own_Go T g says that the run from the frame g on T ends as promised -/
section OwnKit
variable {p : Program} {l : Launch} {e : Env} {R : Room} {s : State} {m : MethodId} {args : Array Value} {below : List Frame} {meth : Method} {c : Code} {T : State} {locs : List Loc} {cells slots : Nat} {Z : State} {h : Heap} {a0 : Array Value} {Q : Option Value → Heap → List Loc → Prop} {cm sm : Nat}
def own_Go (p : Program) (e : Env) (s : State) (below : List Frame) (Q : Option Value → Heap → List Loc → Prop) (cm sm : Nat) (T : State) (g : JFrame) : Prop :=
  ∃ (U : State) (o : Outcome), Steps p.tables e below (T.setTop g) U ∧ U.status = .running ∧ Ended U below o ∧ ∃ v L, o = .returned v ∧ Q v U.heap L ∧ FrameEnd s o U L cm sm
theorem own_st {T' : State} {g g' : JFrame} (h : ∀ t, Steps p.tables e below (T'.setTop g') t → Steps p.tables e below (T.setTop g) t) (k : own_Go p e s below Q cm sm T' g') : own_Go p e s below Q cm sm T g := by
  obtain ⟨U, o, h1, h2⟩ := k
  exact ⟨U, o, h U h1, h2⟩
abbrev own_Met (l : Launch) (Z : State) (y : MethodName) (bytes : ByteArray) (ml : Nat) (ret : Option FieldType) (rm : Room) (ws : List Jvm.Cond) (as : Array Value) (h : Heap) (Q : Option Value → Heap → List Loc → Prop) (cm sm : Nat) : Prop :=
  MetFree l y (head1 (Jvm.Cond.code y bytes ml ret :: ws) rm) (fun a U => a = as ∧ Z.Warmed39 U.vm ∧ U.heap = h) (fun _ _ _ _ _ => True) (fun _ U o U' => ∃ v L, o = .returned v ∧ Q v U'.heap L ∧ FrameEnd U o U' L cm sm)
theorem own_enter {y : MethodName} {bytes : ByteArray} {ml : Nat} {ret : Option FieldType} {rm : Room} {ws : List Jvm.Cond} {as : Array Value} {Ls : Array Slot}
    (hp : plainFor y = true) (hef : ∀ m, entryFrame m as ml = mkF m 0 Ls [])
    (body : ∀ (p : Program) (e : Env) (s : State) (m : MethodId) (below : List Frame) (meth : Method) (c : Code) (T : State), p.tables.exec = Jvm.exec → c.code = bytes → c.maxLocals = ml → s.vm.findClass y.cls = some m.cls → meth.name = y.name → meth.sig.returnType = ret → meth.locks = false → Z.Warmed39 s.vm →
      Stand p l e rm s m as below meth c T [] 0 0 → T.heap = h → own_Go p e s below Q cm sm T (mkF m 0 Ls [])) :
    own_Met l Z y bytes ml ret rm ws as h Q cm sm := by
  refine MetFree.of_bodySF hp hisR ?_
  intro p e s m args below meth c s₁ Bd hml0 hP hK
  obtain ⟨rfl, hZ, hh⟩ := hP
  obtain ⟨U, o, h1, h2⟩ := body p e s m below meth c s₁ Bd.exec Bd.bytes hml0 (findClass_of_methodNamed Bd.named) (name_of_methodNamed Bd.named Bd.method).1 Bd.returns (BodyLoose.notSynchronized Bd) hZ (Stand.of_body Bd) (by rw [← hh, Bd.state]; rfl)
  exact ⟨U, o, castTop (hef m) h1, h2⟩
/-! returns -/
theorem own_retN (X : Stand p l e R s m args below meth c T locs cells slots) (hx : p.tables.exec = Jvm.exec) (hlk : meth.locks = false) {t : FieldType} (hret : meth.sig.returnType = some t) (ht : t = .boolean ∨ t = .byte ∨ t = .char ∨ t = .short) {pc : Nat} {Ls : Array Slot} {z z' : Int32} {rest : List Value}
    (hd : decode c.code pc = .ok (.ireturn, 1)) (hz : nar t z = z') (hc : cells ≤ cm) (hs : slots ≤ sm) (hQ : Q (some (.int z')) T.heap locs) : own_Go p e s below Q cm sm T (mkF m pc Ls (.int z :: rest)) := by
  subst hz
  obtain ⟨fs, hr, hrun, hended, hW, hsame⟩ := X.leave (v := some (.int (nar t z))) (fun h => by rw [hret] at h; cases h) hlk
  exact ⟨_, _, retN X hx hret ht hd hr, hrun, hended, _, _, rfl, hQ, ⟨_, rfl⟩, hW, hsame.mono hc hs⟩
theorem own_retI (X : Stand p l e R s m args below meth c T locs cells slots) (hx : p.tables.exec = Jvm.exec) (hlk : meth.locks = false) (hret : meth.sig.returnType = some .int) {pc : Nat} {Ls : Array Slot} {z : Int32} {rest : List Value}
    (hd : decode c.code pc = .ok (.ireturn, 1)) (hc : cells ≤ cm) (hs : slots ≤ sm) (hQ : Q (some (.int z)) T.heap locs) : own_Go p e s below Q cm sm T (mkF m pc Ls (.int z :: rest)) := by
  obtain ⟨fs, hr, hrun, hended, hW, hsame⟩ := X.leave (v := some (.int z)) (fun h => by rw [hret] at h; cases h) hlk
  exact ⟨_, _, retOut X hx hret rfl (Or.inl ⟨rfl, Or.inl rfl, _, rfl⟩) hd hr, hrun, hended, _, _, rfl, hQ, ⟨_, rfl⟩, hW, hsame.mono hc hs⟩
theorem own_retJ (X : Stand p l e R s m args below meth c T locs cells slots) (hx : p.tables.exec = Jvm.exec) (hlk : meth.locks = false) (hret : meth.sig.returnType = some .long) {pc : Nat} {Ls : Array Slot} {z : Int64} {rest : List Value}
    (hd : decode c.code pc = .ok (.lreturn, 1)) (hc : cells ≤ cm) (hs : slots ≤ sm) (hQ : Q (some (.long z)) T.heap locs) : own_Go p e s below Q cm sm T (mkF m pc Ls (.long z :: rest)) := by
  obtain ⟨fs, hr, hrun, hended, hW, hsame⟩ := X.leave (v := some (.long z)) (fun h => by rw [hret] at h; cases h) hlk
  exact ⟨_, _, retOut X hx hret rfl (Or.inr (Or.inl ⟨rfl, rfl, _, rfl⟩)) hd hr, hrun, hended, _, _, rfl, hQ, ⟨_, rfl⟩, hW, hsame.mono hc hs⟩
theorem own_retR (X : Stand p l e R s m args below meth c T locs cells slots) (hx : p.tables.exec = Jvm.exec) (hlk : meth.locks = false) {t : FieldType} (hret : meth.sig.returnType = some t) (ht : t.isReference = true) {pc : Nat} {Ls : Array Slot} {w : Value} (hw : w.isRef = true) (hn : narrow t w = w) {rest : List Value}
    (hd : decode c.code pc = .ok (.areturn, 1)) (hc : cells ≤ cm) (hs : slots ≤ sm) (hQ : Q (some w) T.heap locs) : own_Go p e s below Q cm sm T (mkF m pc Ls (w :: rest)) := by
  obtain ⟨fs, hr, hrun, hended, hW, hsame⟩ := X.leave (v := some w) (fun h => by rw [hret] at h; cases h) hlk
  exact ⟨_, _, retOut X hx hret hn (Or.inr (Or.inr (Or.inr (Or.inr ⟨rfl, ht, hw⟩)))) hd hr, hrun, hended, _, _, rfl, hQ, ⟨_, rfl⟩, hW, hsame.mono hc hs⟩
theorem own_ret0 (X : Stand p l e R s m args below meth c T locs cells slots) (hx : p.tables.exec = Jvm.exec) (hlk : meth.locks = false) (hret : meth.sig.returnType = none) {pc : Nat} {Ls : Array Slot}
    (hd : decode c.code pc = .ok (.return_, 1)) (hc : cells ≤ cm) (hs : slots ≤ sm) (hQ : Q none T.heap locs) : own_Go p e s below Q cm sm T (mkF m pc Ls []) := by
  obtain ⟨fs, hr, hrun, hended, hW, hsame⟩ := X.leave (v := none) (fun _ => rfl) hlk
  exact ⟨_, _, X.returnOut hx hret hd hr, hrun, hended, _, _, rfl, hQ, ⟨_, rfl⟩, hW, hsame.mono hc hs⟩
/-! calls by the callee's contract -/
theorem own_callS (X : Stand p l e R s m args below meth c T locs cells slots) (hx : p.tables.exec = Jvm.exec) (hZ : Z.Warmed39 s.vm) {own : String} {index : Nat} {y : MethodName} {bytes : ByteArray} {maxL : Nat} {ret : Option FieldType} (hown : s.vm.findClass own = some m.cls)
    (w1 : (Jvm.Cond.methodLink own index y).before a0 Z = true) (w2 : (Jvm.Cond.static y).before a0 Z = true) (w3 : (Jvm.Cond.initialized y.cls).before a0 Z = true) (w4 : (Jvm.Cond.code y bytes maxL ret).before a0 Z = true)
    (hy : y.cls ≠ "java/lang/invoke/MethodHandle" ∧ y.cls ≠ "java/lang/invoke/VarHandle") {rm : Room} {as : Array Value} {Qc : Option Value → Heap → List Loc → Prop} (eT : T.heap = h)
    (hM : own_Met l Z y bytes maxL ret rm [] as h Qc rm.cells rm.slots) (W : Nat) (hf : rm.frames + 1 ≤ R.frames) (hl : W + (maxL + 11) + rm.locals ≤ R.locals)
    {g : JFrame} (hg : g.method = m) (hsize : g.locals.size = c.maxLocals) {argsL rest : List Value} {ps : List FieldType} {r : Option FieldType} (hpd : parseMethodDescriptor y.desc = some ⟨ps, r⟩) (hlen : argsL.length = ps.length) (has : argsL.toArray = as)
    (hstack : g.stack = argsL.reverse ++ rest) (hW : 2 * g.monitorRoom + (rest.map fun v => v.category).sum ≤ W) (hdg : decode c.code g.pc = .ok (.invokestatic index, 3)) (hc : cells + rm.cells ≤ R.cells) (hs : slots + rm.slots ≤ R.slots)
    (k : ∀ (T' : State) (v : Option Value) (Lc : List Loc), Stand p l e R s m args below meth c T' (locs ++ Lc) (cells + rm.cells) (slots + rm.slots) → Qc v T'.heap Lc → own_Go p e s below Q cm sm T' { g with pc := g.pc + 3, stack := v.toList ++ rest }) :
    own_Go p e s below Q cm sm T g := by
  obtain ⟨v, _, ⟨T', L', k', n'⟩, -, X', ⟨Lc, hQ, l1, y1, z1⟩, st⟩ := Jvm.LawKit.callS X hx (y := y) hown (mvT hZ w1) (mvT hZ w2) (mvT hZ w3) (mvT hZ w4) hy (backOf (W := W) hM hZ w4 w3 hf hl) hg hsize (argsL := argsL) (rest := rest) (lenOf hpd hlen) hstack hW hdg (fun _ _ => ⟨has, eT, hc, hs⟩)
  dsimp only [Pt.U, Pt.locs, Pt.cells, Pt.slots] at X' l1 y1 z1 st hQ
  subst l1 y1 z1
  exact own_st st (k T' v Lc X' hQ)
theorem own_callN (X : Stand p l e R s m args below meth c T locs cells slots) (hx : p.tables.exec = Jvm.exec) (hZ : Z.Warmed39 s.vm) {own : String} {index : Nat} {y : MethodName} {bytes : ByteArray} {maxL : Nat} (hy1 : y.name = "<init>") (hown : s.vm.findClass own = some m.cls)
    (w1 : (Jvm.Cond.methodLink own index y).before a0 Z = true) (w2 : (Jvm.Cond.instanceMethod y).before a0 Z = true) (w3 : (Jvm.Cond.initialized y.cls).before a0 Z = true) (w4 : (Jvm.Cond.code y bytes maxL none).before a0 Z = true)
    (hy : y.cls ≠ "java/lang/invoke/MethodHandle" ∧ y.cls ≠ "java/lang/invoke/VarHandle") {rm : Room} {as : Array Value} {Qc : Option Value → Heap → List Loc → Prop} (eT : T.heap = h)
    (hM : own_Met l Z y bytes maxL none rm [] as h Qc rm.cells rm.slots) (W : Nat) (hf : rm.frames + 1 ≤ R.frames) (hl : W + (maxL + 11) + rm.locals ≤ R.locals)
    {g : JFrame} (hg : g.method = m) (hsize : g.locals.size = c.maxLocals) {a : Addr} {argsL rest : List Value} {ps : List FieldType} {r : Option FieldType} (hpd : parseMethodDescriptor y.desc = some ⟨ps, r⟩) (hlen : argsL.length = ps.length) (has : (Value.ref a :: argsL).toArray = as)
    (hstack : g.stack = argsL.reverse ++ .ref a :: rest) (hW : 2 * g.monitorRoom + (rest.map fun v => v.category).sum ≤ W) (hdg : decode c.code g.pc = .ok (.invokespecial index, 3)) (hc : cells + rm.cells ≤ R.cells) (hs : slots + rm.slots ≤ R.slots)
    (k : ∀ (T' : State) (v : Option Value) (Lc : List Loc), Stand p l e R s m args below meth c T' (locs ++ Lc) (cells + rm.cells) (slots + rm.slots) → Qc v T'.heap Lc → own_Go p e s below Q cm sm T' { g with pc := g.pc + 3, stack := v.toList ++ rest }) :
    own_Go p e s below Q cm sm T g := by
  obtain ⟨v, _, ⟨T', L', k', n'⟩, -, X', ⟨Lc, hQ, l1, y1, z1⟩, st⟩ := X.specialBack hx (y := y) hy1 hown (mvT hZ w1) (mvT hZ w2) (mvT hZ w4) hy (backOf (W := W) hM hZ w4 w3 hf hl) hg hsize (Steps.refl _) (a := a) (argsL := argsL) (rest := rest) (lenOf hpd hlen) hstack hW hdg (fun _ _ => ⟨has, eT, hc, hs⟩)
  dsimp only [Pt.U, Pt.locs, Pt.cells, Pt.slots] at X' l1 y1 z1 st hQ
  subst l1 y1 z1
  exact own_st (fun _ q => st.trans q) (k T' v Lc X' hQ)
theorem own_callV (X : Stand p l e R s m args below meth c T locs cells slots) (hx : p.tables.exec = Jvm.exec) (hZ : Z.Warmed39 s.vm) {own C : String} {index : Nat} {y : MethodName} {bytes : ByteArray} {maxL : Nat} {ret : Option FieldType} (hown : s.vm.findClass own = some m.cls)
    (w1 : (Jvm.Cond.methodLink own index y).before a0 Z = true) (w2 : (Jvm.Cond.declares y).before a0 Z = true) (w5 : (Jvm.Cond.selects C y y).before a0 Z = true) (w6 : (Jvm.Cond.instanceMethod y).before a0 Z = true) (w3 : (Jvm.Cond.initialized y.cls).before a0 Z = true) (w4 : (Jvm.Cond.code y bytes maxL ret).before a0 Z = true)
    (hy : y.cls ≠ "java/lang/invoke/MethodHandle" ∧ y.cls ≠ "java/lang/invoke/VarHandle") {rm : Room} {as : Array Value} {Qc : Option Value → Heap → List Loc → Prop} (eT : T.heap = h)
    (hM : own_Met l Z y bytes maxL ret rm [] as h Qc rm.cells rm.slots) (W : Nat) (hf : rm.frames + 1 ≤ R.frames) (hl : W + (maxL + 11) + rm.locals ≤ R.locals) {a : Addr} (E : Exa Z h a C)
    {g : JFrame} (hg : g.method = m) (hsize : g.locals.size = c.maxLocals) {argsL rest : List Value} {ps : List FieldType} {r : Option FieldType} (hpd : parseMethodDescriptor y.desc = some ⟨ps, r⟩) (hlen : argsL.length = ps.length) (has : (Value.ref a :: argsL).toArray = as)
    (hstack : g.stack = argsL.reverse ++ .ref a :: rest) (hW : 2 * g.monitorRoom + (rest.map fun v => v.category).sum ≤ W) (hdg : decode c.code g.pc = .ok (.invokevirtual index, 3)) (hc : cells + rm.cells ≤ R.cells) (hs : slots + rm.slots ≤ R.slots)
    (k : ∀ (T' : State) (v : Option Value) (Lc : List Loc), Stand p l e R s m args below meth c T' (locs ++ Lc) (cells + rm.cells) (slots + rm.slots) → Qc v T'.heap Lc → own_Go p e s below Q cm sm T' { g with pc := g.pc + 3, stack := v.toList ++ rest }) :
    own_Go p e s below Q cm sm T g := by
  obtain ⟨cq, kq, qa, qb, qc⟩ := isOf hZ eT E
  obtain ⟨v, _, ⟨T', L', k', n'⟩, -, X', ⟨Lc, hQ, l1, y1, z1⟩, st⟩ := X.virtualBack hx (y := y) (z := y) hown (mvT hZ w1) (mvT hZ w2) (notFace_of_selects (args := #[]) (mvT hZ w5)) (mvT hZ w5) (mvT hZ w6) hy (backOf (W := W) hM hZ w4 w3 hf hl) qa qc hg hsize (Steps.refl _) (argsL := argsL) (rest := rest) (lenOf hpd hlen) hstack hW hdg (fun _ _ => ⟨has, eT, hc, hs⟩)
  dsimp only [Pt.U, Pt.locs, Pt.cells, Pt.slots] at X' l1 y1 z1 st hQ
  subst l1 y1 z1
  exact own_st (fun _ q => st.trans q) (k T' v Lc X' hQ)
/-! arrays by the list of their values -/
theorem own_ix {n j : Int32} {vs : List Value} {d : Value} {a : Addr} {k : ClassId} {ty : FieldType} (V : Arv Z h a k ty n vs d) (hj : ¬ j < 0 ∧ j < n) : ∃ cl : Cell, Arr Z h a cl ty ∧ ¬ (j < 0 ∨ cl.slots.size ≤ j.toNatClampNeg) ∧ cl.slots[j.toNatClampNeg]? = some (vs.getD j.toNatClampNeg d) := by
  obtain ⟨cl, A, -, S, N, H, -⟩ := V
  have q := inb_of S hj
  exact ⟨cl, A, q, H _ (Nat.lt_of_not_le fun y => q (Or.inr y))⟩
theorem own_len (X : Stand p l e R s m args below meth c T locs cells slots) (hx : p.tables.exec = Jvm.exec) (hZ : Z.Warmed39 s.vm) (eT : T.heap = h) {a : Addr} {k : ClassId} {ty : FieldType} {n : Int32} {vs : List Value} {d : Value} (V : Arv Z h a k ty n vs d)
    {g : JFrame} (hg : g.method = m) {rest : List Value} (hs : g.stack = .ref a :: rest) (hd : decode c.code g.pc = .ok (.arraylength, 1)) :
    ∀ t, Steps p.tables e below (T.setTop { g with pc := g.pc + 1, stack := .int n :: rest }) t → Steps p.tables e below (T.setTop g) t := by
  obtain ⟨cl, A, -, S, N, -, -⟩ := V
  intro t k
  refine X.arraylength hx (by rw [eT]; exact A.1) (State.isArrayOf_alike hZ.alike A.2.1) hg hs hd t ?_
  rw [len_of S N]; exact k
theorem own_ldI (X : Stand p l e R s m args below meth c T locs cells slots) (hx : p.tables.exec = Jvm.exec) (hZ : Z.Warmed39 s.vm) (eT : T.heap = h) {a : Addr} {k : ClassId} {n : Int32} {vs : List Value} {d : Value} (V : Arv Z h a k .int n vs d) {j x : Int32} (hj : ¬ j < 0 ∧ j < n) (hv : vs.getD j.toNatClampNeg d = .int x)
    {g : JFrame} (hg : g.method = m) {rest : List Value} (hs : g.stack = .int j :: .ref a :: rest) (hd : decode c.code g.pc = .ok (.iaload, 1)) :
    ∀ t, Steps p.tables e below (T.setTop { g with pc := g.pc + 1, stack := .int x :: rest }) t → Steps p.tables e below (T.setTop g) t := by
  obtain ⟨cl, A, q, H⟩ := own_ix V hj
  exact X.iaload hx (j := j) (v := .int x) (by rw [eT]; exact A.1) (State.isArrayOf_alike hZ.alike A.2.1) A.2.2 q (hv ▸ H) hg hs hd
theorem own_ldB (X : Stand p l e R s m args below meth c T locs cells slots) (hx : p.tables.exec = Jvm.exec) (hZ : Z.Warmed39 s.vm) (eT : T.heap = h) {a : Addr} {k : ClassId} {n : Int32} {vs : List Value} {d : Value} (V : Arv Z h a k .byte n vs d) {j x : Int32} (hj : ¬ j < 0 ∧ j < n) (hv : vs.getD j.toNatClampNeg d = .int x)
    {g : JFrame} (hg : g.method = m) {rest : List Value} (hs : g.stack = .int j :: .ref a :: rest) (hd : decode c.code g.pc = .ok (.baload, 1)) :
    ∀ t, Steps p.tables e below (T.setTop { g with pc := g.pc + 1, stack := .int x :: rest }) t → Steps p.tables e below (T.setTop g) t := by
  obtain ⟨cl, A, q, H⟩ := own_ix V hj
  exact X.baloadBytes hx (j := j) (v := .int x) (by rw [eT]; exact A.1) (State.isArrayOf_alike hZ.alike A.2.1) A.2.2 q (hv ▸ H) hg hs hd
theorem own_ldJ (X : Stand p l e R s m args below meth c T locs cells slots) (hx : p.tables.exec = Jvm.exec) (hZ : Z.Warmed39 s.vm) (eT : T.heap = h) {a : Addr} {k : ClassId} {n : Int32} {vs : List Value} {d : Value} (V : Arv Z h a k .long n vs d) {j : Int32} {x : Int64} (hj : ¬ j < 0 ∧ j < n) (hv : vs.getD j.toNatClampNeg d = .long x)
    {g : JFrame} (hg : g.method = m) {rest : List Value} (hs : g.stack = .int j :: .ref a :: rest) (hd : decode c.code g.pc = .ok (.laload, 1)) :
    ∀ t, Steps p.tables e below (T.setTop { g with pc := g.pc + 1, stack := .long x :: rest }) t → Steps p.tables e below (T.setTop g) t := by
  obtain ⟨cl, A, q, H⟩ := own_ix V hj
  exact X.laload hx (j := j) (v := .long x) (by rw [eT]; exact A.1) (State.isArrayOf_alike hZ.alike A.2.1) A.2.2 q (hv ▸ H) hg hs hd
theorem own_stI (X : Stand p l e R s m args below meth c T locs cells slots) (hx : p.tables.exec = Jvm.exec) (hZ : Z.Warmed39 s.vm) (eT : T.heap = h) {a : Addr} {k : ClassId} {n : Int32} {vs : List Value} {d : Value} (V : Arv Z h a k .int n vs d) {j x : Int32} (hj : ¬ j < 0 ∧ j < n) (hl : j.toNatClampNeg < vs.length)
    {g : JFrame} (hg : g.method = m) {rest : List Value} (hs : g.stack = .int x :: .int j :: .ref a :: rest) (hd : decode c.code g.pc = .ok (.iastore, 1)) :
    ∃ T' h', Stand p l e R s m args below meth c T' (locs ++ [⟨a, j.toNatClampNeg⟩]) cells slots ∧ T'.heap = h' ∧ Wr h h' a j.toNatClampNeg (.int x) ∧ Arv Z h' a k .int n (vs.set j.toNatClampNeg (.int x)) d ∧ ∀ t, Steps p.tables e below (T'.setTop { g with pc := g.pc + 1, stack := rest }) t → Steps p.tables e below (T.setTop g) t := by
  obtain ⟨cl, A, q1, S, N, H, G⟩ := V
  obtain ⟨T', h', X', e', W, st⟩ := stI X hx hZ eT A (j := j) (inb_of S hj) hg hs hd
  exact ⟨T', h', X', e', W, Arv.set A q1 S N H G rfl W _ rfl hl, st⟩
theorem own_stJ (X : Stand p l e R s m args below meth c T locs cells slots) (hx : p.tables.exec = Jvm.exec) (hZ : Z.Warmed39 s.vm) (eT : T.heap = h) {a : Addr} {k : ClassId} {n : Int32} {vs : List Value} {d : Value} (V : Arv Z h a k .long n vs d) {j : Int32} {x : Int64} (hj : ¬ j < 0 ∧ j < n) (hl : j.toNatClampNeg < vs.length)
    {g : JFrame} (hg : g.method = m) {rest : List Value} (hs : g.stack = .long x :: .int j :: .ref a :: rest) (hd : decode c.code g.pc = .ok (.lastore, 1)) :
    ∃ T' h', Stand p l e R s m args below meth c T' (locs ++ [⟨a, j.toNatClampNeg⟩]) cells slots ∧ T'.heap = h' ∧ Wr h h' a j.toNatClampNeg (.long x) ∧ Arv Z h' a k .long n (vs.set j.toNatClampNeg (.long x)) d ∧ ∀ t, Steps p.tables e below (T'.setTop { g with pc := g.pc + 1, stack := rest }) t → Steps p.tables e below (T.setTop g) t := by
  obtain ⟨cl, A, q1, S, N, H, G⟩ := V
  obtain ⟨T', h', X', e', W, st⟩ := stJ X hx hZ eT A (j := j) (inb_of S hj) hg hs hd
  exact ⟨T', h', X', e', W, Arv.set A q1 S N H G rfl W _ rfl hl, st⟩
theorem own_stB (X : Stand p l e R s m args below meth c T locs cells slots) (hx : p.tables.exec = Jvm.exec) (hZ : Z.Warmed39 s.vm) (eT : T.heap = h) {a : Addr} {k : ClassId} {n : Int32} {vs : List Value} {d : Value} (V : Arv Z h a k .byte n vs d) {j x x' : Int32} (hj : ¬ j < 0 ∧ j < n) (hl : j.toNatClampNeg < vs.length) (hn : x.toInt8.toInt32 = x')
    {g : JFrame} (hg : g.method = m) {rest : List Value} (hs : g.stack = .int x :: .int j :: .ref a :: rest) (hd : decode c.code g.pc = .ok (.bastore, 1)) :
    ∃ T' h', Stand p l e R s m args below meth c T' (locs ++ [⟨a, j.toNatClampNeg⟩]) cells slots ∧ T'.heap = h' ∧ Wr h h' a j.toNatClampNeg (.int x') ∧ Arv Z h' a k .byte n (vs.set j.toNatClampNeg (.int x')) d ∧ ∀ t, Steps p.tables e below (T'.setTop { g with pc := g.pc + 1, stack := rest }) t → Steps p.tables e below (T.setTop g) t := by
  subst hn
  obtain ⟨cl, A, q1, S, N, H, G⟩ := V
  obtain ⟨T', h', X', e', W, st⟩ := stB X hx hZ eT A (j := j) (inb_of S hj) hg hs hd
  exact ⟨T', h', X', e', W, Arv.set A q1 S N H G (fits_nar_byte _) W _ rfl hl, st⟩
theorem own_ldR (X : Stand p l e R s m args below meth c T locs cells slots) (hx : p.tables.exec = Jvm.exec) (hZ : Z.Warmed39 s.vm) (eT : T.heap = h) {a : Addr} {k : ClassId} {ty : FieldType} {n : Int32} {vs : List Value} {d : Value} (V : Arv Z h a k ty n vs d) (hty : ty.isReference = true) {j : Int32} {v : Value} (hj : ¬ j < 0 ∧ j < n) (hv : vs.getD j.toNatClampNeg d = v)
    {g : JFrame} (hg : g.method = m) {rest : List Value} (hs : g.stack = .int j :: .ref a :: rest) (hd : decode c.code g.pc = .ok (.aaload, 1)) :
    ∀ t, Steps p.tables e below (T.setTop { g with pc := g.pc + 1, stack := v :: rest }) t → Steps p.tables e below (T.setTop g) t := by
  obtain ⟨cl, A, q, H⟩ := own_ix V hj
  exact X.aaload hx (j := j) (v := v) (by rw [eT]; exact A.1) (State.isArrayOf_alike hZ.alike A.2.1) hty A.2.2 q (hv ▸ H) hg hs hd
theorem own_stR (X : Stand p l e R s m args below meth c T locs cells slots) (hx : p.tables.exec = Jvm.exec) (hZ : Z.Warmed39 s.vm) (eT : T.heap = h) {a : Addr} {k : ClassId} {ty : FieldType} {n : Int32} {vs : List Value} {d : Value} (V : Arv Z h a k ty n vs d) (hty : ty.isReference = true) {v : Value} (F : ∀ cl : Cell, Arr Z h a cl ty → cl.cls = k → Sto Z h a v) (hf : fits ty v = true) {j : Int32} (hj : ¬ j < 0 ∧ j < n) (hl : j.toNatClampNeg < vs.length)
    {g : JFrame} (hg : g.method = m) {rest : List Value} (hs : g.stack = v :: .int j :: .ref a :: rest) (hd : decode c.code g.pc = .ok (.aastore, 1)) :
    ∃ T' h', Stand p l e R s m args below meth c T' (locs ++ [⟨a, j.toNatClampNeg⟩]) cells slots ∧ T'.heap = h' ∧ Wr h h' a j.toNatClampNeg v ∧ Arv Z h' a k ty n (vs.set j.toNatClampNeg v) d ∧ ∀ t, Steps p.tables e below (T'.setTop { g with pc := g.pc + 1, stack := rest }) t → Steps p.tables e below (T.setTop g) t := by
  obtain ⟨cl, A, q1, S, N, H, G⟩ := V
  obtain ⟨T', h', X', e', W, st⟩ := stR X hx hZ eT A (j := j) (inb_of S hj) hty (F cl A q1) hg hs hd
  exact ⟨T', h', X', e', W, Arv.set A q1 S N H G hf W _ rfl hl, st⟩
/-! booleans -/
def own_b (P : Prop) [Decidable P] : Int32 := if P then 1 else 0
theorem own_bt {P : Prop} [Decidable P] (q : P) : own_b P = 1 := if_pos q
theorem own_bf {P : Prop} [Decidable P] (q : ¬ P) : own_b P = 0 := if_neg q
theorem own_bnar {P : Prop} [Decidable P] : nar .boolean (own_b P) = own_b P := by
  by_cases q : P
  · rw [own_bt q]; decide
  · rw [own_bf q]; decide
theorem own_by {P : Prop} [Decidable P] (q : P) : ifCond.holds .ne (own_b P) = true ∧ ifCond.holds .eq (own_b P) = false := by rw [own_bt q]; decide
theorem own_bn {P : Prop} [Decidable P] (q : ¬ P) : ifCond.holds .eq (own_b P) = true ∧ ifCond.holds .ne (own_b P) = false := by rw [own_bf q]; decide
theorem own_beq {P P' : Prop} [Decidable P] [Decidable P'] (q : P ↔ P') : own_b P = own_b P' := by
  by_cases r : P
  · rw [own_bt r, own_bt (q.mp r)]
  · rw [own_bf r, own_bf fun x => r (q.mpr x)]
end OwnKit

abbrev own_P (x : Int32) : Prop := x = 9 ∨ x = 12 ∨ x = 32
theorem d1_0 : decode prog_115_method_4_code 0 = .ok (.iload_n 0, 1) := by decide +kernel
theorem d1_1 : decode prog_115_method_4_code 1 = .ok (.bipush 32, 2) := by decide +kernel
theorem d1_3 : decode prog_115_method_4_code 3 = .ok (.if_icmp .eq 15, 3) := by decide +kernel
theorem d1_6 : decode prog_115_method_4_code 6 = .ok (.iload_n 0, 1) := by decide +kernel
theorem d1_7 : decode prog_115_method_4_code 7 = .ok (.bipush 9, 2) := by decide +kernel
theorem d1_9 : decode prog_115_method_4_code 9 = .ok (.if_icmp .eq 9, 3) := by decide +kernel
theorem d1_12 : decode prog_115_method_4_code 12 = .ok (.iload_n 0, 1) := by decide +kernel
theorem d1_13 : decode prog_115_method_4_code 13 = .ok (.bipush 12, 2) := by decide +kernel
theorem d1_15 : decode prog_115_method_4_code 15 = .ok (.if_icmp .ne 7, 3) := by decide +kernel
theorem d1_18 : decode prog_115_method_4_code 18 = .ok (.iconst 1, 1) := by decide +kernel
theorem d1_19 : decode prog_115_method_4_code 19 = .ok (.goto 4, 3) := by decide +kernel
theorem d1_22 : decode prog_115_method_4_code 22 = .ok (.iconst 0, 1) := by decide +kernel
theorem d1_23 : decode prog_115_method_4_code 23 = .ok (.ireturn, 1) := by decide +kernel
theorem pf1 : plainFor (⟨"com/example/coterie/coterie/core/TextFile", "isWordSeparator", "(I)Z"⟩ : MethodName) = true := by first | (exact plainFor_of_name (by first | (simp [plainName, overriddenIn]; done) | decide +kernel)) | decide +kernel
theorem pf0 : plainFor x = true := plainFor_of_name (by first | (simp [x, plainName, overriddenIn]; done) | decide +kernel)
theorem pd0 : parseMethodDescriptor "(I)Z" = some ⟨[.int], some .boolean⟩ := by decide +kernel
theorem ef_rm1 (m : MethodId) (z0 : Int32) : entryFrame m #[(.int z0)] 1 = mkF m 0 #[.val (.int z0)] [] := by first | (simp [entryFrame, mkF, argsToLocals, Value.category]; done) | rfl
set_option maxRecDepth 65536 in
set_option maxHeartbeats 40000000 in
theorem rm1 (l : Launch) (Z : State) (a0 : Array Value) (hw : ∀ d ∈ tables_1, d.before a0 Z = true) (ws : List Jvm.Cond) (z : Int32) (h0 : Heap) (n0 : Nat) (Z0 : n0 ≤ h0.size)  :
    own_Met l Z (⟨"com/example/coterie/coterie/core/TextFile", "isWordSeparator", "(I)Z"⟩ : MethodName) prog_115_method_4_code 1 (some .boolean) ({ frames := 0, cells := 0, slots := 0, locals := 0 } : Room) ws #[(.int z)] h0 (fun v h L => v = some (.int (own_b (own_P z))) ∧ Fr n0 L ∧ h = h0) 0 0 := by
  refine own_enter pf1 (fun m => ef_rm1 m z) ?_
  intro p e s m below meth c T0 hx hby hml hown hnm hret hlk hZ X0 e0
  have N0 := Fr.nil n0
  show own_Go p e s below _ _ _ T0 (mkF m 0 #[.val (.int z)] [])
  refine own_st (fun _ k => XS.iloadN X0.here hx rfl (hb hby d1_0) rfl k) ?_
  show own_Go p e s below _ _ _ T0 (mkF m 1 #[.val (.int z)] [(.int z)])
  refine own_st (fun _ k => XS.bipush X0.here hx rfl (hb hby d1_1) k) ?_
  show own_Go p e s below _ _ _ T0 (mkF m 3 #[.val (.int z)] [(.int (32 : Int32)), (.int z)])
  by_cases c3_1 : z = (32 : Int32)
  · refine own_st (fun _ k => XS.icmpYes X0.here hx rfl (pc0 := 3) (pc' := 18) rfl (hb hby d1_3) rfl (teq c3_1).1 (by decide) (by decide) k) ?_
    show own_Go p e s below _ _ _ T0 (mkF m 18 #[.val (.int z)] [])
    refine own_st (fun _ k => XS.iconst X0.here hx rfl (hb hby d1_18) k) ?_
    show own_Go p e s below _ _ _ T0 (mkF m 19 #[.val (.int z)] [(.int (1 : Int32))])
    refine own_st (fun _ k => XS.goto X0.here hx rfl (pc0 := 19) (pc' := 23) rfl (hb hby d1_19) (by decide) (by decide) k) ?_
    show own_Go p e s below _ _ _ T0 (mkF m 23 #[.val (.int z)] [(.int (1 : Int32))])
    exact own_retN X0 hx hlk (t := .boolean) hret (by simp) (hb hby d1_23) (z' := (1 : Int32)) rfl (by decide) (by decide) ⟨by rw [own_bt (by simp only [own_P, Int32.lt_iff_toInt_lt, ← Int32.toInt_inj, Int32.reduceToInt] at c3_1 ⊢; omega)], N0, e0⟩
  · refine own_st (fun _ k => XS.icmpNo X0.here hx rfl (hb hby d1_3) rfl (feq c3_1).1 k) ?_
    show own_Go p e s below _ _ _ T0 (mkF m 6 #[.val (.int z)] [])
    refine own_st (fun _ k => XS.iloadN X0.here hx rfl (hb hby d1_6) rfl k) ?_
    show own_Go p e s below _ _ _ T0 (mkF m 7 #[.val (.int z)] [(.int z)])
    refine own_st (fun _ k => XS.bipush X0.here hx rfl (hb hby d1_7) k) ?_
    show own_Go p e s below _ _ _ T0 (mkF m 9 #[.val (.int z)] [(.int (9 : Int32)), (.int z)])
    by_cases c9_2 : z = (9 : Int32)
    · refine own_st (fun _ k => XS.icmpYes X0.here hx rfl (pc0 := 9) (pc' := 18) rfl (hb hby d1_9) rfl (teq c9_2).1 (by decide) (by decide) k) ?_
      show own_Go p e s below _ _ _ T0 (mkF m 18 #[.val (.int z)] [])
      refine own_st (fun _ k => XS.iconst X0.here hx rfl (hb hby d1_18) k) ?_
      show own_Go p e s below _ _ _ T0 (mkF m 19 #[.val (.int z)] [(.int (1 : Int32))])
      refine own_st (fun _ k => XS.goto X0.here hx rfl (pc0 := 19) (pc' := 23) rfl (hb hby d1_19) (by decide) (by decide) k) ?_
      show own_Go p e s below _ _ _ T0 (mkF m 23 #[.val (.int z)] [(.int (1 : Int32))])
      exact own_retN X0 hx hlk (t := .boolean) hret (by simp) (hb hby d1_23) (z' := (1 : Int32)) rfl (by decide) (by decide) ⟨by rw [own_bt (by simp only [own_P, Int32.lt_iff_toInt_lt, ← Int32.toInt_inj, Int32.reduceToInt] at c3_1 c9_2 ⊢; omega)], N0, e0⟩
    · refine own_st (fun _ k => XS.icmpNo X0.here hx rfl (hb hby d1_9) rfl (feq c9_2).1 k) ?_
      show own_Go p e s below _ _ _ T0 (mkF m 12 #[.val (.int z)] [])
      refine own_st (fun _ k => XS.iloadN X0.here hx rfl (hb hby d1_12) rfl k) ?_
      show own_Go p e s below _ _ _ T0 (mkF m 13 #[.val (.int z)] [(.int z)])
      refine own_st (fun _ k => XS.bipush X0.here hx rfl (hb hby d1_13) k) ?_
      show own_Go p e s below _ _ _ T0 (mkF m 15 #[.val (.int z)] [(.int (12 : Int32)), (.int z)])
      by_cases c15_3 : z = (12 : Int32)
      · refine own_st (fun _ k => XS.icmpNo X0.here hx rfl (hb hby d1_15) rfl (teq c15_3).2 k) ?_
        show own_Go p e s below _ _ _ T0 (mkF m 18 #[.val (.int z)] [])
        refine own_st (fun _ k => XS.iconst X0.here hx rfl (hb hby d1_18) k) ?_
        show own_Go p e s below _ _ _ T0 (mkF m 19 #[.val (.int z)] [(.int (1 : Int32))])
        refine own_st (fun _ k => XS.goto X0.here hx rfl (pc0 := 19) (pc' := 23) rfl (hb hby d1_19) (by decide) (by decide) k) ?_
        show own_Go p e s below _ _ _ T0 (mkF m 23 #[.val (.int z)] [(.int (1 : Int32))])
        exact own_retN X0 hx hlk (t := .boolean) hret (by simp) (hb hby d1_23) (z' := (1 : Int32)) rfl (by decide) (by decide) ⟨by rw [own_bt (by simp only [own_P, Int32.lt_iff_toInt_lt, ← Int32.toInt_inj, Int32.reduceToInt] at c3_1 c9_2 c15_3 ⊢; omega)], N0, e0⟩
      · refine own_st (fun _ k => XS.icmpYes X0.here hx rfl (pc0 := 15) (pc' := 22) rfl (hb hby d1_15) rfl (feq c15_3).2 (by decide) (by decide) k) ?_
        show own_Go p e s below _ _ _ T0 (mkF m 22 #[.val (.int z)] [])
        refine own_st (fun _ k => XS.iconst X0.here hx rfl (hb hby d1_22) k) ?_
        show own_Go p e s below _ _ _ T0 (mkF m 23 #[.val (.int z)] [(.int (0 : Int32))])
        exact own_retN X0 hx hlk (t := .boolean) hret (by simp) (hb hby d1_23) (z' := (0 : Int32)) rfl (by decide) (by decide) ⟨by rw [own_bf (by simp only [own_P, Int32.lt_iff_toInt_lt, ← Int32.toInt_inj, Int32.reduceToInt] at c3_1 c9_2 c15_3 ⊢; omega)], N0, e0⟩
theorem ef_rm0 (m : MethodId) (z0 : Int32) (z1 : Int32) : entryFrame m #[(.int z0), (.int z1)] maxLocals = mkF m 0 #[.val (.int z0), .val (.int z1), .unset, .unset, .unset] [] := by first | (simp [entryFrame, mkF, argsToLocals, Value.category, maxLocals]; done) | rfl
set_option maxRecDepth 65536 in
set_option maxHeartbeats 40000000 in
theorem rm0 (l : Launch) (Z : State) (a0 : Array Value) (hw : ∀ d ∈ tables_1, d.before a0 Z = true) (ws : List Jvm.Cond) (p0 p1 : Int32) (h0 : Heap) (n0 : Nat) (Z0 : n0 ≤ h0.size)  :
    own_Met l Z x code maxLocals ret room_1 ws #[(.int p0), (.int p1)] h0 (fun v h L => v = some (.int 1) ∧ Fr n0 L) 0 0 := by
  refine own_enter pf0 (fun m => ef_rm0 m p0 p1) ?_
  intro p e s m below meth c T0 hx hby hml hown hnm hret hlk hZ X0 e0
  have N0 := Fr.nil n0
  show own_Go p e s below _ _ _ T0 (mkF m 0 #[.val (.int p0), .val (.int p1), .unset, .unset, .unset] [])
  have J89 : ∀ (z : Int32), own_Go p e s below (fun (v : Option Value) (h : Heap) (L : List Loc) => v = some (.int 1) ∧ Fr n0 L) 0 0 T0 (mkF m 89 #[.val (.int p0), .val (.int p1), .val (.int (p1 &&& (7 : Int32))), .val (.int z), .unset] []) := by
    intro z
    show own_Go p e s below _ _ _ T0 (mkF m 89 #[.val (.int p0), .val (.int p1), .val (.int (p1 &&& (7 : Int32))), .val (.int z), .unset] [])
    have J112 : ∀  (bz : Int32) (_ : bz = own_b (own_P z)), own_Go p e s below (fun (v : Option Value) (h : Heap) (L : List Loc) => v = some (.int 1) ∧ Fr n0 L) 0 0 T0 (mkF m 112 #[.val (.int p0), .val (.int p1), .val (.int (p1 &&& (7 : Int32))), .val (.int z), .unset] [(.int bz)]) := by
      rintro _ rfl
      show own_Go p e s below _ _ _ T0 (mkF m 112 #[.val (.int p0), .val (.int p1), .val (.int (p1 &&& (7 : Int32))), .val (.int z), .unset] [(.int (own_b (own_P z)))])
      refine own_st (fun _ k => XS.istore X0.here hx rfl (hb hby at_112) rfl (l' := #[.val (.int p0), .val (.int p1), .val (.int (p1 &&& (7 : Int32))), .val (.int z), .val (.int (own_b (own_P z)))]) rfl k) ?_
      show own_Go p e s below _ _ _ T0 (mkF m 114 #[.val (.int p0), .val (.int p1), .val (.int (p1 &&& (7 : Int32))), .val (.int z), .val (.int (own_b (own_P z)))] [])
      refine own_st (fun _ k => XS.iloadN X0.here hx rfl (hb hby at_114) rfl k) ?_
      show own_Go p e s below _ _ _ T0 (mkF m 115 #[.val (.int p0), .val (.int p1), .val (.int (p1 &&& (7 : Int32))), .val (.int z), .val (.int (own_b (own_P z)))] [(.int z)])
      refine own_callS X0 hx hZ (y := (⟨"com/example/coterie/coterie/core/TextFile", "isWordSeparator", "(I)Z"⟩ : MethodName)) hown (hw _ (List.mem_of_getElem? (i := 0) rfl)) (hw _ (List.mem_of_getElem? (i := 1) rfl)) (hw _ (List.mem_of_getElem? (i := 2) rfl)) (hw _ (List.mem_of_getElem? (i := 3) rfl)) (by decide) e0 (rm1 l Z a0 hw [] z h0 n0 Z0) 0 (by decide) (by decide) (g := (mkF m 115 #[.val (.int p0), .val (.int p1), .val (.int (p1 &&& (7 : Int32))), .val (.int z), .val (.int (own_b (own_P z)))] [(.int z)])) rfl (by rw [hml]; rfl) (argsL := [(.int z)]) (rest := []) pd0 rfl rfl rfl (by show 2 * 0 + _ ≤ _; exact Nat.le_of_eq rfl) (hb hby at_115) (by decide) (by decide) ?_
      intro T4 v4 L4 X4 hQ4
      obtain ⟨rfl, N4q, e4⟩ := hQ4
      have N4 := Fr.app N0 N4q
      show own_Go p e s below _ _ _ T4 (mkF m 118 #[.val (.int p0), .val (.int p1), .val (.int (p1 &&& (7 : Int32))), .val (.int z), .val (.int (own_b (own_P z)))] [(.int (own_b (own_P z)))])
      refine own_st (fun _ k => XS.iload X4.here hx rfl (hb hby at_118) rfl k) ?_
      show own_Go p e s below _ _ _ T4 (mkF m 120 #[.val (.int p0), .val (.int p1), .val (.int (p1 &&& (7 : Int32))), .val (.int z), .val (.int (own_b (own_P z)))] [(.int (own_b (own_P z))), (.int (own_b (own_P z)))])
      refine own_st (fun _ k => XS.icmpNo X4.here hx rfl (hb hby at_120) rfl (teq (rfl : own_b (own_P z) = own_b (own_P z))).2 k) ?_
      show own_Go p e s below _ _ _ T4 (mkF m 123 #[.val (.int p0), .val (.int p1), .val (.int (p1 &&& (7 : Int32))), .val (.int z), .val (.int (own_b (own_P z)))] [])
      refine own_st (fun _ k => XS.iconst X4.here hx rfl (hb hby at_123) k) ?_
      show own_Go p e s below _ _ _ T4 (mkF m 124 #[.val (.int p0), .val (.int p1), .val (.int (p1 &&& (7 : Int32))), .val (.int z), .val (.int (own_b (own_P z)))] [(.int (1 : Int32))])
      refine own_st (fun _ k => XS.goto X4.here hx rfl (pc0 := 124) (pc' := 128) rfl (hb hby at_124) (by decide) (by decide) k) ?_
      show own_Go p e s below _ _ _ T4 (mkF m 128 #[.val (.int p0), .val (.int p1), .val (.int (p1 &&& (7 : Int32))), .val (.int z), .val (.int (own_b (own_P z)))] [(.int (1 : Int32))])
      exact own_retN X4 hx hlk (t := .boolean) hret (by simp) (hb hby at_128) (z' := (1 : Int32)) rfl (by decide) (by decide) ⟨rfl, N4⟩
    refine own_st (fun _ k => XS.iloadN X0.here hx rfl (hb hby at_89) rfl k) ?_
    show own_Go p e s below _ _ _ T0 (mkF m 90 #[.val (.int p0), .val (.int p1), .val (.int (p1 &&& (7 : Int32))), .val (.int z), .unset] [(.int z)])
    refine own_st (fun _ k => XS.bipush X0.here hx rfl (hb hby at_90) k) ?_
    show own_Go p e s below _ _ _ T0 (mkF m 92 #[.val (.int p0), .val (.int p1), .val (.int (p1 &&& (7 : Int32))), .val (.int z), .unset] [(.int (9 : Int32)), (.int z)])
    by_cases c92_5 : z = (9 : Int32)
    · refine own_st (fun _ k => XS.icmpYes X0.here hx rfl (pc0 := 92) (pc' := 107) rfl (hb hby at_92) rfl (teq c92_5).1 (by decide) (by decide) k) ?_
      show own_Go p e s below _ _ _ T0 (mkF m 107 #[.val (.int p0), .val (.int p1), .val (.int (p1 &&& (7 : Int32))), .val (.int z), .unset] [])
      refine own_st (fun _ k => XS.iconst X0.here hx rfl (hb hby at_107) k) ?_
      show own_Go p e s below _ _ _ T0 (mkF m 108 #[.val (.int p0), .val (.int p1), .val (.int (p1 &&& (7 : Int32))), .val (.int z), .unset] [(.int (1 : Int32))])
      refine own_st (fun _ k => XS.goto X0.here hx rfl (pc0 := 108) (pc' := 112) rfl (hb hby at_108) (by decide) (by decide) k) ?_
      show own_Go p e s below _ _ _ T0 (mkF m 112 #[.val (.int p0), .val (.int p1), .val (.int (p1 &&& (7 : Int32))), .val (.int z), .unset] [(.int (1 : Int32))])
      exact J112 _ (by rw [own_bt (by simp only [own_P, Int32.lt_iff_toInt_lt, ← Int32.toInt_inj, Int32.reduceToInt] at c92_5 ⊢; omega)])
    · refine own_st (fun _ k => XS.icmpNo X0.here hx rfl (hb hby at_92) rfl (feq c92_5).1 k) ?_
      show own_Go p e s below _ _ _ T0 (mkF m 95 #[.val (.int p0), .val (.int p1), .val (.int (p1 &&& (7 : Int32))), .val (.int z), .unset] [])
      refine own_st (fun _ k => XS.iloadN X0.here hx rfl (hb hby at_95) rfl k) ?_
      show own_Go p e s below _ _ _ T0 (mkF m 96 #[.val (.int p0), .val (.int p1), .val (.int (p1 &&& (7 : Int32))), .val (.int z), .unset] [(.int z)])
      refine own_st (fun _ k => XS.bipush X0.here hx rfl (hb hby at_96) k) ?_
      show own_Go p e s below _ _ _ T0 (mkF m 98 #[.val (.int p0), .val (.int p1), .val (.int (p1 &&& (7 : Int32))), .val (.int z), .unset] [(.int (12 : Int32)), (.int z)])
      by_cases c98_6 : z = (12 : Int32)
      · refine own_st (fun _ k => XS.icmpYes X0.here hx rfl (pc0 := 98) (pc' := 107) rfl (hb hby at_98) rfl (teq c98_6).1 (by decide) (by decide) k) ?_
        show own_Go p e s below _ _ _ T0 (mkF m 107 #[.val (.int p0), .val (.int p1), .val (.int (p1 &&& (7 : Int32))), .val (.int z), .unset] [])
        refine own_st (fun _ k => XS.iconst X0.here hx rfl (hb hby at_107) k) ?_
        show own_Go p e s below _ _ _ T0 (mkF m 108 #[.val (.int p0), .val (.int p1), .val (.int (p1 &&& (7 : Int32))), .val (.int z), .unset] [(.int (1 : Int32))])
        refine own_st (fun _ k => XS.goto X0.here hx rfl (pc0 := 108) (pc' := 112) rfl (hb hby at_108) (by decide) (by decide) k) ?_
        show own_Go p e s below _ _ _ T0 (mkF m 112 #[.val (.int p0), .val (.int p1), .val (.int (p1 &&& (7 : Int32))), .val (.int z), .unset] [(.int (1 : Int32))])
        exact J112 _ (by rw [own_bt (by simp only [own_P, Int32.lt_iff_toInt_lt, ← Int32.toInt_inj, Int32.reduceToInt] at c92_5 c98_6 ⊢; omega)])
      · refine own_st (fun _ k => XS.icmpNo X0.here hx rfl (hb hby at_98) rfl (feq c98_6).1 k) ?_
        show own_Go p e s below _ _ _ T0 (mkF m 101 #[.val (.int p0), .val (.int p1), .val (.int (p1 &&& (7 : Int32))), .val (.int z), .unset] [])
        refine own_st (fun _ k => XS.iloadN X0.here hx rfl (hb hby at_101) rfl k) ?_
        show own_Go p e s below _ _ _ T0 (mkF m 102 #[.val (.int p0), .val (.int p1), .val (.int (p1 &&& (7 : Int32))), .val (.int z), .unset] [(.int z)])
        refine own_st (fun _ k => XS.bipush X0.here hx rfl (hb hby at_102) k) ?_
        show own_Go p e s below _ _ _ T0 (mkF m 104 #[.val (.int p0), .val (.int p1), .val (.int (p1 &&& (7 : Int32))), .val (.int z), .unset] [(.int (32 : Int32)), (.int z)])
        by_cases c104_7 : z = (32 : Int32)
        · refine own_st (fun _ k => XS.icmpNo X0.here hx rfl (hb hby at_104) rfl (teq c104_7).2 k) ?_
          show own_Go p e s below _ _ _ T0 (mkF m 107 #[.val (.int p0), .val (.int p1), .val (.int (p1 &&& (7 : Int32))), .val (.int z), .unset] [])
          refine own_st (fun _ k => XS.iconst X0.here hx rfl (hb hby at_107) k) ?_
          show own_Go p e s below _ _ _ T0 (mkF m 108 #[.val (.int p0), .val (.int p1), .val (.int (p1 &&& (7 : Int32))), .val (.int z), .unset] [(.int (1 : Int32))])
          refine own_st (fun _ k => XS.goto X0.here hx rfl (pc0 := 108) (pc' := 112) rfl (hb hby at_108) (by decide) (by decide) k) ?_
          show own_Go p e s below _ _ _ T0 (mkF m 112 #[.val (.int p0), .val (.int p1), .val (.int (p1 &&& (7 : Int32))), .val (.int z), .unset] [(.int (1 : Int32))])
          exact J112 _ (by rw [own_bt (by simp only [own_P, Int32.lt_iff_toInt_lt, ← Int32.toInt_inj, Int32.reduceToInt] at c92_5 c98_6 c104_7 ⊢; omega)])
        · refine own_st (fun _ k => XS.icmpYes X0.here hx rfl (pc0 := 104) (pc' := 111) rfl (hb hby at_104) rfl (feq c104_7).2 (by decide) (by decide) k) ?_
          show own_Go p e s below _ _ _ T0 (mkF m 111 #[.val (.int p0), .val (.int p1), .val (.int (p1 &&& (7 : Int32))), .val (.int z), .unset] [])
          refine own_st (fun _ k => XS.iconst X0.here hx rfl (hb hby at_111) k) ?_
          show own_Go p e s below _ _ _ T0 (mkF m 112 #[.val (.int p0), .val (.int p1), .val (.int (p1 &&& (7 : Int32))), .val (.int z), .unset] [(.int (0 : Int32))])
          exact J112 _ (by rw [own_bf (by simp only [own_P, Int32.lt_iff_toInt_lt, ← Int32.toInt_inj, Int32.reduceToInt] at c92_5 c98_6 c104_7 ⊢; omega)])
  refine own_st (fun _ k => XS.iloadN X0.here hx rfl (hb hby at_0) rfl k) ?_
  show own_Go p e s below _ _ _ T0 (mkF m 1 #[.val (.int p0), .val (.int p1), .unset, .unset, .unset] [(.int p1)])
  refine own_st (fun _ k => XS.bipush X0.here hx rfl (hb hby at_1) k) ?_
  show own_Go p e s below _ _ _ T0 (mkF m 3 #[.val (.int p0), .val (.int p1), .unset, .unset, .unset] [(.int (7 : Int32)), (.int p1)])
  refine own_st (fun _ k => XS.iand X0.here hx rfl (hb hby at_3) rfl k) ?_
  show own_Go p e s below _ _ _ T0 (mkF m 4 #[.val (.int p0), .val (.int p1), .unset, .unset, .unset] [(.int (p1 &&& (7 : Int32)))])
  refine own_st (fun _ k => XS.istoreN X0.here hx rfl (hb hby at_4) rfl (l' := #[.val (.int p0), .val (.int p1), .val (.int (p1 &&& (7 : Int32))), .unset, .unset]) rfl k) ?_
  show own_Go p e s below _ _ _ T0 (mkF m 5 #[.val (.int p0), .val (.int p1), .val (.int (p1 &&& (7 : Int32))), .unset, .unset] [])
  refine own_st (fun _ k => XS.iloadN X0.here hx rfl (hb hby at_5) rfl k) ?_
  show own_Go p e s below _ _ _ T0 (mkF m 6 #[.val (.int p0), .val (.int p1), .val (.int (p1 &&& (7 : Int32))), .unset, .unset] [(.int (p1 &&& (7 : Int32)))])
  by_cases c6_8 : (p1 &&& (7 : Int32)) = (0 : Int32)
  · refine own_st (fun _ k => XS.ifNo X0.here hx rfl (hb hby at_6) rfl ((if0 _ _).trans (teq c6_8).2) k) ?_
    show own_Go p e s below _ _ _ T0 (mkF m 9 #[.val (.int p0), .val (.int p1), .val (.int (p1 &&& (7 : Int32))), .unset, .unset] [])
    refine own_st (fun _ k => XS.iloadN X0.here hx rfl (hb hby at_9) rfl k) ?_
    show own_Go p e s below _ _ _ T0 (mkF m 10 #[.val (.int p0), .val (.int p1), .val (.int (p1 &&& (7 : Int32))), .unset, .unset] [(.int p0)])
    refine own_st (fun _ k => XS.istoreN X0.here hx rfl (hb hby at_10) rfl (l' := #[.val (.int p0), .val (.int p1), .val (.int (p1 &&& (7 : Int32))), .val (.int p0), .unset]) rfl k) ?_
    show own_Go p e s below _ _ _ T0 (mkF m 11 #[.val (.int p0), .val (.int p1), .val (.int (p1 &&& (7 : Int32))), .val (.int p0), .unset] [])
    refine own_st (fun _ k => XS.goto X0.here hx rfl (pc0 := 11) (pc' := 89) rfl (hb hby at_11) (by decide) (by decide) k) ?_
    show own_Go p e s below _ _ _ T0 (mkF m 89 #[.val (.int p0), .val (.int p1), .val (.int (p1 &&& (7 : Int32))), .val (.int p0), .unset] [])
    exact J89 _
  · refine own_st (fun _ k => XS.ifYes X0.here hx rfl (pc0 := 6) (pc' := 14) rfl (hb hby at_6) rfl ((if0 _ _).trans (feq c6_8).2) (by decide) (by decide) k) ?_
    show own_Go p e s below _ _ _ T0 (mkF m 14 #[.val (.int p0), .val (.int p1), .val (.int (p1 &&& (7 : Int32))), .unset, .unset] [])
    refine own_st (fun _ k => XS.iloadN X0.here hx rfl (hb hby at_14) rfl k) ?_
    show own_Go p e s below _ _ _ T0 (mkF m 15 #[.val (.int p0), .val (.int p1), .val (.int (p1 &&& (7 : Int32))), .unset, .unset] [(.int (p1 &&& (7 : Int32)))])
    refine own_st (fun _ k => XS.iconst X0.here hx rfl (hb hby at_15) k) ?_
    show own_Go p e s below _ _ _ T0 (mkF m 16 #[.val (.int p0), .val (.int p1), .val (.int (p1 &&& (7 : Int32))), .unset, .unset] [(.int (1 : Int32)), (.int (p1 &&& (7 : Int32)))])
    by_cases c16_9 : (p1 &&& (7 : Int32)) = (1 : Int32)
    · refine own_st (fun _ k => XS.icmpNo X0.here hx rfl (hb hby at_16) rfl (teq c16_9).2 k) ?_
      show own_Go p e s below _ _ _ T0 (mkF m 19 #[.val (.int p0), .val (.int p1), .val (.int (p1 &&& (7 : Int32))), .unset, .unset] [])
      refine own_st (fun _ k => XS.bipush X0.here hx rfl (hb hby at_19) k) ?_
      show own_Go p e s below _ _ _ T0 (mkF m 21 #[.val (.int p0), .val (.int p1), .val (.int (p1 &&& (7 : Int32))), .unset, .unset] [(.int (9 : Int32))])
      refine own_st (fun _ k => XS.istoreN X0.here hx rfl (hb hby at_21) rfl (l' := #[.val (.int p0), .val (.int p1), .val (.int (p1 &&& (7 : Int32))), .val (.int (9 : Int32)), .unset]) rfl k) ?_
      show own_Go p e s below _ _ _ T0 (mkF m 22 #[.val (.int p0), .val (.int p1), .val (.int (p1 &&& (7 : Int32))), .val (.int (9 : Int32)), .unset] [])
      refine own_st (fun _ k => XS.goto X0.here hx rfl (pc0 := 22) (pc' := 89) rfl (hb hby at_22) (by decide) (by decide) k) ?_
      show own_Go p e s below _ _ _ T0 (mkF m 89 #[.val (.int p0), .val (.int p1), .val (.int (p1 &&& (7 : Int32))), .val (.int (9 : Int32)), .unset] [])
      exact J89 _
    · refine own_st (fun _ k => XS.icmpYes X0.here hx rfl (pc0 := 16) (pc' := 25) rfl (hb hby at_16) rfl (feq c16_9).2 (by decide) (by decide) k) ?_
      show own_Go p e s below _ _ _ T0 (mkF m 25 #[.val (.int p0), .val (.int p1), .val (.int (p1 &&& (7 : Int32))), .unset, .unset] [])
      refine own_st (fun _ k => XS.iloadN X0.here hx rfl (hb hby at_25) rfl k) ?_
      show own_Go p e s below _ _ _ T0 (mkF m 26 #[.val (.int p0), .val (.int p1), .val (.int (p1 &&& (7 : Int32))), .unset, .unset] [(.int (p1 &&& (7 : Int32)))])
      refine own_st (fun _ k => XS.iconst X0.here hx rfl (hb hby at_26) k) ?_
      show own_Go p e s below _ _ _ T0 (mkF m 27 #[.val (.int p0), .val (.int p1), .val (.int (p1 &&& (7 : Int32))), .unset, .unset] [(.int (2 : Int32)), (.int (p1 &&& (7 : Int32)))])
      by_cases c27_10 : (p1 &&& (7 : Int32)) = (2 : Int32)
      · refine own_st (fun _ k => XS.icmpNo X0.here hx rfl (hb hby at_27) rfl (teq c27_10).2 k) ?_
        show own_Go p e s below _ _ _ T0 (mkF m 30 #[.val (.int p0), .val (.int p1), .val (.int (p1 &&& (7 : Int32))), .unset, .unset] [])
        refine own_st (fun _ k => XS.bipush X0.here hx rfl (hb hby at_30) k) ?_
        show own_Go p e s below _ _ _ T0 (mkF m 32 #[.val (.int p0), .val (.int p1), .val (.int (p1 &&& (7 : Int32))), .unset, .unset] [(.int (12 : Int32))])
        refine own_st (fun _ k => XS.istoreN X0.here hx rfl (hb hby at_32) rfl (l' := #[.val (.int p0), .val (.int p1), .val (.int (p1 &&& (7 : Int32))), .val (.int (12 : Int32)), .unset]) rfl k) ?_
        show own_Go p e s below _ _ _ T0 (mkF m 33 #[.val (.int p0), .val (.int p1), .val (.int (p1 &&& (7 : Int32))), .val (.int (12 : Int32)), .unset] [])
        refine own_st (fun _ k => XS.goto X0.here hx rfl (pc0 := 33) (pc' := 89) rfl (hb hby at_33) (by decide) (by decide) k) ?_
        show own_Go p e s below _ _ _ T0 (mkF m 89 #[.val (.int p0), .val (.int p1), .val (.int (p1 &&& (7 : Int32))), .val (.int (12 : Int32)), .unset] [])
        exact J89 _
      · refine own_st (fun _ k => XS.icmpYes X0.here hx rfl (pc0 := 27) (pc' := 36) rfl (hb hby at_27) rfl (feq c27_10).2 (by decide) (by decide) k) ?_
        show own_Go p e s below _ _ _ T0 (mkF m 36 #[.val (.int p0), .val (.int p1), .val (.int (p1 &&& (7 : Int32))), .unset, .unset] [])
        refine own_st (fun _ k => XS.iloadN X0.here hx rfl (hb hby at_36) rfl k) ?_
        show own_Go p e s below _ _ _ T0 (mkF m 37 #[.val (.int p0), .val (.int p1), .val (.int (p1 &&& (7 : Int32))), .unset, .unset] [(.int (p1 &&& (7 : Int32)))])
        refine own_st (fun _ k => XS.iconst X0.here hx rfl (hb hby at_37) k) ?_
        show own_Go p e s below _ _ _ T0 (mkF m 38 #[.val (.int p0), .val (.int p1), .val (.int (p1 &&& (7 : Int32))), .unset, .unset] [(.int (3 : Int32)), (.int (p1 &&& (7 : Int32)))])
        by_cases c38_11 : (p1 &&& (7 : Int32)) = (3 : Int32)
        · refine own_st (fun _ k => XS.icmpNo X0.here hx rfl (hb hby at_38) rfl (teq c38_11).2 k) ?_
          show own_Go p e s below _ _ _ T0 (mkF m 41 #[.val (.int p0), .val (.int p1), .val (.int (p1 &&& (7 : Int32))), .unset, .unset] [])
          refine own_st (fun _ k => XS.bipush X0.here hx rfl (hb hby at_41) k) ?_
          show own_Go p e s below _ _ _ T0 (mkF m 43 #[.val (.int p0), .val (.int p1), .val (.int (p1 &&& (7 : Int32))), .unset, .unset] [(.int (32 : Int32))])
          refine own_st (fun _ k => XS.istoreN X0.here hx rfl (hb hby at_43) rfl (l' := #[.val (.int p0), .val (.int p1), .val (.int (p1 &&& (7 : Int32))), .val (.int (32 : Int32)), .unset]) rfl k) ?_
          show own_Go p e s below _ _ _ T0 (mkF m 44 #[.val (.int p0), .val (.int p1), .val (.int (p1 &&& (7 : Int32))), .val (.int (32 : Int32)), .unset] [])
          refine own_st (fun _ k => XS.goto X0.here hx rfl (pc0 := 44) (pc' := 89) rfl (hb hby at_44) (by decide) (by decide) k) ?_
          show own_Go p e s below _ _ _ T0 (mkF m 89 #[.val (.int p0), .val (.int p1), .val (.int (p1 &&& (7 : Int32))), .val (.int (32 : Int32)), .unset] [])
          exact J89 _
        · refine own_st (fun _ k => XS.icmpYes X0.here hx rfl (pc0 := 38) (pc' := 47) rfl (hb hby at_38) rfl (feq c38_11).2 (by decide) (by decide) k) ?_
          show own_Go p e s below _ _ _ T0 (mkF m 47 #[.val (.int p0), .val (.int p1), .val (.int (p1 &&& (7 : Int32))), .unset, .unset] [])
          refine own_st (fun _ k => XS.iloadN X0.here hx rfl (hb hby at_47) rfl k) ?_
          show own_Go p e s below _ _ _ T0 (mkF m 48 #[.val (.int p0), .val (.int p1), .val (.int (p1 &&& (7 : Int32))), .unset, .unset] [(.int (p1 &&& (7 : Int32)))])
          refine own_st (fun _ k => XS.iconst X0.here hx rfl (hb hby at_48) k) ?_
          show own_Go p e s below _ _ _ T0 (mkF m 49 #[.val (.int p0), .val (.int p1), .val (.int (p1 &&& (7 : Int32))), .unset, .unset] [(.int (4 : Int32)), (.int (p1 &&& (7 : Int32)))])
          by_cases c49_12 : (p1 &&& (7 : Int32)) = (4 : Int32)
          · refine own_st (fun _ k => XS.icmpNo X0.here hx rfl (hb hby at_49) rfl (teq c49_12).2 k) ?_
            show own_Go p e s below _ _ _ T0 (mkF m 52 #[.val (.int p0), .val (.int p1), .val (.int (p1 &&& (7 : Int32))), .unset, .unset] [])
            refine own_st (fun _ k => XS.bipush X0.here hx rfl (hb hby at_52) k) ?_
            show own_Go p e s below _ _ _ T0 (mkF m 54 #[.val (.int p0), .val (.int p1), .val (.int (p1 &&& (7 : Int32))), .unset, .unset] [(.int (10 : Int32))])
            refine own_st (fun _ k => XS.istoreN X0.here hx rfl (hb hby at_54) rfl (l' := #[.val (.int p0), .val (.int p1), .val (.int (p1 &&& (7 : Int32))), .val (.int (10 : Int32)), .unset]) rfl k) ?_
            show own_Go p e s below _ _ _ T0 (mkF m 55 #[.val (.int p0), .val (.int p1), .val (.int (p1 &&& (7 : Int32))), .val (.int (10 : Int32)), .unset] [])
            refine own_st (fun _ k => XS.goto X0.here hx rfl (pc0 := 55) (pc' := 89) rfl (hb hby at_55) (by decide) (by decide) k) ?_
            show own_Go p e s below _ _ _ T0 (mkF m 89 #[.val (.int p0), .val (.int p1), .val (.int (p1 &&& (7 : Int32))), .val (.int (10 : Int32)), .unset] [])
            exact J89 _
          · refine own_st (fun _ k => XS.icmpYes X0.here hx rfl (pc0 := 49) (pc' := 58) rfl (hb hby at_49) rfl (feq c49_12).2 (by decide) (by decide) k) ?_
            show own_Go p e s below _ _ _ T0 (mkF m 58 #[.val (.int p0), .val (.int p1), .val (.int (p1 &&& (7 : Int32))), .unset, .unset] [])
            refine own_st (fun _ k => XS.iloadN X0.here hx rfl (hb hby at_58) rfl k) ?_
            show own_Go p e s below _ _ _ T0 (mkF m 59 #[.val (.int p0), .val (.int p1), .val (.int (p1 &&& (7 : Int32))), .unset, .unset] [(.int (p1 &&& (7 : Int32)))])
            refine own_st (fun _ k => XS.iconst X0.here hx rfl (hb hby at_59) k) ?_
            show own_Go p e s below _ _ _ T0 (mkF m 60 #[.val (.int p0), .val (.int p1), .val (.int (p1 &&& (7 : Int32))), .unset, .unset] [(.int (5 : Int32)), (.int (p1 &&& (7 : Int32)))])
            by_cases c60_13 : (p1 &&& (7 : Int32)) = (5 : Int32)
            · refine own_st (fun _ k => XS.icmpNo X0.here hx rfl (hb hby at_60) rfl (teq c60_13).2 k) ?_
              show own_Go p e s below _ _ _ T0 (mkF m 63 #[.val (.int p0), .val (.int p1), .val (.int (p1 &&& (7 : Int32))), .unset, .unset] [])
              refine own_st (fun _ k => XS.bipush X0.here hx rfl (hb hby at_63) k) ?_
              show own_Go p e s below _ _ _ T0 (mkF m 65 #[.val (.int p0), .val (.int p1), .val (.int (p1 &&& (7 : Int32))), .unset, .unset] [(.int (13 : Int32))])
              refine own_st (fun _ k => XS.istoreN X0.here hx rfl (hb hby at_65) rfl (l' := #[.val (.int p0), .val (.int p1), .val (.int (p1 &&& (7 : Int32))), .val (.int (13 : Int32)), .unset]) rfl k) ?_
              show own_Go p e s below _ _ _ T0 (mkF m 66 #[.val (.int p0), .val (.int p1), .val (.int (p1 &&& (7 : Int32))), .val (.int (13 : Int32)), .unset] [])
              refine own_st (fun _ k => XS.goto X0.here hx rfl (pc0 := 66) (pc' := 89) rfl (hb hby at_66) (by decide) (by decide) k) ?_
              show own_Go p e s below _ _ _ T0 (mkF m 89 #[.val (.int p0), .val (.int p1), .val (.int (p1 &&& (7 : Int32))), .val (.int (13 : Int32)), .unset] [])
              exact J89 _
            · refine own_st (fun _ k => XS.icmpYes X0.here hx rfl (pc0 := 60) (pc' := 69) rfl (hb hby at_60) rfl (feq c60_13).2 (by decide) (by decide) k) ?_
              show own_Go p e s below _ _ _ T0 (mkF m 69 #[.val (.int p0), .val (.int p1), .val (.int (p1 &&& (7 : Int32))), .unset, .unset] [])
              refine own_st (fun _ k => XS.iloadN X0.here hx rfl (hb hby at_69) rfl k) ?_
              show own_Go p e s below _ _ _ T0 (mkF m 70 #[.val (.int p0), .val (.int p1), .val (.int (p1 &&& (7 : Int32))), .unset, .unset] [(.int (p1 &&& (7 : Int32)))])
              refine own_st (fun _ k => XS.bipush X0.here hx rfl (hb hby at_70) k) ?_
              show own_Go p e s below _ _ _ T0 (mkF m 72 #[.val (.int p0), .val (.int p1), .val (.int (p1 &&& (7 : Int32))), .unset, .unset] [(.int (6 : Int32)), (.int (p1 &&& (7 : Int32)))])
              by_cases c72_14 : (p1 &&& (7 : Int32)) = (6 : Int32)
              · refine own_st (fun _ k => XS.icmpNo X0.here hx rfl (hb hby at_72) rfl (teq c72_14).2 k) ?_
                show own_Go p e s below _ _ _ T0 (mkF m 75 #[.val (.int p0), .val (.int p1), .val (.int (p1 &&& (7 : Int32))), .unset, .unset] [])
                refine own_st (fun _ k => XS.bipush X0.here hx rfl (hb hby at_75) k) ?_
                show own_Go p e s below _ _ _ T0 (mkF m 77 #[.val (.int p0), .val (.int p1), .val (.int (p1 &&& (7 : Int32))), .unset, .unset] [(.int (11 : Int32))])
                refine own_st (fun _ k => XS.istoreN X0.here hx rfl (hb hby at_77) rfl (l' := #[.val (.int p0), .val (.int p1), .val (.int (p1 &&& (7 : Int32))), .val (.int (11 : Int32)), .unset]) rfl k) ?_
                show own_Go p e s below _ _ _ T0 (mkF m 78 #[.val (.int p0), .val (.int p1), .val (.int (p1 &&& (7 : Int32))), .val (.int (11 : Int32)), .unset] [])
                refine own_st (fun _ k => XS.goto X0.here hx rfl (pc0 := 78) (pc' := 89) rfl (hb hby at_78) (by decide) (by decide) k) ?_
                show own_Go p e s below _ _ _ T0 (mkF m 89 #[.val (.int p0), .val (.int p1), .val (.int (p1 &&& (7 : Int32))), .val (.int (11 : Int32)), .unset] [])
                exact J89 _
              · refine own_st (fun _ k => XS.icmpYes X0.here hx rfl (pc0 := 72) (pc' := 81) rfl (hb hby at_72) rfl (feq c72_14).2 (by decide) (by decide) k) ?_
                show own_Go p e s below _ _ _ T0 (mkF m 81 #[.val (.int p0), .val (.int p1), .val (.int (p1 &&& (7 : Int32))), .unset, .unset] [])
                refine own_st (fun _ k => XS.bipush X0.here hx rfl (hb hby at_81) k) ?_
                show own_Go p e s below _ _ _ T0 (mkF m 83 #[.val (.int p0), .val (.int p1), .val (.int (p1 &&& (7 : Int32))), .unset, .unset] [(.int (32 : Int32))])
                refine own_st (fun _ k => XS.iloadN X0.here hx rfl (hb hby at_83) rfl k) ?_
                show own_Go p e s below _ _ _ T0 (mkF m 84 #[.val (.int p0), .val (.int p1), .val (.int (p1 &&& (7 : Int32))), .unset, .unset] [(.int p0), (.int (32 : Int32))])
                refine own_st (fun _ k => XS.bipush X0.here hx rfl (hb hby at_84) k) ?_
                show own_Go p e s below _ _ _ T0 (mkF m 86 #[.val (.int p0), .val (.int p1), .val (.int (p1 &&& (7 : Int32))), .unset, .unset] [(.int (16 : Int32)), (.int p0), (.int (32 : Int32))])
                refine own_st (fun _ k => XS.ishl X0.here hx rfl (hb hby at_86) rfl k) ?_
                show own_Go p e s below _ _ _ T0 (mkF m 87 #[.val (.int p0), .val (.int p1), .val (.int (p1 &&& (7 : Int32))), .unset, .unset] [(.int (p0 <<< ((16 : Int32) &&& 31))), (.int (32 : Int32))])
                refine own_st (fun _ k => XS.iadd X0.here hx rfl (hb hby at_87) rfl k) ?_
                show own_Go p e s below _ _ _ T0 (mkF m 88 #[.val (.int p0), .val (.int p1), .val (.int (p1 &&& (7 : Int32))), .unset, .unset] [(.int ((32 : Int32) + (p0 <<< ((16 : Int32) &&& 31))))])
                refine own_st (fun _ k => XS.istoreN X0.here hx rfl (hb hby at_88) rfl (l' := #[.val (.int p0), .val (.int p1), .val (.int (p1 &&& (7 : Int32))), .val (.int ((32 : Int32) + (p0 <<< ((16 : Int32) &&& 31)))), .unset]) rfl k) ?_
                show own_Go p e s below _ _ _ T0 (mkF m 89 #[.val (.int p0), .val (.int p1), .val (.int (p1 &&& (7 : Int32))), .val (.int ((32 : Int32) + (p0 <<< ((16 : Int32) &&& 31)))), .unset] [])
                exact J89 _
set_option maxRecDepth 65536 in
set_option maxHeartbeats 40000000 in
theorem comes_1 {Post : Tables → Env → Array Value → State → Outcome → State → Prop} (hpost : ∀ tb e args s v u, (limb_1_1.after args s (.returned v) u = true ∧ limb_1_2.after args s (.returned v) u = true ∧ True) → FrameEnd s (.returned v) u (Jvm.fieldLocs frame_1_writes args s ++ Jvm.arrayLocs frame_1_arrays args s ++ Jvm.staticLocs frame_1_statics s) 0 0 → Post tb e args s (.returned v) u) :
    ArmFor flags0 classFile x code maxLocals ret World_1 tables_1 room_1 Calls_1 rest_1 Pre_1 Post := by
  intro l hfl _ _ p e ha hc hk s m args below hf hA hF happ hP
  obtain ⟨hcalls, hrest, hpre⟩ := hP
  obtain ⟨-, -, -, hnamed, -, -, -, hat⟩ := (Spec.applies_iff hf).mp happ
  obtain ⟨hg, hn⟩ := and_e (Cond.before_iff.mp (show (Jvm.Cond.and given_1 narrow_1).before args s = true from hpre))
  obtain ⟨h1, hr0⟩ := and_e hg
  obtain ⟨w0, w1, rfl⟩ : ∃ w0 w1 : Value, args = #[w0, w1] := by
    have hs : args.size = 2 := by simpa [Cond.value, given_1] using h1
    obtain ⟨L⟩ := args
    match L, hs with
    | [w0, w1], _ => exact ⟨w0, w1, rfl⟩
  have hw := fun d (hd : d ∈ tables_1) => atoms_spec (ws := Jvm.Cond.code x code maxLocals ret :: tables_1) hat d (List.mem_cons_of_mem _ hd)
  obtain ⟨ha0, hr1⟩ := and_e hr0
  obtain ⟨i0, e0⟩ := is_v ha0
  obtain rfl : w0 = (.int i0) := Option.some.inj e0
  obtain ⟨i1, e1⟩ := is_v hr1
  obtain rfl : w1 = (.int i1) := Option.some.inj e1
  obtain ⟨n, o, h1, h2, h3, _, L, rfl, ⟨rfl, N⟩, hq⟩ := rm0 l s _ hw tables_1 i0 i1 s.heap s.heap.size (Nat.le_refl _) p e ha hc hk s m _ below hf ((Spec.applies_iff_loose hf).mp happ).1 ⟨rfl, State.Warmed39.refl s, rfl⟩ trivial
  refine ⟨n, _, h1, h2, h3, hpost _ _ _ _ _ _ ⟨Cond.after_iff.mpr rfl, Cond.after_iff.mpr (eq_i res_at (Term.int_eval (1)) rfl), trivial⟩ ⟨hq.1, hq.2.1, (hq.2.2.sift fun y hy => Or.inr (N y hy)).mono (by decide) (by decide)⟩⟩
theorem main_1_1 : Claimed_1_1 := comes_1 fun _ _ _ _ _ _ h hF => ⟨h.1, hF⟩
theorem main_1_2 : Claimed_1_2 := comes_1 fun _ _ _ _ _ _ h hF => ⟨h.2.1, hF⟩
end Jvm.Pilot.@@N@@
namespace Jvm.Pilot.@@N@@
open Jvm Jvm.ClassFile Sem Op Lib Jvm.Free Jvm.Stand Jvm.Pilot.@@N@@.Jvm.D
/-! MADE BY PROGRAM (witnessworld.py) out of the Statement's table words and the real class files: 9 classes; the members and pool entries that the words name. The judged class is class 1, her method 1. -/
namespace start1
open Jvm.ClassFile
def u (s : String) : CpInfo := .utf8 (stringToUtf16 s)
/-- a pool by its gaps: so many unusable entries, then the entry; so many at the end -/
def gap : Nat → List CpInfo → List CpInfo
  | 0, r => r
  | n + 1, r => .unusable :: gap n r
def poolList (es : List (Nat × CpInfo)) (last : Nat) : List CpInfo := es.foldr (fun e r => gap e.1 (e.2 :: r)) (gap last [])
def pool (es : List (Nat × CpInfo)) (last : Nat) : Array CpInfo := ⟨poolList es last⟩
def fileOf (pool : Array CpInfo) (this : Nat) (attrs : Array Attribute := #[]) (ms : Array MethodInfo := #[]) (fl : Nat := 33) (sup : Nat := 0) (ifs : Array Nat := #[]) (fds : Array FieldInfo := #[]) : ClassFile where
  minorVersion := 0
  majorVersion := 65
  constantPool := pool
  accessFlags := fl
  thisClass := this
  superClass := sup
  interfaces := ifs
  fields := fds
  methods := ms
  attributes := attrs
def plain (name : String) (sup : Option ClassId) : Class where
  name := name
  kind := .ordinary
  loader := none
  accessFlags := 33
  super := sup
  interfaces := #[]
  cf := none
  fields := #[]
  methods := #[]
  instanceTypes := #[]
  staticTypes := #[]
  resolved := #[]
  callSites := []
  init := .initialized
  statics := none
  mirror := none

def pool0 : Array CpInfo := pool [(5, u "<init>"), (0, u "()V"), (1, .class_ 10), (1, u "java/lang/Object")] 113

def k0m0 : Method := { name := "<init>", desc := "()V", sig := { parameters := [], returnType := none }, accessFlags := 1, code := none }
/-- java/lang/Object -/
def k0 : Class := { plain "java/lang/Object" none with
  accessFlags := 33
  interfaces := #[]
  cf := some (fileOf pool0 8 #[] #[{ accessFlags := 1, nameIndex := 5, descriptorIndex := 6, attributes := #[] }] 33 0 #[] #[])
  fields := #[]
  methods := #[k0m0]
  instanceTypes := #[]
  staticTypes := #[]
  resolved := Array.replicate 124 none
  statics := none }

def pool1 : Array CpInfo := pool [(2, .class_ 4), (1, u "java/lang/Object"), (0, u "<init>"), (0, u "()V"), (0, .methodref 8 9), (0, .class_ 10), (0, .nameAndType 11 12), (0, u "com/example/coterie/coterie/core/TextFile"), (0, u "isWordSeparator"), (0, u "(I)Z"), (0, .class_ 14), (0, u "com/example/coterie/coterie/core/TextFileIsWordSeparatorPinLaw"), (2, u "law"), (0, u "(II)Z")] 3

def k1m0 : Method := { name := "<init>", desc := "()V", sig := { parameters := [], returnType := none }, accessFlags := 1, code := none }
def k1c1 : Code := { maxStack := 3, maxLocals := 5, code := code, exceptionTable := #[], attributes := #[] }
def k1m1 : Method := { name := "law", desc := "(II)Z", sig := { parameters := [.int, .int], returnType := some .boolean }, accessFlags := 9, code := some k1c1 }
/-- com/example/coterie/coterie/core/TextFileIsWordSeparatorPinLaw -/
def k1 : Class := { plain "com/example/coterie/coterie/core/TextFileIsWordSeparatorPinLaw" (some 0) with
  accessFlags := 49
  interfaces := #[]
  cf := some (fileOf pool1 13 #[] #[{ accessFlags := 1, nameIndex := 5, descriptorIndex := 6, attributes := #[] }, { accessFlags := 9, nameIndex := 17, descriptorIndex := 18, attributes := #[] }] 49 2 #[] #[])
  fields := #[]
  methods := #[k1m0, k1m1]
  instanceTypes := #[]
  staticTypes := #[]
  resolved := Array.replicate 22 none
  statics := none }

def pool2 : Array CpInfo := pool [(1, .class_ 2), (0, u "com/example/coterie/coterie/core/TextFile"), (1, .class_ 6), (1, u "java/lang/Object"), (0, u "<init>"), (0, u "()V"), (9, .class_ 20), (1, u "com/example/coterie/coterie/core/TextFile$Reader"), (78, u "(I)Z"), (21, .class_ 122), (0, u "com/example/coterie/coterie/core/TextFile$1"), (158, u "startingDescriptors"), (0, u "Ljava/util/Set;"), (49, .class_ 333), (0, u "com/example/coterie/coterie/core/TextFile$Folder"), (58, u "BLOCK"), (0, u "I"), (1, u "LEAST_BLOCK"), (1, u "MOST_LINKS"), (1, u "NOT_A_FOLDER"), (0, u "Ljava/lang/String;"), (0, u "LINKS_LOOP"), (0, u "LEADS_NOWHERE"), (0, u "NOT_STANDARD_OUTPUT"), (13, u "isWordSeparator"), (17, .class_ 436), (0, u "com/example/coterie/coterie/core/TextFile$Folder$NamedOutput"), (0, .class_ 438), (0, u "com/example/coterie/coterie/core/TextFile$Folder$NamedOutput$Call"), (0, .class_ 440), (0, u "com/example/coterie/coterie/core/TextFile$Content")] 25

def k2m0 : Method := { name := "<init>", desc := "()V", sig := { parameters := [], returnType := none }, accessFlags := 2, code := none }
def k2c1 : Code := { maxStack := 2, maxLocals := 1, code := prog_115_method_4_code, exceptionTable := #[], attributes := #[] }
def k2m1 : Method := { name := "isWordSeparator", desc := "(I)Z", sig := { parameters := [.int], returnType := some .boolean }, accessFlags := 9, code := some k2c1 }
/-- com/example/coterie/coterie/core/TextFile -/
def k2 : Class := { plain "com/example/coterie/coterie/core/TextFile" (some 0) with
  accessFlags := 49
  interfaces := #[]
  cf := some (fileOf pool2 1 #[.nestMembers #[18, 332, 435, 437, 439, 121]] #[{ accessFlags := 2, nameIndex := 7, descriptorIndex := 8, attributes := #[] }, { accessFlags := 9, nameIndex := 417, descriptorIndex := 99, attributes := #[] }] 49 4 #[] #[{ accessFlags := 24, nameIndex := 392, descriptorIndex := 393, attributes := #[] }, { accessFlags := 24, nameIndex := 395, descriptorIndex := 393, attributes := #[] }, { accessFlags := 26, nameIndex := 397, descriptorIndex := 393, attributes := #[] }, { accessFlags := 26, nameIndex := 399, descriptorIndex := 400, attributes := #[] }, { accessFlags := 26, nameIndex := 401, descriptorIndex := 400, attributes := #[] }, { accessFlags := 26, nameIndex := 402, descriptorIndex := 400, attributes := #[] }, { accessFlags := 26, nameIndex := 403, descriptorIndex := 400, attributes := #[] }, { accessFlags := 74, nameIndex := 281, descriptorIndex := 282, attributes := #[] }])
  fields := #[{ name := "BLOCK", type := .int, accessFlags := 24, slot := 0, constantValue := 0 }, { name := "LEAST_BLOCK", type := .int, accessFlags := 24, slot := 1, constantValue := 0 }, { name := "MOST_LINKS", type := .int, accessFlags := 26, slot := 2, constantValue := 0 }, { name := "NOT_A_FOLDER", type := (.object "java/lang/String"), accessFlags := 26, slot := 3, constantValue := 0 }, { name := "LINKS_LOOP", type := (.object "java/lang/String"), accessFlags := 26, slot := 4, constantValue := 0 }, { name := "LEADS_NOWHERE", type := (.object "java/lang/String"), accessFlags := 26, slot := 5, constantValue := 0 }, { name := "NOT_STANDARD_OUTPUT", type := (.object "java/lang/String"), accessFlags := 26, slot := 6, constantValue := 0 }, { name := "startingDescriptors", type := (.object "java/util/Set"), accessFlags := 74, slot := 7, constantValue := 0 }]
  methods := #[k2m0, k2m1]
  instanceTypes := #[]
  staticTypes := #[.int, .int, .int, (.object "java/lang/String"), (.object "java/lang/String"), (.object "java/lang/String"), (.object "java/lang/String"), (.object "java/util/Set")]
  resolved := Array.replicate 466 none
  statics := none }

def pool3 : Array CpInfo := pool [(1, u "java/lang/Cloneable"), (0, .class_ 1), (0, u "java/lang/Object"), (0, .class_ 3)] 3

/-- java/lang/Cloneable -/
def k3 : Class := { plain "java/lang/Cloneable" (some 0) with
  accessFlags := 1537
  interfaces := #[]
  cf := some (fileOf pool3 2 #[] #[] 1537 4 #[] #[])
  fields := #[]
  methods := #[]
  instanceTypes := #[]
  staticTypes := #[]
  resolved := Array.replicate 8 none
  statics := none }

def pool4 : Array CpInfo := pool [(1, u "java/io/Serializable"), (0, .class_ 1), (0, u "java/lang/Object"), (0, .class_ 3)] 3

/-- java/io/Serializable -/
def k4 : Class := { plain "java/io/Serializable" (some 0) with
  accessFlags := 1537
  interfaces := #[]
  cf := some (fileOf pool4 2 #[] #[] 1537 4 #[] #[])
  fields := #[]
  methods := #[]
  instanceTypes := #[]
  staticTypes := #[]
  resolved := Array.replicate 8 none
  statics := none }

/-- the primitive byte -/
def k5 : Class := { plain "byte" none with kind := .primitive 'B', accessFlags := 0x411 }
/-- [B -/
def k6 : Class := { plain "[B" (some 0) with kind := .array 5 .byte, interfaces := #[3, 4], accessFlags := 1041 }

/-- the primitive int -/
def k7 : Class := { plain "int" none with kind := .primitive 'I', accessFlags := 0x411 }
/-- [I -/
def k8 : Class := { plain "[I" (some 0) with kind := .array 7 .int, interfaces := #[3, 4], accessFlags := 1041 }

def heap : Heap := #[]
def classes : Array Class := #[k0, k1, k2, k3, k4, k5, k6, k7, k8]
def interned : List (Array UInt16 × Addr) := []
def slotsUsed : Nat := 0
def theMethod : MethodId := ⟨1, 1⟩
def args0 : Array Value := #[.int 5, .int 300]
def aboutOver (below : List Frame) : State where
  vm := { classes := classes, interned := interned.toArray }
  heap := heap
  slotsUsed := slotsUsed
  threads := #[{ frames := .invoking theMethod args0 :: below }]
def below0 : List Frame := [.native { method := ⟨0, 0⟩, args := #[] }]
def about1 : State := aboutOver below0
def p0 : Program := .bare "" "" ""
def e0 : Env := launch0.env 0 0 0
theorem w_frames : about1.frames = Frame.invoking theMethod args0 :: below0 := rfl
set_option maxRecDepth 65536 in
theorem w_args : argsFit about1.vm theMethod args0 = true := by decide +kernel
set_option maxRecDepth 65536 in
theorem w_heap : heapFits about1 = true := by decide +kernel
set_option maxRecDepth 65536 in
theorem w_runnable : about1.curStatus? = some .runnable := by decide +kernel
set_option maxRecDepth 65536 in
theorem w_alone : about1.alone = true := by decide +kernel
set_option maxRecDepth 65536 in
theorem w_named : about1.methodNamed? x = some theMethod := by decide +kernel
set_option maxRecDepth 65536 in
theorem w_hears : about1.hears theMethod below0 = true := by decide +kernel
set_option maxRecDepth 65536 in
theorem w_ripe : about1.ripe theMethod args0 below0 = true := by decide +kernel
theorem w_running : about1.status = .running := rfl
set_option maxRecDepth 65536 in
theorem w_room : about1.hasRoom e0.platform room_1 = true :=
  launch0.hasRoom_least _ room_1 (by decide +kernel) (by decide +kernel) (by decide +kernel) (by decide +kernel) (by decide +kernel) (by decide +kernel)
theorem allAtoms_all (ts : List Jvm.Cond) (a : Array Jvm.Value) (st : Jvm.State) : (allAtoms ts).before a st = ts.all (fun c => c.before a st) := by
  induction ts with
  | nil => rfl
  | cons c t ih =>
    show (Jvm.Cond.and c (allAtoms t)).before a st = _
    rw [Jvm.Cond.before_and, ih, List.all_cons]
def words1 : List Jvm.Cond := Jvm.Cond.code x code maxLocals ret :: tables_1
/-- a 'code' word, met by the world's own term for the bytes: nothing is compared byte by byte -/
theorem code_word {y : MethodName} {bytes : ByteArray} {mx : Nat} {rt : Option FieldType} {a : Array Value} {s : State} {m : MethodId} {meth : Method} {c : Code} (h1 : s.methodNamed? y = some m) (h2 : s.vm.method? m = some meth) (h3 : meth.code = some c) (h4 : c.code = bytes)
    (h5 : (c.maxLocals == mx && c.exceptionTable.isEmpty && decide (c.maxStack ≤ mostOperands) && decide (meth.sig.returnType = rt) && !meth.locks && decide (parseMethodDescriptor y.desc = some meth.sig)) = true) : (Jvm.Cond.code y bytes mx rt).before a s = true := by
  simp only [Bool.and_eq_true, beq_iff_eq, Bool.not_eq_true', decide_eq_true_eq] at h5
  obtain ⟨⟨⟨⟨⟨g1, g2⟩, g3⟩, g4⟩, g5⟩, g6⟩ := h5
  simp [Cond.before, Cond.holds, Cond.value, h1, h2, h3, h4, g1, g2, g3, g4, g5, g6]
def isCode : Jvm.Cond → Bool
  | .code _ _ _ _ => true
  | _ => false
theorem all_split {L : List Jvm.Cond} {P : Jvm.Cond → Bool} (h1 : L.all (fun c => isCode c || P c) = true) (h2 : ∀ c ∈ L.filter isCode, P c = true) : L.all P = true := by
  refine List.all_eq_true.mpr fun c hc => ?_
  have h := List.all_eq_true.mp h1 c hc
  rcases Bool.eq_false_or_eq_true (isCode c) with hi | hi
  · exact h2 c (List.mem_filter.mpr ⟨hc, hi⟩)
  · simpa [hi] using h
set_option maxRecDepth 65536 in
theorem w_c0 : (Jvm.Cond.code x code maxLocals ret).before args0 about1 = true := code_word (m := ⟨1, 1⟩) (meth := k1m1) (c := k1c1) (by decide +kernel) rfl rfl rfl (by decide +kernel)
set_option maxRecDepth 65536 in
theorem w_c1 : (Jvm.Cond.code ({ cls := "com/example/coterie/coterie/core/TextFile", name := "isWordSeparator", desc := "(I)Z" } : Jvm.MethodName) prog_115_method_4_code (1 : Nat) (Option.some Jvm.ClassFile.FieldType.boolean)).before args0 about1 = true := code_word (m := ⟨2, 1⟩) (meth := k2m1) (c := k2c1) (by decide +kernel) rfl rfl rfl (by decide +kernel)
def codes1 : List Jvm.Cond := [Jvm.Cond.code x code maxLocals ret, Jvm.Cond.code ({ cls := "com/example/coterie/coterie/core/TextFile", name := "isWordSeparator", desc := "(I)Z" } : Jvm.MethodName) prog_115_method_4_code (1 : Nat) (Option.some Jvm.ClassFile.FieldType.boolean)]
set_option maxRecDepth 65536 in
theorem codes_eq : words1.filter isCode = codes1 := rfl
theorem w_codes : ∀ c ∈ words1.filter isCode, c.before args0 about1 = true := by
  rw [codes_eq]
  intro c hc
  simp only [codes1, List.mem_cons, List.not_mem_nil, or_false] at hc
  rcases hc with rfl | rfl
  · exact w_c0
  · exact w_c1
set_option maxRecDepth 65536 in
theorem w_t1 : words1.all (fun c => isCode c || c.before args0 about1) = true := by decide +kernel
theorem w_tables : (allAtoms (Jvm.Cond.code x code maxLocals ret :: tables_1)).before args0 about1 = true := by
  rw [allAtoms_all]
  show words1.all (fun c => c.before args0 about1) = true
  refine all_split ?_ w_codes
  rw [w_t1]
set_option maxRecDepth 65536 in
theorem w_case : (Jvm.Cond.and given_1 narrow_1).before args0 about1 = true := by decide +kernel
theorem w_applies : (headSpec (Jvm.Cond.code x code maxLocals ret :: tables_1) room_1).applies x e0.platform about1 = true :=
  (Spec.applies_iff w_frames).mpr ⟨w_running, w_runnable, w_alone, w_named, w_hears, w_ripe, w_room, w_tables⟩
theorem atStart : AtStart classFile x code maxLocals ret World_1 tables_1 room_1 Calls_1 rest_1 Pre_1 launch0 p0 e0 about1 theMethod args0 below0 :=
  ⟨lists_1, trivial, launch0.admits_env _ _ _, launch0.least_env, fairChoices_fair.cas, fairChoices_fair.clock, w_frames, w_args, w_heap, w_applies, trivial, trivial, w_case⟩
end start1
theorem witness_1 : WitnessClaimed_1 := ⟨start1.p0, start1.e0, start1.about1, start1.theMethod, start1.args0, start1.below0, start1.atStart⟩
end Jvm.Pilot.@@N@@
