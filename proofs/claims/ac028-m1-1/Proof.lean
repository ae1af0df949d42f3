import JvmDerived
import JvmDerived.Pilot.@@N@@Statement
import JvmDerived.Pilot.@@N@@Code
set_option linter.unusedVariables false
set_option linter.unusedSimpArgs false
namespace Jvm.Pilot.@@N@@
open Jvm Jvm.ClassFile Sem Op Lib Jvm.Free Jvm.Stand Jvm.LawKit Jvm.RoadKit Bundle Jvm.Pilot.@@N@@.Jvm.D
/-! the walk in the form of what is still to be run: own_Go T g says that the run from the frame g on T ends as promised -/
section OwnKit
variable {p : Program} {l : Launch} {e : Env} {R : Room} {s : State} {m : MethodId} {args : Array Value} {below : List Frame} {meth : Method} {c : Code} {T : State} {locs : List Loc} {cells slots : Nat} {Z : State} {h : Heap} {a0 : Array Value} {Q : Option Value → Heap → List Loc → Prop} {cm sm : Nat}
def own_Go (p : Program) (e : Env) (s : State) (below : List Frame) (Q : Option Value → Heap → List Loc → Prop) (cm sm : Nat) (T : State) (g : JFrame) : Prop :=
  ∃ (U : State) (o : Outcome), Steps p.tables e below (T.setTop g) U ∧ U.status = .running ∧ Ended U below o ∧ ∃ v L, o = .returned v ∧ Q v U.heap L ∧ FrameEnd s o U L cm sm
theorem own_st {T' : State} {g g' : JFrame} (h : ∀ t, Steps p.tables e below (T'.setTop g') t → Steps p.tables e below (T.setTop g) t) (k : own_Go p e s below Q cm sm T' g') : own_Go p e s below Q cm sm T g := by
  obtain ⟨U, o, h1, h2⟩ := k
  exact ⟨U, o, h U h1, h2⟩
abbrev own_Met (l : Launch) (Z : State) (y : MethodName) (bytes : ByteArray) (ml : Nat) (ret : Option FieldType) (rm : Room) (ws : List Jvm.Cond) (as : Array Value) (h : Heap) (Q : Option Value → Heap → List Loc → Prop) (cm sm : Nat) : Prop :=
  MetFree l y (head1 (Jvm.Cond.code y bytes ml ret :: ws) rm) (fun a U => a = as ∧ Z.Warmed39 U.vm ∧ U.heap = h) (fun _ _ _ _ _ => True) (fun _ U o U' => ∃ v L, o = .returned v ∧ Q v U'.heap L ∧ FrameEnd U o U' L cm sm)
theorem own_enter {y : MethodName} {bytes : ByteArray} {ml : Nat} {ret : Option FieldType} {rm : Room} {ws : List Jvm.Cond} {as : Array Value} {Ls : Array Slot}
    (hp : plainFor y = true) (hef : ∀ m, entryFrame m as ml = mkF m 0 Ls [])
    (body : ∀ (p : Program) (e : Env) (s : State) (m : MethodId) (below : List Frame) (meth : Method) (c : Code) (T : State), p.tables.exec = Jvm.exec → c.code = bytes → c.maxLocals = ml → s.vm.findClass y.cls = some m.cls → meth.name = y.name → meth.sig.returnType = ret → meth.locks = false → Z.Warmed39 s.vm →
      Stand p l e rm s m as below meth c T [] 0 0 → T.heap = h → own_Go p e s below Q cm sm T (mkF m 0 Ls [])) :
    own_Met l Z y bytes ml ret rm ws as h Q cm sm := by
  refine MetFree.of_bodySF hp hisR ?_
  intro p e s m args below meth c s₁ Bd hml0 hP hK
  obtain ⟨rfl, hZ, hh⟩ := hP
  obtain ⟨U, o, h1, h2⟩ := body p e s m below meth c s₁ Bd.exec Bd.bytes hml0 (findClass_of_methodNamed Bd.named) (name_of_methodNamed Bd.named Bd.method).1 Bd.returns (BodyLoose.notSynchronized Bd) hZ (Stand.of_body Bd) (by rw [← hh, Bd.state]; rfl)
  exact ⟨U, o, castTop (hef m) h1, h2⟩
/-! returns -/
theorem own_retN (X : Stand p l e R s m args below meth c T locs cells slots) (hx : p.tables.exec = Jvm.exec) (hlk : meth.locks = false) {t : FieldType} (hret : meth.sig.returnType = some t) (ht : t = .boolean ∨ t = .byte ∨ t = .char ∨ t = .short) {pc : Nat} {Ls : Array Slot} {z z' : Int32} {rest : List Value}
    (hd : decode c.code pc = .ok (.ireturn, 1)) (hz : nar t z = z') (hc : cells ≤ cm) (hs : slots ≤ sm) (hQ : Q (some (.int z')) T.heap locs) : own_Go p e s below Q cm sm T (mkF m pc Ls (.int z :: rest)) := by
  subst hz
  obtain ⟨fs, hr, hrun, hended, hW, hsame⟩ := X.leave (v := some (.int (nar t z))) (fun h => by rw [hret] at h; cases h) hlk
  exact ⟨_, _, retN X hx hret ht hd hr, hrun, hended, _, _, rfl, hQ, ⟨_, rfl⟩, hW, hsame.mono hc hs⟩
theorem own_retI (X : Stand p l e R s m args below meth c T locs cells slots) (hx : p.tables.exec = Jvm.exec) (hlk : meth.locks = false) (hret : meth.sig.returnType = some .int) {pc : Nat} {Ls : Array Slot} {z : Int32} {rest : List Value}
    (hd : decode c.code pc = .ok (.ireturn, 1)) (hc : cells ≤ cm) (hs : slots ≤ sm) (hQ : Q (some (.int z)) T.heap locs) : own_Go p e s below Q cm sm T (mkF m pc Ls (.int z :: rest)) := by
  obtain ⟨fs, hr, hrun, hended, hW, hsame⟩ := X.leave (v := some (.int z)) (fun h => by rw [hret] at h; cases h) hlk
  exact ⟨_, _, retOut X hx hret rfl (Or.inl ⟨rfl, Or.inl rfl, _, rfl⟩) hd hr, hrun, hended, _, _, rfl, hQ, ⟨_, rfl⟩, hW, hsame.mono hc hs⟩
theorem own_retJ (X : Stand p l e R s m args below meth c T locs cells slots) (hx : p.tables.exec = Jvm.exec) (hlk : meth.locks = false) (hret : meth.sig.returnType = some .long) {pc : Nat} {Ls : Array Slot} {z : Int64} {rest : List Value}
    (hd : decode c.code pc = .ok (.lreturn, 1)) (hc : cells ≤ cm) (hs : slots ≤ sm) (hQ : Q (some (.long z)) T.heap locs) : own_Go p e s below Q cm sm T (mkF m pc Ls (.long z :: rest)) := by
  obtain ⟨fs, hr, hrun, hended, hW, hsame⟩ := X.leave (v := some (.long z)) (fun h => by rw [hret] at h; cases h) hlk
  exact ⟨_, _, retOut X hx hret rfl (Or.inr (Or.inl ⟨rfl, rfl, _, rfl⟩)) hd hr, hrun, hended, _, _, rfl, hQ, ⟨_, rfl⟩, hW, hsame.mono hc hs⟩
theorem own_retR (X : Stand p l e R s m args below meth c T locs cells slots) (hx : p.tables.exec = Jvm.exec) (hlk : meth.locks = false) {t : FieldType} (hret : meth.sig.returnType = some t) (ht : t.isReference = true) {pc : Nat} {Ls : Array Slot} {w : Value} (hw : w.isRef = true) (hn : narrow t w = w) {rest : List Value}
    (hd : decode c.code pc = .ok (.areturn, 1)) (hc : cells ≤ cm) (hs : slots ≤ sm) (hQ : Q (some w) T.heap locs) : own_Go p e s below Q cm sm T (mkF m pc Ls (w :: rest)) := by
  obtain ⟨fs, hr, hrun, hended, hW, hsame⟩ := X.leave (v := some w) (fun h => by rw [hret] at h; cases h) hlk
  exact ⟨_, _, retOut X hx hret hn (Or.inr (Or.inr (Or.inr (Or.inr ⟨rfl, ht, hw⟩)))) hd hr, hrun, hended, _, _, rfl, hQ, ⟨_, rfl⟩, hW, hsame.mono hc hs⟩
theorem own_ret0 (X : Stand p l e R s m args below meth c T locs cells slots) (hx : p.tables.exec = Jvm.exec) (hlk : meth.locks = false) (hret : meth.sig.returnType = none) {pc : Nat} {Ls : Array Slot}
    (hd : decode c.code pc = .ok (.return_, 1)) (hc : cells ≤ cm) (hs : slots ≤ sm) (hQ : Q none T.heap locs) : own_Go p e s below Q cm sm T (mkF m pc Ls []) := by
  obtain ⟨fs, hr, hrun, hended, hW, hsame⟩ := X.leave (v := none) (fun _ => rfl) hlk
  exact ⟨_, _, X.returnOut hx hret hd hr, hrun, hended, _, _, rfl, hQ, ⟨_, rfl⟩, hW, hsame.mono hc hs⟩
/-! calls by the callee's contract -/
theorem own_callS (X : Stand p l e R s m args below meth c T locs cells slots) (hx : p.tables.exec = Jvm.exec) (hZ : Z.Warmed39 s.vm) {own : String} {index : Nat} {y : MethodName} {bytes : ByteArray} {maxL : Nat} {ret : Option FieldType} (hown : s.vm.findClass own = some m.cls)
    (w1 : (Jvm.Cond.methodLink own index y).before a0 Z = true) (w2 : (Jvm.Cond.static y).before a0 Z = true) (w3 : (Jvm.Cond.initialized y.cls).before a0 Z = true) (w4 : (Jvm.Cond.code y bytes maxL ret).before a0 Z = true)
    (hy : y.cls ≠ "java/lang/invoke/MethodHandle" ∧ y.cls ≠ "java/lang/invoke/VarHandle") {rm : Room} {as : Array Value} {Qc : Option Value → Heap → List Loc → Prop} (eT : T.heap = h)
    (hM : own_Met l Z y bytes maxL ret rm [] as h Qc rm.cells rm.slots) (W : Nat) (hf : rm.frames + 1 ≤ R.frames) (hl : W + (maxL + 11) + rm.locals ≤ R.locals)
    {g : JFrame} (hg : g.method = m) (hsize : g.locals.size = c.maxLocals) {argsL rest : List Value} {ps : List FieldType} {r : Option FieldType} (hpd : parseMethodDescriptor y.desc = some ⟨ps, r⟩) (hlen : argsL.length = ps.length) (has : argsL.toArray = as)
    (hstack : g.stack = argsL.reverse ++ rest) (hW : 2 * g.monitorRoom + (rest.map fun v => v.category).sum ≤ W) (hdg : decode c.code g.pc = .ok (.invokestatic index, 3)) (hc : cells + rm.cells ≤ R.cells) (hs : slots + rm.slots ≤ R.slots)
    (k : ∀ (T' : State) (v : Option Value) (Lc : List Loc), Stand p l e R s m args below meth c T' (locs ++ Lc) (cells + rm.cells) (slots + rm.slots) → Qc v T'.heap Lc → own_Go p e s below Q cm sm T' { g with pc := g.pc + 3, stack := v.toList ++ rest }) :
    own_Go p e s below Q cm sm T g := by
  obtain ⟨v, _, ⟨T', L', k', n'⟩, -, X', ⟨Lc, hQ, l1, y1, z1⟩, st⟩ := Jvm.LawKit.callS X hx (y := y) hown (mvT hZ w1) (mvT hZ w2) (mvT hZ w3) (mvT hZ w4) hy (backOf (W := W) hM hZ w4 w3 hf hl) hg hsize (argsL := argsL) (rest := rest) (lenOf hpd hlen) hstack hW hdg (fun _ _ => ⟨has, eT, hc, hs⟩)
  dsimp only [Pt.U, Pt.locs, Pt.cells, Pt.slots] at X' l1 y1 z1 st hQ
  subst l1 y1 z1
  exact own_st st (k T' v Lc X' hQ)
theorem own_callN (X : Stand p l e R s m args below meth c T locs cells slots) (hx : p.tables.exec = Jvm.exec) (hZ : Z.Warmed39 s.vm) {own : String} {index : Nat} {y : MethodName} {bytes : ByteArray} {maxL : Nat} (hy1 : y.name = "<init>") (hown : s.vm.findClass own = some m.cls)
    (w1 : (Jvm.Cond.methodLink own index y).before a0 Z = true) (w2 : (Jvm.Cond.instanceMethod y).before a0 Z = true) (w3 : (Jvm.Cond.initialized y.cls).before a0 Z = true) (w4 : (Jvm.Cond.code y bytes maxL none).before a0 Z = true)
    (hy : y.cls ≠ "java/lang/invoke/MethodHandle" ∧ y.cls ≠ "java/lang/invoke/VarHandle") {rm : Room} {as : Array Value} {Qc : Option Value → Heap → List Loc → Prop} (eT : T.heap = h)
    (hM : own_Met l Z y bytes maxL none rm [] as h Qc rm.cells rm.slots) (W : Nat) (hf : rm.frames + 1 ≤ R.frames) (hl : W + (maxL + 11) + rm.locals ≤ R.locals)
    {g : JFrame} (hg : g.method = m) (hsize : g.locals.size = c.maxLocals) {a : Addr} {argsL rest : List Value} {ps : List FieldType} {r : Option FieldType} (hpd : parseMethodDescriptor y.desc = some ⟨ps, r⟩) (hlen : argsL.length = ps.length) (has : (Value.ref a :: argsL).toArray = as)
    (hstack : g.stack = argsL.reverse ++ .ref a :: rest) (hW : 2 * g.monitorRoom + (rest.map fun v => v.category).sum ≤ W) (hdg : decode c.code g.pc = .ok (.invokespecial index, 3)) (hc : cells + rm.cells ≤ R.cells) (hs : slots + rm.slots ≤ R.slots)
    (k : ∀ (T' : State) (v : Option Value) (Lc : List Loc), Stand p l e R s m args below meth c T' (locs ++ Lc) (cells + rm.cells) (slots + rm.slots) → Qc v T'.heap Lc → own_Go p e s below Q cm sm T' { g with pc := g.pc + 3, stack := v.toList ++ rest }) :
    own_Go p e s below Q cm sm T g := by
  obtain ⟨v, _, ⟨T', L', k', n'⟩, -, X', ⟨Lc, hQ, l1, y1, z1⟩, st⟩ := X.specialBack hx (y := y) hy1 hown (mvT hZ w1) (mvT hZ w2) (mvT hZ w4) hy (backOf (W := W) hM hZ w4 w3 hf hl) hg hsize (Steps.refl _) (a := a) (argsL := argsL) (rest := rest) (lenOf hpd hlen) hstack hW hdg (fun _ _ => ⟨has, eT, hc, hs⟩)
  dsimp only [Pt.U, Pt.locs, Pt.cells, Pt.slots] at X' l1 y1 z1 st hQ
  subst l1 y1 z1
  exact own_st (fun _ q => st.trans q) (k T' v Lc X' hQ)
theorem own_callV (X : Stand p l e R s m args below meth c T locs cells slots) (hx : p.tables.exec = Jvm.exec) (hZ : Z.Warmed39 s.vm) {own C : String} {index : Nat} {y : MethodName} {bytes : ByteArray} {maxL : Nat} {ret : Option FieldType} (hown : s.vm.findClass own = some m.cls)
    (w1 : (Jvm.Cond.methodLink own index y).before a0 Z = true) (w2 : (Jvm.Cond.declares y).before a0 Z = true) (w5 : (Jvm.Cond.selects C y y).before a0 Z = true) (w6 : (Jvm.Cond.instanceMethod y).before a0 Z = true) (w3 : (Jvm.Cond.initialized y.cls).before a0 Z = true) (w4 : (Jvm.Cond.code y bytes maxL ret).before a0 Z = true)
    (hy : y.cls ≠ "java/lang/invoke/MethodHandle" ∧ y.cls ≠ "java/lang/invoke/VarHandle") {rm : Room} {as : Array Value} {Qc : Option Value → Heap → List Loc → Prop} (eT : T.heap = h)
    (hM : own_Met l Z y bytes maxL ret rm [] as h Qc rm.cells rm.slots) (W : Nat) (hf : rm.frames + 1 ≤ R.frames) (hl : W + (maxL + 11) + rm.locals ≤ R.locals) {a : Addr} (E : Exa Z h a C)
    {g : JFrame} (hg : g.method = m) (hsize : g.locals.size = c.maxLocals) {argsL rest : List Value} {ps : List FieldType} {r : Option FieldType} (hpd : parseMethodDescriptor y.desc = some ⟨ps, r⟩) (hlen : argsL.length = ps.length) (has : (Value.ref a :: argsL).toArray = as)
    (hstack : g.stack = argsL.reverse ++ .ref a :: rest) (hW : 2 * g.monitorRoom + (rest.map fun v => v.category).sum ≤ W) (hdg : decode c.code g.pc = .ok (.invokevirtual index, 3)) (hc : cells + rm.cells ≤ R.cells) (hs : slots + rm.slots ≤ R.slots)
    (k : ∀ (T' : State) (v : Option Value) (Lc : List Loc), Stand p l e R s m args below meth c T' (locs ++ Lc) (cells + rm.cells) (slots + rm.slots) → Qc v T'.heap Lc → own_Go p e s below Q cm sm T' { g with pc := g.pc + 3, stack := v.toList ++ rest }) :
    own_Go p e s below Q cm sm T g := by
  obtain ⟨cq, kq, qa, qb, qc⟩ := isOf hZ eT E
  obtain ⟨v, _, ⟨T', L', k', n'⟩, -, X', ⟨Lc, hQ, l1, y1, z1⟩, st⟩ := X.virtualBack hx (y := y) (z := y) hown (mvT hZ w1) (mvT hZ w2) (notFace_of_selects (args := #[]) (mvT hZ w5)) (mvT hZ w5) (mvT hZ w6) hy (backOf (W := W) hM hZ w4 w3 hf hl) qa qc hg hsize (Steps.refl _) (argsL := argsL) (rest := rest) (lenOf hpd hlen) hstack hW hdg (fun _ _ => ⟨has, eT, hc, hs⟩)
  dsimp only [Pt.U, Pt.locs, Pt.cells, Pt.slots] at X' l1 y1 z1 st hQ
  subst l1 y1 z1
  exact own_st (fun _ q => st.trans q) (k T' v Lc X' hQ)
/-! arrays by the list of their values -/
theorem own_ix {n j : Int32} {vs : List Value} {d : Value} {a : Addr} {k : ClassId} {ty : FieldType} (V : Arv Z h a k ty n vs d) (hj : ¬ j < 0 ∧ j < n) : ∃ cl : Cell, Arr Z h a cl ty ∧ ¬ (j < 0 ∨ cl.slots.size ≤ j.toNatClampNeg) ∧ cl.slots[j.toNatClampNeg]? = some (vs.getD j.toNatClampNeg d) := by
  obtain ⟨cl, A, -, S, N, H, -⟩ := V
  have q := inb_of S hj
  exact ⟨cl, A, q, H _ (Nat.lt_of_not_le fun y => q (Or.inr y))⟩
theorem own_len (X : Stand p l e R s m args below meth c T locs cells slots) (hx : p.tables.exec = Jvm.exec) (hZ : Z.Warmed39 s.vm) (eT : T.heap = h) {a : Addr} {k : ClassId} {ty : FieldType} {n : Int32} {vs : List Value} {d : Value} (V : Arv Z h a k ty n vs d)
    {g : JFrame} (hg : g.method = m) {rest : List Value} (hs : g.stack = .ref a :: rest) (hd : decode c.code g.pc = .ok (.arraylength, 1)) :
    ∀ t, Steps p.tables e below (T.setTop { g with pc := g.pc + 1, stack := .int n :: rest }) t → Steps p.tables e below (T.setTop g) t := by
  obtain ⟨cl, A, -, S, N, -, -⟩ := V
  intro t k
  refine X.arraylength hx (by rw [eT]; exact A.1) (State.isArrayOf_alike hZ.alike A.2.1) hg hs hd t ?_
  rw [len_of S N]; exact k
theorem own_ldI (X : Stand p l e R s m args below meth c T locs cells slots) (hx : p.tables.exec = Jvm.exec) (hZ : Z.Warmed39 s.vm) (eT : T.heap = h) {a : Addr} {k : ClassId} {n : Int32} {vs : List Value} {d : Value} (V : Arv Z h a k .int n vs d) {j x : Int32} (hj : ¬ j < 0 ∧ j < n) (hv : vs.getD j.toNatClampNeg d = .int x)
    {g : JFrame} (hg : g.method = m) {rest : List Value} (hs : g.stack = .int j :: .ref a :: rest) (hd : decode c.code g.pc = .ok (.iaload, 1)) :
    ∀ t, Steps p.tables e below (T.setTop { g with pc := g.pc + 1, stack := .int x :: rest }) t → Steps p.tables e below (T.setTop g) t := by
  obtain ⟨cl, A, q, H⟩ := own_ix V hj
  exact X.iaload hx (j := j) (v := .int x) (by rw [eT]; exact A.1) (State.isArrayOf_alike hZ.alike A.2.1) A.2.2 q (hv ▸ H) hg hs hd
theorem own_ldB (X : Stand p l e R s m args below meth c T locs cells slots) (hx : p.tables.exec = Jvm.exec) (hZ : Z.Warmed39 s.vm) (eT : T.heap = h) {a : Addr} {k : ClassId} {n : Int32} {vs : List Value} {d : Value} (V : Arv Z h a k .byte n vs d) {j x : Int32} (hj : ¬ j < 0 ∧ j < n) (hv : vs.getD j.toNatClampNeg d = .int x)
    {g : JFrame} (hg : g.method = m) {rest : List Value} (hs : g.stack = .int j :: .ref a :: rest) (hd : decode c.code g.pc = .ok (.baload, 1)) :
    ∀ t, Steps p.tables e below (T.setTop { g with pc := g.pc + 1, stack := .int x :: rest }) t → Steps p.tables e below (T.setTop g) t := by
  obtain ⟨cl, A, q, H⟩ := own_ix V hj
  exact X.baloadBytes hx (j := j) (v := .int x) (by rw [eT]; exact A.1) (State.isArrayOf_alike hZ.alike A.2.1) A.2.2 q (hv ▸ H) hg hs hd
theorem own_ldJ (X : Stand p l e R s m args below meth c T locs cells slots) (hx : p.tables.exec = Jvm.exec) (hZ : Z.Warmed39 s.vm) (eT : T.heap = h) {a : Addr} {k : ClassId} {n : Int32} {vs : List Value} {d : Value} (V : Arv Z h a k .long n vs d) {j : Int32} {x : Int64} (hj : ¬ j < 0 ∧ j < n) (hv : vs.getD j.toNatClampNeg d = .long x)
    {g : JFrame} (hg : g.method = m) {rest : List Value} (hs : g.stack = .int j :: .ref a :: rest) (hd : decode c.code g.pc = .ok (.laload, 1)) :
    ∀ t, Steps p.tables e below (T.setTop { g with pc := g.pc + 1, stack := .long x :: rest }) t → Steps p.tables e below (T.setTop g) t := by
  obtain ⟨cl, A, q, H⟩ := own_ix V hj
  exact X.laload hx (j := j) (v := .long x) (by rw [eT]; exact A.1) (State.isArrayOf_alike hZ.alike A.2.1) A.2.2 q (hv ▸ H) hg hs hd
theorem own_stI (X : Stand p l e R s m args below meth c T locs cells slots) (hx : p.tables.exec = Jvm.exec) (hZ : Z.Warmed39 s.vm) (eT : T.heap = h) {a : Addr} {k : ClassId} {n : Int32} {vs : List Value} {d : Value} (V : Arv Z h a k .int n vs d) {j x : Int32} (hj : ¬ j < 0 ∧ j < n) (hl : j.toNatClampNeg < vs.length)
    {g : JFrame} (hg : g.method = m) {rest : List Value} (hs : g.stack = .int x :: .int j :: .ref a :: rest) (hd : decode c.code g.pc = .ok (.iastore, 1)) :
    ∃ T' h', Stand p l e R s m args below meth c T' (locs ++ [⟨a, j.toNatClampNeg⟩]) cells slots ∧ T'.heap = h' ∧ Wr h h' a j.toNatClampNeg (.int x) ∧ Arv Z h' a k .int n (vs.set j.toNatClampNeg (.int x)) d ∧ ∀ t, Steps p.tables e below (T'.setTop { g with pc := g.pc + 1, stack := rest }) t → Steps p.tables e below (T.setTop g) t := by
  obtain ⟨cl, A, q1, S, N, H, G⟩ := V
  obtain ⟨T', h', X', e', W, st⟩ := stI X hx hZ eT A (j := j) (inb_of S hj) hg hs hd
  exact ⟨T', h', X', e', W, Arv.set A q1 S N H G rfl W _ rfl hl, st⟩
theorem own_stJ (X : Stand p l e R s m args below meth c T locs cells slots) (hx : p.tables.exec = Jvm.exec) (hZ : Z.Warmed39 s.vm) (eT : T.heap = h) {a : Addr} {k : ClassId} {n : Int32} {vs : List Value} {d : Value} (V : Arv Z h a k .long n vs d) {j : Int32} {x : Int64} (hj : ¬ j < 0 ∧ j < n) (hl : j.toNatClampNeg < vs.length)
    {g : JFrame} (hg : g.method = m) {rest : List Value} (hs : g.stack = .long x :: .int j :: .ref a :: rest) (hd : decode c.code g.pc = .ok (.lastore, 1)) :
    ∃ T' h', Stand p l e R s m args below meth c T' (locs ++ [⟨a, j.toNatClampNeg⟩]) cells slots ∧ T'.heap = h' ∧ Wr h h' a j.toNatClampNeg (.long x) ∧ Arv Z h' a k .long n (vs.set j.toNatClampNeg (.long x)) d ∧ ∀ t, Steps p.tables e below (T'.setTop { g with pc := g.pc + 1, stack := rest }) t → Steps p.tables e below (T.setTop g) t := by
  obtain ⟨cl, A, q1, S, N, H, G⟩ := V
  obtain ⟨T', h', X', e', W, st⟩ := stJ X hx hZ eT A (j := j) (inb_of S hj) hg hs hd
  exact ⟨T', h', X', e', W, Arv.set A q1 S N H G rfl W _ rfl hl, st⟩
theorem own_stB (X : Stand p l e R s m args below meth c T locs cells slots) (hx : p.tables.exec = Jvm.exec) (hZ : Z.Warmed39 s.vm) (eT : T.heap = h) {a : Addr} {k : ClassId} {n : Int32} {vs : List Value} {d : Value} (V : Arv Z h a k .byte n vs d) {j x x' : Int32} (hj : ¬ j < 0 ∧ j < n) (hl : j.toNatClampNeg < vs.length) (hn : x.toInt8.toInt32 = x')
    {g : JFrame} (hg : g.method = m) {rest : List Value} (hs : g.stack = .int x :: .int j :: .ref a :: rest) (hd : decode c.code g.pc = .ok (.bastore, 1)) :
    ∃ T' h', Stand p l e R s m args below meth c T' (locs ++ [⟨a, j.toNatClampNeg⟩]) cells slots ∧ T'.heap = h' ∧ Wr h h' a j.toNatClampNeg (.int x') ∧ Arv Z h' a k .byte n (vs.set j.toNatClampNeg (.int x')) d ∧ ∀ t, Steps p.tables e below (T'.setTop { g with pc := g.pc + 1, stack := rest }) t → Steps p.tables e below (T.setTop g) t := by
  subst hn
  obtain ⟨cl, A, q1, S, N, H, G⟩ := V
  obtain ⟨T', h', X', e', W, st⟩ := stB X hx hZ eT A (j := j) (inb_of S hj) hg hs hd
  exact ⟨T', h', X', e', W, Arv.set A q1 S N H G (fits_nar_byte _) W _ rfl hl, st⟩
theorem own_ldR (X : Stand p l e R s m args below meth c T locs cells slots) (hx : p.tables.exec = Jvm.exec) (hZ : Z.Warmed39 s.vm) (eT : T.heap = h) {a : Addr} {k : ClassId} {ty : FieldType} {n : Int32} {vs : List Value} {d : Value} (V : Arv Z h a k ty n vs d) (hty : ty.isReference = true) {j : Int32} {v : Value} (hj : ¬ j < 0 ∧ j < n) (hv : vs.getD j.toNatClampNeg d = v)
    {g : JFrame} (hg : g.method = m) {rest : List Value} (hs : g.stack = .int j :: .ref a :: rest) (hd : decode c.code g.pc = .ok (.aaload, 1)) :
    ∀ t, Steps p.tables e below (T.setTop { g with pc := g.pc + 1, stack := v :: rest }) t → Steps p.tables e below (T.setTop g) t := by
  obtain ⟨cl, A, q, H⟩ := own_ix V hj
  exact X.aaload hx (j := j) (v := v) (by rw [eT]; exact A.1) (State.isArrayOf_alike hZ.alike A.2.1) hty A.2.2 q (hv ▸ H) hg hs hd
theorem own_stR (X : Stand p l e R s m args below meth c T locs cells slots) (hx : p.tables.exec = Jvm.exec) (hZ : Z.Warmed39 s.vm) (eT : T.heap = h) {a : Addr} {k : ClassId} {ty : FieldType} {n : Int32} {vs : List Value} {d : Value} (V : Arv Z h a k ty n vs d) (hty : ty.isReference = true) {v : Value} (F : ∀ cl : Cell, Arr Z h a cl ty → cl.cls = k → Sto Z h a v) (hf : fits ty v = true) {j : Int32} (hj : ¬ j < 0 ∧ j < n) (hl : j.toNatClampNeg < vs.length)
    {g : JFrame} (hg : g.method = m) {rest : List Value} (hs : g.stack = v :: .int j :: .ref a :: rest) (hd : decode c.code g.pc = .ok (.aastore, 1)) :
    ∃ T' h', Stand p l e R s m args below meth c T' (locs ++ [⟨a, j.toNatClampNeg⟩]) cells slots ∧ T'.heap = h' ∧ Wr h h' a j.toNatClampNeg v ∧ Arv Z h' a k ty n (vs.set j.toNatClampNeg v) d ∧ ∀ t, Steps p.tables e below (T'.setTop { g with pc := g.pc + 1, stack := rest }) t → Steps p.tables e below (T.setTop g) t := by
  obtain ⟨cl, A, q1, S, N, H, G⟩ := V
  obtain ⟨T', h', X', e', W, st⟩ := stR X hx hZ eT A (j := j) (inb_of S hj) hty (F cl A q1) hg hs hd
  exact ⟨T', h', X', e', W, Arv.set A q1 S N H G hf W _ rfl hl, st⟩
/-! booleans -/
def own_b (P : Prop) [Decidable P] : Int32 := if P then 1 else 0
theorem own_bt {P : Prop} [Decidable P] (q : P) : own_b P = 1 := if_pos q
theorem own_bf {P : Prop} [Decidable P] (q : ¬ P) : own_b P = 0 := if_neg q
theorem own_bnar {P : Prop} [Decidable P] : nar .boolean (own_b P) = own_b P := by
  by_cases q : P
  · rw [own_bt q]; decide
  · rw [own_bf q]; decide
theorem own_bnw {P : Prop} [Decidable P] : narrow .boolean (.int (own_b P)) = .int (own_b P) := congrArg Value.int (own_bnar (P := P))
theorem own_by {P : Prop} [Decidable P] (q : P) : ifCond.holds .ne (own_b P) = true ∧ ifCond.holds .eq (own_b P) = false := by rw [own_bt q]; decide
theorem own_bn {P : Prop} [Decidable P] (q : ¬ P) : ifCond.holds .eq (own_b P) = true ∧ ifCond.holds .ne (own_b P) = false := by rw [own_bf q]; decide
theorem own_beq {P P' : Prop} [Decidable P] [Decidable P'] (q : P ↔ P') : own_b P = own_b P' := by
  by_cases r : P
  · rw [own_bt r, own_bt (q.mp r)]
  · rw [own_bf r, own_bf fun x => r (q.mpr x)]
end OwnKit

theorem d1_0 : decode prog_69_method_1_code 0 = .ok (.aload_n 0, 1) := by decide +kernel
theorem d1_1 : decode prog_69_method_1_code 1 = .ok (.invokespecial 1, 3) := by decide +kernel
theorem d1_4 : decode prog_69_method_1_code 4 = .ok (.aload_n 0, 1) := by decide +kernel
theorem d1_5 : decode prog_69_method_1_code 5 = .ok (.aload_n 1, 1) := by decide +kernel
theorem d1_6 : decode prog_69_method_1_code 6 = .ok (.putfield 7, 3) := by decide +kernel
theorem d1_9 : decode prog_69_method_1_code 9 = .ok (.aload_n 0, 1) := by decide +kernel
theorem d1_10 : decode prog_69_method_1_code 10 = .ok (.aload_n 2, 1) := by decide +kernel
theorem d1_11 : decode prog_69_method_1_code 11 = .ok (.putfield 13, 3) := by decide +kernel
theorem d1_14 : decode prog_69_method_1_code 14 = .ok (.aload_n 0, 1) := by decide +kernel
theorem d1_15 : decode prog_69_method_1_code 15 = .ok (.aload_n 3, 1) := by decide +kernel
theorem d1_16 : decode prog_69_method_1_code 16 = .ok (.putfield 16, 3) := by decide +kernel
theorem d1_19 : decode prog_69_method_1_code 19 = .ok (.return_, 1) := by decide +kernel
theorem pf1 : plainFor (⟨"com/example/hush5/hush5/search/TupleClasses", "<init>", "([I[I[I)V"⟩ : MethodName) = true := by first | (exact plainFor_of_name (by first | (simp [plainName, overriddenIn]; done) | decide +kernel)) | decide +kernel
theorem d3_0 : decode prog_69_method_3_code 0 = .ok (.aload_n 0, 1) := by decide +kernel
theorem d3_1 : decode prog_69_method_3_code 1 = .ok (.getfield 27, 3) := by decide +kernel
theorem d3_4 : decode prog_69_method_3_code 4 = .ok (.ifnonnull 80, 3) := by decide +kernel
theorem d3_7 : decode prog_69_method_3_code 7 = .ok (.aload_n 0, 1) := by decide +kernel
theorem d3_8 : decode prog_69_method_3_code 8 = .ok (.getfield 13, 3) := by decide +kernel
theorem d3_11 : decode prog_69_method_3_code 11 = .ok (.ifnonnull 14, 3) := by decide +kernel
theorem d3_14 : decode prog_69_method_3_code 14 = .ok (.aload_n 0, 1) := by decide +kernel
theorem d3_15 : decode prog_69_method_3_code 15 = .ok (.aload_n 0, 1) := by decide +kernel
theorem d3_16 : decode prog_69_method_3_code 16 = .ok (.getfield 7, 3) := by decide +kernel
theorem d3_19 : decode prog_69_method_3_code 19 = .ok (.putfield 27, 3) := by decide +kernel
theorem d3_22 : decode prog_69_method_3_code 22 = .ok (.goto 62, 3) := by decide +kernel
theorem d3_25 : decode prog_69_method_3_code 25 = .ok (.aload_n 0, 1) := by decide +kernel
theorem d3_26 : decode prog_69_method_3_code 26 = .ok (.aload_n 0, 1) := by decide +kernel
theorem d3_27 : decode prog_69_method_3_code 27 = .ok (.getfield 16, 3) := by decide +kernel
theorem d3_30 : decode prog_69_method_3_code 30 = .ok (.ifnonnull 13, 3) := by decide +kernel
theorem d3_33 : decode prog_69_method_3_code 33 = .ok (.aload_n 0, 1) := by decide +kernel
theorem d3_34 : decode prog_69_method_3_code 34 = .ok (.getfield 7, 3) := by decide +kernel
theorem d3_37 : decode prog_69_method_3_code 37 = .ok (.arraylength, 1) := by decide +kernel
theorem d3_38 : decode prog_69_method_3_code 38 = .ok (.newarray .int, 2) := by decide +kernel
theorem d3_40 : decode prog_69_method_3_code 40 = .ok (.goto 7, 3) := by decide +kernel
theorem d3_43 : decode prog_69_method_3_code 43 = .ok (.aload_n 0, 1) := by decide +kernel
theorem d3_44 : decode prog_69_method_3_code 44 = .ok (.getfield 16, 3) := by decide +kernel
theorem d3_47 : decode prog_69_method_3_code 47 = .ok (.putfield 27, 3) := by decide +kernel
theorem d3_50 : decode prog_69_method_3_code 50 = .ok (.iconst 0, 1) := by decide +kernel
theorem d3_51 : decode prog_69_method_3_code 51 = .ok (.istore_n 1, 1) := by decide +kernel
theorem d3_52 : decode prog_69_method_3_code 52 = .ok (.iload_n 1, 1) := by decide +kernel
theorem d3_53 : decode prog_69_method_3_code 53 = .ok (.aload_n 0, 1) := by decide +kernel
theorem d3_54 : decode prog_69_method_3_code 54 = .ok (.getfield 7, 3) := by decide +kernel
theorem d3_57 : decode prog_69_method_3_code 57 = .ok (.arraylength, 1) := by decide +kernel
theorem d3_58 : decode prog_69_method_3_code 58 = .ok (.if_icmp .ge 26, 3) := by decide +kernel
theorem d3_61 : decode prog_69_method_3_code 61 = .ok (.aload_n 0, 1) := by decide +kernel
theorem d3_62 : decode prog_69_method_3_code 62 = .ok (.getfield 27, 3) := by decide +kernel
theorem d3_65 : decode prog_69_method_3_code 65 = .ok (.iload_n 1, 1) := by decide +kernel
theorem d3_66 : decode prog_69_method_3_code 66 = .ok (.aload_n 0, 1) := by decide +kernel
theorem d3_67 : decode prog_69_method_3_code 67 = .ok (.getfield 13, 3) := by decide +kernel
theorem d3_70 : decode prog_69_method_3_code 70 = .ok (.aload_n 0, 1) := by decide +kernel
theorem d3_71 : decode prog_69_method_3_code 71 = .ok (.getfield 7, 3) := by decide +kernel
theorem d3_74 : decode prog_69_method_3_code 74 = .ok (.iload_n 1, 1) := by decide +kernel
theorem d3_75 : decode prog_69_method_3_code 75 = .ok (.iaload, 1) := by decide +kernel
theorem d3_76 : decode prog_69_method_3_code 76 = .ok (.iaload, 1) := by decide +kernel
theorem d3_77 : decode prog_69_method_3_code 77 = .ok (.iastore, 1) := by decide +kernel
theorem d3_78 : decode prog_69_method_3_code 78 = .ok (.iinc 1 1, 3) := by decide +kernel
theorem d3_81 : decode prog_69_method_3_code 81 = .ok (.goto (-29), 3) := by decide +kernel
theorem d3_84 : decode prog_69_method_3_code 84 = .ok (.aload_n 0, 1) := by decide +kernel
theorem d3_85 : decode prog_69_method_3_code 85 = .ok (.getfield 27, 3) := by decide +kernel
theorem d3_88 : decode prog_69_method_3_code 88 = .ok (.areturn, 1) := by decide +kernel
theorem pf3 : plainFor (⟨"com/example/hush5/hush5/search/TupleClasses", "classOf", "()[I"⟩ : MethodName) = true := by first | (exact plainFor_of_name (by first | (simp [plainName, overriddenIn]; done) | decide +kernel)) | decide +kernel
theorem d4_0 : decode method_2_code 0 = .ok (.iload_n 0, 1) := by decide +kernel
theorem d4_1 : decode method_2_code 1 = .ok (.ifCond .ne 5, 3) := by decide +kernel
theorem d4_4 : decode method_2_code 4 = .ok (.iload_n 1, 1) := by decide +kernel
theorem d4_5 : decode method_2_code 5 = .ok (.ireturn, 1) := by decide +kernel
theorem d4_6 : decode method_2_code 6 = .ok (.iload_n 0, 1) := by decide +kernel
theorem d4_7 : decode method_2_code 7 = .ok (.iconst 1, 1) := by decide +kernel
theorem d4_8 : decode method_2_code 8 = .ok (.if_icmp .ne 5, 3) := by decide +kernel
theorem d4_11 : decode method_2_code 11 = .ok (.iload_n 2, 1) := by decide +kernel
theorem d4_12 : decode method_2_code 12 = .ok (.ireturn, 1) := by decide +kernel
theorem d4_13 : decode method_2_code 13 = .ok (.iload_n 3, 1) := by decide +kernel
theorem d4_14 : decode method_2_code 14 = .ok (.ireturn, 1) := by decide +kernel
theorem pf4 : plainFor (⟨"com/example/hush5/hush5/search/TupleClassesClassOfPinLaw", "pick", "(IIII)I"⟩ : MethodName) = true := by first | (exact plainFor_of_name (by first | (simp [plainName, overriddenIn]; done) | decide +kernel)) | decide +kernel
theorem pf0 : plainFor x = true := plainFor_of_name (by first | (simp [x, plainName, overriddenIn]; done) | decide +kernel)
theorem pd0 : parseMethodDescriptor "([I[I[I)V" = some ⟨[(.array .int), (.array .int), (.array .int)], none⟩ := by decide +kernel
theorem pd1 : parseMethodDescriptor "()[I" = some ⟨[], some (.array .int)⟩ := by decide +kernel
theorem pd2 : parseMethodDescriptor "(IIII)I" = some ⟨[.int, .int, .int, .int], some .int⟩ := by decide +kernel
def own_pick (q c0 c1 c2 : Int32) : Int32 := if q = 0 then c0 else if q = 1 then c1 else c2
theorem own_pk {q c0 c1 c2 : Int32} (h : q = 0 ∨ q = 1 ∨ q = 2) : (¬ q < 0 ∧ q < (3 : Int32)) ∧ ([.int c0, .int c1, .int c2] : List Value).getD q.toNatClampNeg (.int 0) = .int (own_pick q c0 c1 c2) := by
  rcases h with rfl | rfl | rfl <;> exact ⟨by decide, rfl⟩
theorem own_q (y : Int64) : ((y &&& (255 : Int64)).toInt32 % (3 : Int32)) = 0 ∨ ((y &&& (255 : Int64)).toInt32 % (3 : Int32)) = 1 ∨ ((y &&& (255 : Int64)).toInt32 % (3 : Int32)) = 2 := by
  have m := c_maskL y 255 8 (by decide) (by decide)
  have l := c_l2i (y &&& 255)
  have r := rng32 (y &&& 255).toInt32
  have m1 := (c_irem (y &&& 255).toInt32 3 3 (by decide)).1 (by omega)
  simp only [← Int32.toInt_inj, Int32.reduceToInt]
  omega
theorem own_m (y : Int64) : (y &&& (3 : Int64)).toInt32 = 0 ∨ (y &&& (3 : Int64)).toInt32 = 1 ∨ (y &&& (3 : Int64)).toInt32 = 2 ∨ (y &&& (3 : Int64)).toInt32 = 3 := by
  have m := c_maskL y 3 2 (by decide) (by decide)
  have l := c_l2i (y &&& 3)
  have r := rng32 (y &&& 3).toInt32
  simp only [← Int32.toInt_inj, Int32.reduceToInt]
  omega
theorem ef_rm1_0 (m : MethodId) (z0 : Addr) (z1 : Addr) : entryFrame m #[(.ref z0), (.ref z1), .null, .null] 4 = mkF m 0 #[.val (.ref z0), .val (.ref z1), .val .null, .val .null] [] := by first | (simp [entryFrame, mkF, argsToLocals, Value.category]; done) | rfl
set_option maxRecDepth 65536 in
set_option maxHeartbeats 40000000 in
theorem rm1_0 (l : Launch) (Z : State) (a0 : Array Value) (hw : ∀ d ∈ tables_1, d.before a0 Z = true) (ws : List Jvm.Cond) (a u0 : Addr) (h0 : Heap) (n0 : Nat) (Z0 : n0 ≤ h0.size) (E_a : (Exa Z h0 a "com/example/hush5/hush5/search/TupleClasses")) (F_partOf_a : (Fld Z h0 a "com/example/hush5/hush5/search/TupleClasses" "partOf" "[I" .null)) (F_classOfPart_a : (Fld Z h0 a "com/example/hush5/hush5/search/TupleClasses" "classOfPart" "[I" .null)) (F_target_a : (Fld Z h0 a "com/example/hush5/hush5/search/TupleClasses" "target" "[I" .null)) (F_classOf_a : (Fld Z h0 a "com/example/hush5/hush5/search/TupleClasses" "classOf" "[I" .null)) (g_a : n0 ≤ a) :
    own_Met l Z (⟨"com/example/hush5/hush5/search/TupleClasses", "<init>", "([I[I[I)V"⟩ : MethodName) prog_69_method_1_code 4 none ({ frames := 1, cells := 0, slots := 0, locals := 12 } : Room) ws #[(.ref a), (.ref u0), .null, .null] h0 (fun v h L => v = none ∧ Fr n0 L ∧ Keep h0 h [a] ∧ (Exa Z h a "com/example/hush5/hush5/search/TupleClasses") ∧ (Fld Z h a "com/example/hush5/hush5/search/TupleClasses" "partOf" "[I" (.ref u0)) ∧ (Fld Z h a "com/example/hush5/hush5/search/TupleClasses" "classOfPart" "[I" .null) ∧ (Fld Z h a "com/example/hush5/hush5/search/TupleClasses" "target" "[I" .null) ∧ (Fld Z h a "com/example/hush5/hush5/search/TupleClasses" "classOf" "[I" .null)) 0 0 := by
  refine own_enter pf1 (fun m => ef_rm1_0 m a u0) ?_
  intro p e s m below meth c T0 hx hby hml hown hnm hret hlk hZ X0 e0
  have N0 := Fr.nil n0
  show own_Go p e s below _ _ _ T0 (mkF m 0 #[.val (.ref a), .val (.ref u0), .val .null, .val .null] [])
  have K_0 := Keep.refl h0 [a]
  refine own_st (fun _ k => XS.aloadN X0.here hx rfl (hb hby d1_0) rfl rfl k) ?_
  show own_Go p e s below _ _ _ T0 (mkF m 1 #[.val (.ref a), .val (.ref u0), .val .null, .val .null] [(.ref a)])
  obtain ⟨T1, X1, e1, st1⟩ := initO X0 hx hZ hown (hw _ (List.mem_of_getElem? (i := 9) rfl)) (hw _ (List.mem_of_getElem? (i := 10) rfl)) (hw _ (List.mem_of_getElem? (i := 11) rfl)) e0 (g := (mkF m 1 #[.val (.ref a), .val (.ref u0), .val .null, .val .null] [(.ref a)])) rfl (by rw [hml]; rfl) rfl (hb hby d1_1) (by decide) (W := 0) (by show 2 * 0 + _ ≤ _; exact Nat.le_of_eq rfl) (by decide)
  refine own_st st1 ?_
  show own_Go p e s below _ _ _ T1 (mkF m 4 #[.val (.ref a), .val (.ref u0), .val .null, .val .null] [])
  refine own_st (fun _ k => XS.aloadN X1.here hx rfl (hb hby d1_4) rfl rfl k) ?_
  show own_Go p e s below _ _ _ T1 (mkF m 5 #[.val (.ref a), .val (.ref u0), .val .null, .val .null] [(.ref a)])
  refine own_st (fun _ k => XS.aloadN X1.here hx rfl (hb hby d1_5) rfl rfl k) ?_
  show own_Go p e s below _ _ _ T1 (mkF m 6 #[.val (.ref a), .val (.ref u0), .val .null, .val .null] [(.ref u0), (.ref a)])
  obtain ⟨T2, h2, X2, e2, W2, st2⟩ := putF X1 hx hZ hown (host := "") (Or.inl (hw _ (List.mem_of_getElem? (i := 12) rfl))) Via.refl e1 F_partOf_a E_a (Or.inr ⟨hw _ (List.mem_of_getElem? (i := 13) rfl), rfl, hnm⟩) (hw _ (List.mem_of_getElem? (i := 4) rfl)) (ty := (.array .int)) (by decide) rfl rfl (g := (mkF m 6 #[.val (.ref a), .val (.ref u0), .val .null, .val .null] [(.ref u0), (.ref a)])) rfl rfl (hb hby d1_6)
  refine own_st st2 ?_
  replace F_partOf_a := F_partOf_a.same W2
  replace E_a := E_a.wr W2
  replace F_classOfPart_a := F_classOfPart_a.other W2 (Or.inr (slot_ne (Or.inr (hw _ (List.mem_of_getElem? (i := 15) rfl))) (Or.inr (hw _ (List.mem_of_getElem? (i := 13) rfl))) (by decide) (t := (.array .int)) (t' := (.array .int)) (by decide) (by decide)))
  replace F_target_a := F_target_a.other W2 (Or.inr (slot_ne (Or.inr (hw _ (List.mem_of_getElem? (i := 17) rfl))) (Or.inr (hw _ (List.mem_of_getElem? (i := 13) rfl))) (by decide) (t := (.array .int)) (t' := (.array .int)) (by decide) (by decide)))
  replace F_classOf_a := F_classOf_a.other W2 (Or.inr (slot_ne (Or.inl (hw _ (List.mem_of_getElem? (i := 24) rfl))) (Or.inr (hw _ (List.mem_of_getElem? (i := 13) rfl))) (by decide) (t := (.array .int)) (t' := (.array .int)) (by decide) (by decide)))
  have Z3 := Nat.le_trans Z0 (Keep.of_wr W2).1
  have K4 := K_0.wr W2 (Or.inl (List.mem_of_getElem? (i := 0) rfl))
  have N2 := Fr.snoc X2 N0 g_a
  show own_Go p e s below _ _ _ T2 (mkF m 9 #[.val (.ref a), .val (.ref u0), .val .null, .val .null] [])
  refine own_st (fun _ k => XS.aloadN X2.here hx rfl (hb hby d1_9) rfl rfl k) ?_
  show own_Go p e s below _ _ _ T2 (mkF m 10 #[.val (.ref a), .val (.ref u0), .val .null, .val .null] [(.ref a)])
  refine own_st (fun _ k => XS.aloadN X2.here hx rfl (hb hby d1_10) rfl rfl k) ?_
  show own_Go p e s below _ _ _ T2 (mkF m 11 #[.val (.ref a), .val (.ref u0), .val .null, .val .null] [.null, (.ref a)])
  obtain ⟨T5, h5, X5, e5, W5, st5⟩ := putF X2 hx hZ hown (host := "") (Or.inl (hw _ (List.mem_of_getElem? (i := 14) rfl))) Via.refl e2 F_classOfPart_a E_a (Or.inr ⟨hw _ (List.mem_of_getElem? (i := 15) rfl), rfl, hnm⟩) (hw _ (List.mem_of_getElem? (i := 4) rfl)) (ty := (.array .int)) (by decide) rfl rfl (g := (mkF m 11 #[.val (.ref a), .val (.ref u0), .val .null, .val .null] [.null, (.ref a)])) rfl rfl (hb hby d1_11)
  refine own_st st5 ?_
  replace F_classOfPart_a := F_classOfPart_a.same W5
  replace E_a := E_a.wr W5
  replace F_target_a := F_target_a.other W5 (Or.inr (slot_ne (Or.inr (hw _ (List.mem_of_getElem? (i := 17) rfl))) (Or.inr (hw _ (List.mem_of_getElem? (i := 15) rfl))) (by decide) (t := (.array .int)) (t' := (.array .int)) (by decide) (by decide)))
  replace F_classOf_a := F_classOf_a.other W5 (Or.inr (slot_ne (Or.inl (hw _ (List.mem_of_getElem? (i := 24) rfl))) (Or.inr (hw _ (List.mem_of_getElem? (i := 15) rfl))) (by decide) (t := (.array .int)) (t' := (.array .int)) (by decide) (by decide)))
  replace F_partOf_a := F_partOf_a.other W5 (Or.inr (slot_ne (Or.inr (hw _ (List.mem_of_getElem? (i := 13) rfl))) (Or.inr (hw _ (List.mem_of_getElem? (i := 15) rfl))) (by decide) (t := (.array .int)) (t' := (.array .int)) (by decide) (by decide)))
  have Z6 := Nat.le_trans Z3 (Keep.of_wr W5).1
  have K7 := K4.wr W5 (Or.inl (List.mem_of_getElem? (i := 0) rfl))
  have N5 := Fr.snoc X5 N2 g_a
  show own_Go p e s below _ _ _ T5 (mkF m 14 #[.val (.ref a), .val (.ref u0), .val .null, .val .null] [])
  refine own_st (fun _ k => XS.aloadN X5.here hx rfl (hb hby d1_14) rfl rfl k) ?_
  show own_Go p e s below _ _ _ T5 (mkF m 15 #[.val (.ref a), .val (.ref u0), .val .null, .val .null] [(.ref a)])
  refine own_st (fun _ k => XS.aloadN X5.here hx rfl (hb hby d1_15) rfl rfl k) ?_
  show own_Go p e s below _ _ _ T5 (mkF m 16 #[.val (.ref a), .val (.ref u0), .val .null, .val .null] [.null, (.ref a)])
  obtain ⟨T8, h8, X8, e8, W8, st8⟩ := putF X5 hx hZ hown (host := "") (Or.inl (hw _ (List.mem_of_getElem? (i := 16) rfl))) Via.refl e5 F_target_a E_a (Or.inr ⟨hw _ (List.mem_of_getElem? (i := 17) rfl), rfl, hnm⟩) (hw _ (List.mem_of_getElem? (i := 4) rfl)) (ty := (.array .int)) (by decide) rfl rfl (g := (mkF m 16 #[.val (.ref a), .val (.ref u0), .val .null, .val .null] [.null, (.ref a)])) rfl rfl (hb hby d1_16)
  refine own_st st8 ?_
  replace F_target_a := F_target_a.same W8
  replace E_a := E_a.wr W8
  replace F_classOf_a := F_classOf_a.other W8 (Or.inr (slot_ne (Or.inl (hw _ (List.mem_of_getElem? (i := 24) rfl))) (Or.inr (hw _ (List.mem_of_getElem? (i := 17) rfl))) (by decide) (t := (.array .int)) (t' := (.array .int)) (by decide) (by decide)))
  replace F_partOf_a := F_partOf_a.other W8 (Or.inr (slot_ne (Or.inr (hw _ (List.mem_of_getElem? (i := 13) rfl))) (Or.inr (hw _ (List.mem_of_getElem? (i := 17) rfl))) (by decide) (t := (.array .int)) (t' := (.array .int)) (by decide) (by decide)))
  replace F_classOfPart_a := F_classOfPart_a.other W8 (Or.inr (slot_ne (Or.inr (hw _ (List.mem_of_getElem? (i := 15) rfl))) (Or.inr (hw _ (List.mem_of_getElem? (i := 17) rfl))) (by decide) (t := (.array .int)) (t' := (.array .int)) (by decide) (by decide)))
  have Z9 := Nat.le_trans Z6 (Keep.of_wr W8).1
  have K10 := K7.wr W8 (Or.inl (List.mem_of_getElem? (i := 0) rfl))
  have N8 := Fr.snoc X8 N5 g_a
  show own_Go p e s below _ _ _ T8 (mkF m 19 #[.val (.ref a), .val (.ref u0), .val .null, .val .null] [])
  exact own_ret0 X8 hx hlk hret (hb hby d1_19) (by decide) (by decide) (by rw [e8]; exact ⟨rfl, N8, K10, E_a, F_partOf_a, F_classOfPart_a, F_target_a, F_classOf_a⟩)
theorem ef_rm1_1 (m : MethodId) (z0 : Addr) (z1 : Addr) (z2 : Addr) : entryFrame m #[(.ref z0), (.ref z1), (.ref z2), .null] 4 = mkF m 0 #[.val (.ref z0), .val (.ref z1), .val (.ref z2), .val .null] [] := by first | (simp [entryFrame, mkF, argsToLocals, Value.category]; done) | rfl
set_option maxRecDepth 65536 in
set_option maxHeartbeats 40000000 in
theorem rm1_1 (l : Launch) (Z : State) (a0 : Array Value) (hw : ∀ d ∈ tables_1, d.before a0 Z = true) (ws : List Jvm.Cond) (a u0 u1 : Addr) (h0 : Heap) (n0 : Nat) (Z0 : n0 ≤ h0.size) (E_a : (Exa Z h0 a "com/example/hush5/hush5/search/TupleClasses")) (F_partOf_a : (Fld Z h0 a "com/example/hush5/hush5/search/TupleClasses" "partOf" "[I" .null)) (F_classOfPart_a : (Fld Z h0 a "com/example/hush5/hush5/search/TupleClasses" "classOfPart" "[I" .null)) (F_target_a : (Fld Z h0 a "com/example/hush5/hush5/search/TupleClasses" "target" "[I" .null)) (F_classOf_a : (Fld Z h0 a "com/example/hush5/hush5/search/TupleClasses" "classOf" "[I" .null)) (g_a : n0 ≤ a) :
    own_Met l Z (⟨"com/example/hush5/hush5/search/TupleClasses", "<init>", "([I[I[I)V"⟩ : MethodName) prog_69_method_1_code 4 none ({ frames := 1, cells := 0, slots := 0, locals := 12 } : Room) ws #[(.ref a), (.ref u0), (.ref u1), .null] h0 (fun v h L => v = none ∧ Fr n0 L ∧ Keep h0 h [a] ∧ (Exa Z h a "com/example/hush5/hush5/search/TupleClasses") ∧ (Fld Z h a "com/example/hush5/hush5/search/TupleClasses" "partOf" "[I" (.ref u0)) ∧ (Fld Z h a "com/example/hush5/hush5/search/TupleClasses" "classOfPart" "[I" (.ref u1)) ∧ (Fld Z h a "com/example/hush5/hush5/search/TupleClasses" "target" "[I" .null) ∧ (Fld Z h a "com/example/hush5/hush5/search/TupleClasses" "classOf" "[I" .null)) 0 0 := by
  refine own_enter pf1 (fun m => ef_rm1_1 m a u0 u1) ?_
  intro p e s m below meth c T0 hx hby hml hown hnm hret hlk hZ X0 e0
  have N0 := Fr.nil n0
  show own_Go p e s below _ _ _ T0 (mkF m 0 #[.val (.ref a), .val (.ref u0), .val (.ref u1), .val .null] [])
  have K_0 := Keep.refl h0 [a]
  refine own_st (fun _ k => XS.aloadN X0.here hx rfl (hb hby d1_0) rfl rfl k) ?_
  show own_Go p e s below _ _ _ T0 (mkF m 1 #[.val (.ref a), .val (.ref u0), .val (.ref u1), .val .null] [(.ref a)])
  obtain ⟨T11, X11, e11, st11⟩ := initO X0 hx hZ hown (hw _ (List.mem_of_getElem? (i := 9) rfl)) (hw _ (List.mem_of_getElem? (i := 10) rfl)) (hw _ (List.mem_of_getElem? (i := 11) rfl)) e0 (g := (mkF m 1 #[.val (.ref a), .val (.ref u0), .val (.ref u1), .val .null] [(.ref a)])) rfl (by rw [hml]; rfl) rfl (hb hby d1_1) (by decide) (W := 0) (by show 2 * 0 + _ ≤ _; exact Nat.le_of_eq rfl) (by decide)
  refine own_st st11 ?_
  show own_Go p e s below _ _ _ T11 (mkF m 4 #[.val (.ref a), .val (.ref u0), .val (.ref u1), .val .null] [])
  refine own_st (fun _ k => XS.aloadN X11.here hx rfl (hb hby d1_4) rfl rfl k) ?_
  show own_Go p e s below _ _ _ T11 (mkF m 5 #[.val (.ref a), .val (.ref u0), .val (.ref u1), .val .null] [(.ref a)])
  refine own_st (fun _ k => XS.aloadN X11.here hx rfl (hb hby d1_5) rfl rfl k) ?_
  show own_Go p e s below _ _ _ T11 (mkF m 6 #[.val (.ref a), .val (.ref u0), .val (.ref u1), .val .null] [(.ref u0), (.ref a)])
  obtain ⟨T12, h12, X12, e12, W12, st12⟩ := putF X11 hx hZ hown (host := "") (Or.inl (hw _ (List.mem_of_getElem? (i := 12) rfl))) Via.refl e11 F_partOf_a E_a (Or.inr ⟨hw _ (List.mem_of_getElem? (i := 13) rfl), rfl, hnm⟩) (hw _ (List.mem_of_getElem? (i := 4) rfl)) (ty := (.array .int)) (by decide) rfl rfl (g := (mkF m 6 #[.val (.ref a), .val (.ref u0), .val (.ref u1), .val .null] [(.ref u0), (.ref a)])) rfl rfl (hb hby d1_6)
  refine own_st st12 ?_
  replace F_partOf_a := F_partOf_a.same W12
  replace E_a := E_a.wr W12
  replace F_classOfPart_a := F_classOfPart_a.other W12 (Or.inr (slot_ne (Or.inr (hw _ (List.mem_of_getElem? (i := 15) rfl))) (Or.inr (hw _ (List.mem_of_getElem? (i := 13) rfl))) (by decide) (t := (.array .int)) (t' := (.array .int)) (by decide) (by decide)))
  replace F_target_a := F_target_a.other W12 (Or.inr (slot_ne (Or.inr (hw _ (List.mem_of_getElem? (i := 17) rfl))) (Or.inr (hw _ (List.mem_of_getElem? (i := 13) rfl))) (by decide) (t := (.array .int)) (t' := (.array .int)) (by decide) (by decide)))
  replace F_classOf_a := F_classOf_a.other W12 (Or.inr (slot_ne (Or.inl (hw _ (List.mem_of_getElem? (i := 24) rfl))) (Or.inr (hw _ (List.mem_of_getElem? (i := 13) rfl))) (by decide) (t := (.array .int)) (t' := (.array .int)) (by decide) (by decide)))
  have Z13 := Nat.le_trans Z0 (Keep.of_wr W12).1
  have K14 := K_0.wr W12 (Or.inl (List.mem_of_getElem? (i := 0) rfl))
  have N12 := Fr.snoc X12 N0 g_a
  show own_Go p e s below _ _ _ T12 (mkF m 9 #[.val (.ref a), .val (.ref u0), .val (.ref u1), .val .null] [])
  refine own_st (fun _ k => XS.aloadN X12.here hx rfl (hb hby d1_9) rfl rfl k) ?_
  show own_Go p e s below _ _ _ T12 (mkF m 10 #[.val (.ref a), .val (.ref u0), .val (.ref u1), .val .null] [(.ref a)])
  refine own_st (fun _ k => XS.aloadN X12.here hx rfl (hb hby d1_10) rfl rfl k) ?_
  show own_Go p e s below _ _ _ T12 (mkF m 11 #[.val (.ref a), .val (.ref u0), .val (.ref u1), .val .null] [(.ref u1), (.ref a)])
  obtain ⟨T15, h15, X15, e15, W15, st15⟩ := putF X12 hx hZ hown (host := "") (Or.inl (hw _ (List.mem_of_getElem? (i := 14) rfl))) Via.refl e12 F_classOfPart_a E_a (Or.inr ⟨hw _ (List.mem_of_getElem? (i := 15) rfl), rfl, hnm⟩) (hw _ (List.mem_of_getElem? (i := 4) rfl)) (ty := (.array .int)) (by decide) rfl rfl (g := (mkF m 11 #[.val (.ref a), .val (.ref u0), .val (.ref u1), .val .null] [(.ref u1), (.ref a)])) rfl rfl (hb hby d1_11)
  refine own_st st15 ?_
  replace F_classOfPart_a := F_classOfPart_a.same W15
  replace E_a := E_a.wr W15
  replace F_target_a := F_target_a.other W15 (Or.inr (slot_ne (Or.inr (hw _ (List.mem_of_getElem? (i := 17) rfl))) (Or.inr (hw _ (List.mem_of_getElem? (i := 15) rfl))) (by decide) (t := (.array .int)) (t' := (.array .int)) (by decide) (by decide)))
  replace F_classOf_a := F_classOf_a.other W15 (Or.inr (slot_ne (Or.inl (hw _ (List.mem_of_getElem? (i := 24) rfl))) (Or.inr (hw _ (List.mem_of_getElem? (i := 15) rfl))) (by decide) (t := (.array .int)) (t' := (.array .int)) (by decide) (by decide)))
  replace F_partOf_a := F_partOf_a.other W15 (Or.inr (slot_ne (Or.inr (hw _ (List.mem_of_getElem? (i := 13) rfl))) (Or.inr (hw _ (List.mem_of_getElem? (i := 15) rfl))) (by decide) (t := (.array .int)) (t' := (.array .int)) (by decide) (by decide)))
  have Z16 := Nat.le_trans Z13 (Keep.of_wr W15).1
  have K17 := K14.wr W15 (Or.inl (List.mem_of_getElem? (i := 0) rfl))
  have N15 := Fr.snoc X15 N12 g_a
  show own_Go p e s below _ _ _ T15 (mkF m 14 #[.val (.ref a), .val (.ref u0), .val (.ref u1), .val .null] [])
  refine own_st (fun _ k => XS.aloadN X15.here hx rfl (hb hby d1_14) rfl rfl k) ?_
  show own_Go p e s below _ _ _ T15 (mkF m 15 #[.val (.ref a), .val (.ref u0), .val (.ref u1), .val .null] [(.ref a)])
  refine own_st (fun _ k => XS.aloadN X15.here hx rfl (hb hby d1_15) rfl rfl k) ?_
  show own_Go p e s below _ _ _ T15 (mkF m 16 #[.val (.ref a), .val (.ref u0), .val (.ref u1), .val .null] [.null, (.ref a)])
  obtain ⟨T18, h18, X18, e18, W18, st18⟩ := putF X15 hx hZ hown (host := "") (Or.inl (hw _ (List.mem_of_getElem? (i := 16) rfl))) Via.refl e15 F_target_a E_a (Or.inr ⟨hw _ (List.mem_of_getElem? (i := 17) rfl), rfl, hnm⟩) (hw _ (List.mem_of_getElem? (i := 4) rfl)) (ty := (.array .int)) (by decide) rfl rfl (g := (mkF m 16 #[.val (.ref a), .val (.ref u0), .val (.ref u1), .val .null] [.null, (.ref a)])) rfl rfl (hb hby d1_16)
  refine own_st st18 ?_
  replace F_target_a := F_target_a.same W18
  replace E_a := E_a.wr W18
  replace F_classOf_a := F_classOf_a.other W18 (Or.inr (slot_ne (Or.inl (hw _ (List.mem_of_getElem? (i := 24) rfl))) (Or.inr (hw _ (List.mem_of_getElem? (i := 17) rfl))) (by decide) (t := (.array .int)) (t' := (.array .int)) (by decide) (by decide)))
  replace F_partOf_a := F_partOf_a.other W18 (Or.inr (slot_ne (Or.inr (hw _ (List.mem_of_getElem? (i := 13) rfl))) (Or.inr (hw _ (List.mem_of_getElem? (i := 17) rfl))) (by decide) (t := (.array .int)) (t' := (.array .int)) (by decide) (by decide)))
  replace F_classOfPart_a := F_classOfPart_a.other W18 (Or.inr (slot_ne (Or.inr (hw _ (List.mem_of_getElem? (i := 15) rfl))) (Or.inr (hw _ (List.mem_of_getElem? (i := 17) rfl))) (by decide) (t := (.array .int)) (t' := (.array .int)) (by decide) (by decide)))
  have Z19 := Nat.le_trans Z16 (Keep.of_wr W18).1
  have K20 := K17.wr W18 (Or.inl (List.mem_of_getElem? (i := 0) rfl))
  have N18 := Fr.snoc X18 N15 g_a
  show own_Go p e s below _ _ _ T18 (mkF m 19 #[.val (.ref a), .val (.ref u0), .val (.ref u1), .val .null] [])
  exact own_ret0 X18 hx hlk hret (hb hby d1_19) (by decide) (by decide) (by rw [e18]; exact ⟨rfl, N18, K20, E_a, F_partOf_a, F_classOfPart_a, F_target_a, F_classOf_a⟩)
theorem ef_rm1_2 (m : MethodId) (z0 : Addr) (z1 : Addr) (z2 : Addr) (z3 : Addr) : entryFrame m #[(.ref z0), (.ref z1), (.ref z2), (.ref z3)] 4 = mkF m 0 #[.val (.ref z0), .val (.ref z1), .val (.ref z2), .val (.ref z3)] [] := by first | (simp [entryFrame, mkF, argsToLocals, Value.category]; done) | rfl
set_option maxRecDepth 65536 in
set_option maxHeartbeats 40000000 in
theorem rm1_2 (l : Launch) (Z : State) (a0 : Array Value) (hw : ∀ d ∈ tables_1, d.before a0 Z = true) (ws : List Jvm.Cond) (a u0 u1 u2 : Addr) (h0 : Heap) (n0 : Nat) (Z0 : n0 ≤ h0.size) (E_a : (Exa Z h0 a "com/example/hush5/hush5/search/TupleClasses")) (F_partOf_a : (Fld Z h0 a "com/example/hush5/hush5/search/TupleClasses" "partOf" "[I" .null)) (F_classOfPart_a : (Fld Z h0 a "com/example/hush5/hush5/search/TupleClasses" "classOfPart" "[I" .null)) (F_target_a : (Fld Z h0 a "com/example/hush5/hush5/search/TupleClasses" "target" "[I" .null)) (F_classOf_a : (Fld Z h0 a "com/example/hush5/hush5/search/TupleClasses" "classOf" "[I" .null)) (g_a : n0 ≤ a) :
    own_Met l Z (⟨"com/example/hush5/hush5/search/TupleClasses", "<init>", "([I[I[I)V"⟩ : MethodName) prog_69_method_1_code 4 none ({ frames := 1, cells := 0, slots := 0, locals := 12 } : Room) ws #[(.ref a), (.ref u0), (.ref u1), (.ref u2)] h0 (fun v h L => v = none ∧ Fr n0 L ∧ Keep h0 h [a] ∧ (Exa Z h a "com/example/hush5/hush5/search/TupleClasses") ∧ (Fld Z h a "com/example/hush5/hush5/search/TupleClasses" "partOf" "[I" (.ref u0)) ∧ (Fld Z h a "com/example/hush5/hush5/search/TupleClasses" "classOfPart" "[I" (.ref u1)) ∧ (Fld Z h a "com/example/hush5/hush5/search/TupleClasses" "target" "[I" (.ref u2)) ∧ (Fld Z h a "com/example/hush5/hush5/search/TupleClasses" "classOf" "[I" .null)) 0 0 := by
  refine own_enter pf1 (fun m => ef_rm1_2 m a u0 u1 u2) ?_
  intro p e s m below meth c T0 hx hby hml hown hnm hret hlk hZ X0 e0
  have N0 := Fr.nil n0
  show own_Go p e s below _ _ _ T0 (mkF m 0 #[.val (.ref a), .val (.ref u0), .val (.ref u1), .val (.ref u2)] [])
  have K_0 := Keep.refl h0 [a]
  refine own_st (fun _ k => XS.aloadN X0.here hx rfl (hb hby d1_0) rfl rfl k) ?_
  show own_Go p e s below _ _ _ T0 (mkF m 1 #[.val (.ref a), .val (.ref u0), .val (.ref u1), .val (.ref u2)] [(.ref a)])
  obtain ⟨T21, X21, e21, st21⟩ := initO X0 hx hZ hown (hw _ (List.mem_of_getElem? (i := 9) rfl)) (hw _ (List.mem_of_getElem? (i := 10) rfl)) (hw _ (List.mem_of_getElem? (i := 11) rfl)) e0 (g := (mkF m 1 #[.val (.ref a), .val (.ref u0), .val (.ref u1), .val (.ref u2)] [(.ref a)])) rfl (by rw [hml]; rfl) rfl (hb hby d1_1) (by decide) (W := 0) (by show 2 * 0 + _ ≤ _; exact Nat.le_of_eq rfl) (by decide)
  refine own_st st21 ?_
  show own_Go p e s below _ _ _ T21 (mkF m 4 #[.val (.ref a), .val (.ref u0), .val (.ref u1), .val (.ref u2)] [])
  refine own_st (fun _ k => XS.aloadN X21.here hx rfl (hb hby d1_4) rfl rfl k) ?_
  show own_Go p e s below _ _ _ T21 (mkF m 5 #[.val (.ref a), .val (.ref u0), .val (.ref u1), .val (.ref u2)] [(.ref a)])
  refine own_st (fun _ k => XS.aloadN X21.here hx rfl (hb hby d1_5) rfl rfl k) ?_
  show own_Go p e s below _ _ _ T21 (mkF m 6 #[.val (.ref a), .val (.ref u0), .val (.ref u1), .val (.ref u2)] [(.ref u0), (.ref a)])
  obtain ⟨T22, h22, X22, e22, W22, st22⟩ := putF X21 hx hZ hown (host := "") (Or.inl (hw _ (List.mem_of_getElem? (i := 12) rfl))) Via.refl e21 F_partOf_a E_a (Or.inr ⟨hw _ (List.mem_of_getElem? (i := 13) rfl), rfl, hnm⟩) (hw _ (List.mem_of_getElem? (i := 4) rfl)) (ty := (.array .int)) (by decide) rfl rfl (g := (mkF m 6 #[.val (.ref a), .val (.ref u0), .val (.ref u1), .val (.ref u2)] [(.ref u0), (.ref a)])) rfl rfl (hb hby d1_6)
  refine own_st st22 ?_
  replace F_partOf_a := F_partOf_a.same W22
  replace E_a := E_a.wr W22
  replace F_classOfPart_a := F_classOfPart_a.other W22 (Or.inr (slot_ne (Or.inr (hw _ (List.mem_of_getElem? (i := 15) rfl))) (Or.inr (hw _ (List.mem_of_getElem? (i := 13) rfl))) (by decide) (t := (.array .int)) (t' := (.array .int)) (by decide) (by decide)))
  replace F_target_a := F_target_a.other W22 (Or.inr (slot_ne (Or.inr (hw _ (List.mem_of_getElem? (i := 17) rfl))) (Or.inr (hw _ (List.mem_of_getElem? (i := 13) rfl))) (by decide) (t := (.array .int)) (t' := (.array .int)) (by decide) (by decide)))
  replace F_classOf_a := F_classOf_a.other W22 (Or.inr (slot_ne (Or.inl (hw _ (List.mem_of_getElem? (i := 24) rfl))) (Or.inr (hw _ (List.mem_of_getElem? (i := 13) rfl))) (by decide) (t := (.array .int)) (t' := (.array .int)) (by decide) (by decide)))
  have Z23 := Nat.le_trans Z0 (Keep.of_wr W22).1
  have K24 := K_0.wr W22 (Or.inl (List.mem_of_getElem? (i := 0) rfl))
  have N22 := Fr.snoc X22 N0 g_a
  show own_Go p e s below _ _ _ T22 (mkF m 9 #[.val (.ref a), .val (.ref u0), .val (.ref u1), .val (.ref u2)] [])
  refine own_st (fun _ k => XS.aloadN X22.here hx rfl (hb hby d1_9) rfl rfl k) ?_
  show own_Go p e s below _ _ _ T22 (mkF m 10 #[.val (.ref a), .val (.ref u0), .val (.ref u1), .val (.ref u2)] [(.ref a)])
  refine own_st (fun _ k => XS.aloadN X22.here hx rfl (hb hby d1_10) rfl rfl k) ?_
  show own_Go p e s below _ _ _ T22 (mkF m 11 #[.val (.ref a), .val (.ref u0), .val (.ref u1), .val (.ref u2)] [(.ref u1), (.ref a)])
  obtain ⟨T25, h25, X25, e25, W25, st25⟩ := putF X22 hx hZ hown (host := "") (Or.inl (hw _ (List.mem_of_getElem? (i := 14) rfl))) Via.refl e22 F_classOfPart_a E_a (Or.inr ⟨hw _ (List.mem_of_getElem? (i := 15) rfl), rfl, hnm⟩) (hw _ (List.mem_of_getElem? (i := 4) rfl)) (ty := (.array .int)) (by decide) rfl rfl (g := (mkF m 11 #[.val (.ref a), .val (.ref u0), .val (.ref u1), .val (.ref u2)] [(.ref u1), (.ref a)])) rfl rfl (hb hby d1_11)
  refine own_st st25 ?_
  replace F_classOfPart_a := F_classOfPart_a.same W25
  replace E_a := E_a.wr W25
  replace F_target_a := F_target_a.other W25 (Or.inr (slot_ne (Or.inr (hw _ (List.mem_of_getElem? (i := 17) rfl))) (Or.inr (hw _ (List.mem_of_getElem? (i := 15) rfl))) (by decide) (t := (.array .int)) (t' := (.array .int)) (by decide) (by decide)))
  replace F_classOf_a := F_classOf_a.other W25 (Or.inr (slot_ne (Or.inl (hw _ (List.mem_of_getElem? (i := 24) rfl))) (Or.inr (hw _ (List.mem_of_getElem? (i := 15) rfl))) (by decide) (t := (.array .int)) (t' := (.array .int)) (by decide) (by decide)))
  replace F_partOf_a := F_partOf_a.other W25 (Or.inr (slot_ne (Or.inr (hw _ (List.mem_of_getElem? (i := 13) rfl))) (Or.inr (hw _ (List.mem_of_getElem? (i := 15) rfl))) (by decide) (t := (.array .int)) (t' := (.array .int)) (by decide) (by decide)))
  have Z26 := Nat.le_trans Z23 (Keep.of_wr W25).1
  have K27 := K24.wr W25 (Or.inl (List.mem_of_getElem? (i := 0) rfl))
  have N25 := Fr.snoc X25 N22 g_a
  show own_Go p e s below _ _ _ T25 (mkF m 14 #[.val (.ref a), .val (.ref u0), .val (.ref u1), .val (.ref u2)] [])
  refine own_st (fun _ k => XS.aloadN X25.here hx rfl (hb hby d1_14) rfl rfl k) ?_
  show own_Go p e s below _ _ _ T25 (mkF m 15 #[.val (.ref a), .val (.ref u0), .val (.ref u1), .val (.ref u2)] [(.ref a)])
  refine own_st (fun _ k => XS.aloadN X25.here hx rfl (hb hby d1_15) rfl rfl k) ?_
  show own_Go p e s below _ _ _ T25 (mkF m 16 #[.val (.ref a), .val (.ref u0), .val (.ref u1), .val (.ref u2)] [(.ref u2), (.ref a)])
  obtain ⟨T28, h28, X28, e28, W28, st28⟩ := putF X25 hx hZ hown (host := "") (Or.inl (hw _ (List.mem_of_getElem? (i := 16) rfl))) Via.refl e25 F_target_a E_a (Or.inr ⟨hw _ (List.mem_of_getElem? (i := 17) rfl), rfl, hnm⟩) (hw _ (List.mem_of_getElem? (i := 4) rfl)) (ty := (.array .int)) (by decide) rfl rfl (g := (mkF m 16 #[.val (.ref a), .val (.ref u0), .val (.ref u1), .val (.ref u2)] [(.ref u2), (.ref a)])) rfl rfl (hb hby d1_16)
  refine own_st st28 ?_
  replace F_target_a := F_target_a.same W28
  replace E_a := E_a.wr W28
  replace F_classOf_a := F_classOf_a.other W28 (Or.inr (slot_ne (Or.inl (hw _ (List.mem_of_getElem? (i := 24) rfl))) (Or.inr (hw _ (List.mem_of_getElem? (i := 17) rfl))) (by decide) (t := (.array .int)) (t' := (.array .int)) (by decide) (by decide)))
  replace F_partOf_a := F_partOf_a.other W28 (Or.inr (slot_ne (Or.inr (hw _ (List.mem_of_getElem? (i := 13) rfl))) (Or.inr (hw _ (List.mem_of_getElem? (i := 17) rfl))) (by decide) (t := (.array .int)) (t' := (.array .int)) (by decide) (by decide)))
  replace F_classOfPart_a := F_classOfPart_a.other W28 (Or.inr (slot_ne (Or.inr (hw _ (List.mem_of_getElem? (i := 15) rfl))) (Or.inr (hw _ (List.mem_of_getElem? (i := 17) rfl))) (by decide) (t := (.array .int)) (t' := (.array .int)) (by decide) (by decide)))
  have Z29 := Nat.le_trans Z26 (Keep.of_wr W28).1
  have K30 := K27.wr W28 (Or.inl (List.mem_of_getElem? (i := 0) rfl))
  have N28 := Fr.snoc X28 N25 g_a
  show own_Go p e s below _ _ _ T28 (mkF m 19 #[.val (.ref a), .val (.ref u0), .val (.ref u1), .val (.ref u2)] [])
  exact own_ret0 X28 hx hlk hret (hb hby d1_19) (by decide) (by decide) (by rw [e28]; exact ⟨rfl, N28, K30, E_a, F_partOf_a, F_classOfPart_a, F_target_a, F_classOf_a⟩)
theorem ef_rm4 (m : MethodId) (z0 : Int32) (z1 : Int32) (z2 : Int32) (z3 : Int32) : entryFrame m #[(.int z0), (.int z1), (.int z2), (.int z3)] 4 = mkF m 0 #[.val (.int z0), .val (.int z1), .val (.int z2), .val (.int z3)] [] := by first | (simp [entryFrame, mkF, argsToLocals, Value.category]; done) | rfl
set_option maxRecDepth 65536 in
set_option maxHeartbeats 40000000 in
theorem rm4 (l : Launch) (Z : State) (a0 : Array Value) (hw : ∀ d ∈ tables_1, d.before a0 Z = true) (ws : List Jvm.Cond) (q c0 c1 c2 : Int32) (h0 : Heap) (n0 : Nat) (Z0 : n0 ≤ h0.size)  :
    own_Met l Z (⟨"com/example/hush5/hush5/search/TupleClassesClassOfPinLaw", "pick", "(IIII)I"⟩ : MethodName) method_2_code 4 (some .int) ({ frames := 0, cells := 0, slots := 0, locals := 0 } : Room) ws #[(.int q), (.int c0), (.int c1), (.int c2)] h0 (fun v h L => v = some (.int (own_pick q c0 c1 c2)) ∧ Fr n0 L ∧ h = h0) 0 0 := by
  refine own_enter pf4 (fun m => ef_rm4 m q c0 c1 c2) ?_
  intro p e s m below meth c T0 hx hby hml hown hnm hret hlk hZ X0 e0
  have N0 := Fr.nil n0
  show own_Go p e s below _ _ _ T0 (mkF m 0 #[.val (.int q), .val (.int c0), .val (.int c1), .val (.int c2)] [])
  refine own_st (fun _ k => XS.iloadN X0.here hx rfl (hb hby d4_0) rfl k) ?_
  show own_Go p e s below _ _ _ T0 (mkF m 1 #[.val (.int q), .val (.int c0), .val (.int c1), .val (.int c2)] [(.int q)])
  by_cases c1_31 : q = (0 : Int32)
  · refine own_st (fun _ k => XS.ifNo X0.here hx rfl (hb hby d4_1) rfl ((if0 _ _).trans (teq c1_31).2) k) ?_
    show own_Go p e s below _ _ _ T0 (mkF m 4 #[.val (.int q), .val (.int c0), .val (.int c1), .val (.int c2)] [])
    refine own_st (fun _ k => XS.iloadN X0.here hx rfl (hb hby d4_4) rfl k) ?_
    show own_Go p e s below _ _ _ T0 (mkF m 5 #[.val (.int q), .val (.int c0), .val (.int c1), .val (.int c2)] [(.int c0)])
    exact own_retI X0 hx hlk hret (hb hby d4_5) (by decide) (by decide) ⟨by simp [own_pick, c1_31], N0, e0⟩
  · refine own_st (fun _ k => XS.ifYes X0.here hx rfl (pc0 := 1) (pc' := 6) rfl (hb hby d4_1) rfl ((if0 _ _).trans (feq c1_31).2) (by decide) (by decide) k) ?_
    show own_Go p e s below _ _ _ T0 (mkF m 6 #[.val (.int q), .val (.int c0), .val (.int c1), .val (.int c2)] [])
    refine own_st (fun _ k => XS.iloadN X0.here hx rfl (hb hby d4_6) rfl k) ?_
    show own_Go p e s below _ _ _ T0 (mkF m 7 #[.val (.int q), .val (.int c0), .val (.int c1), .val (.int c2)] [(.int q)])
    refine own_st (fun _ k => XS.iconst X0.here hx rfl (hb hby d4_7) k) ?_
    show own_Go p e s below _ _ _ T0 (mkF m 8 #[.val (.int q), .val (.int c0), .val (.int c1), .val (.int c2)] [(.int (1 : Int32)), (.int q)])
    by_cases c8_32 : q = (1 : Int32)
    · refine own_st (fun _ k => XS.icmpNo X0.here hx rfl (hb hby d4_8) rfl (teq c8_32).2 k) ?_
      show own_Go p e s below _ _ _ T0 (mkF m 11 #[.val (.int q), .val (.int c0), .val (.int c1), .val (.int c2)] [])
      refine own_st (fun _ k => XS.iloadN X0.here hx rfl (hb hby d4_11) rfl k) ?_
      show own_Go p e s below _ _ _ T0 (mkF m 12 #[.val (.int q), .val (.int c0), .val (.int c1), .val (.int c2)] [(.int c1)])
      exact own_retI X0 hx hlk hret (hb hby d4_12) (by decide) (by decide) ⟨by simp [own_pick, c1_31, c8_32], N0, e0⟩
    · refine own_st (fun _ k => XS.icmpYes X0.here hx rfl (pc0 := 8) (pc' := 13) rfl (hb hby d4_8) rfl (feq c8_32).2 (by decide) (by decide) k) ?_
      show own_Go p e s below _ _ _ T0 (mkF m 13 #[.val (.int q), .val (.int c0), .val (.int c1), .val (.int c2)] [])
      refine own_st (fun _ k => XS.iloadN X0.here hx rfl (hb hby d4_13) rfl k) ?_
      show own_Go p e s below _ _ _ T0 (mkF m 14 #[.val (.int q), .val (.int c0), .val (.int c1), .val (.int c2)] [(.int c2)])
      exact own_retI X0 hx hlk hret (hb hby d4_14) (by decide) (by decide) ⟨by simp [own_pick, c1_31, c8_32], N0, e0⟩
theorem ef_rm3_c (m : MethodId) (z0 : Addr) : entryFrame m #[(.ref z0)] 2 = mkF m 0 #[.val (.ref z0), .unset] [] := by first | (simp [entryFrame, mkF, argsToLocals, Value.category]; done) | rfl
set_option maxRecDepth 65536 in
set_option maxHeartbeats 40000000 in
theorem rm3_c (l : Launch) (Z : State) (a0 : Array Value) (hw : ∀ d ∈ tables_1, d.before a0 Z = true) (ws : List Jvm.Cond) (a r : Addr) (h0 : Heap) (n0 : Nat) (Z0 : n0 ≤ h0.size) (F_classOf_a : (Fld Z h0 a "com/example/hush5/hush5/search/TupleClasses" "classOf" "[I" (.ref r))) :
    own_Met l Z (⟨"com/example/hush5/hush5/search/TupleClasses", "classOf", "()[I"⟩ : MethodName) prog_69_method_3_code 2 (some (.array .int)) ({ frames := 0, cells := 0, slots := 0, locals := 0 } : Room) ws #[(.ref a)] h0 (fun v h L => v = some (.ref r) ∧ Fr n0 L ∧ h = h0) 0 0 := by
  refine own_enter pf3 (fun m => ef_rm3_c m a) ?_
  intro p e s m below meth c T0 hx hby hml hown hnm hret hlk hZ X0 e0
  have N0 := Fr.nil n0
  show own_Go p e s below _ _ _ T0 (mkF m 0 #[.val (.ref a), .unset] [])
  refine own_st (fun _ k => XS.aloadN X0.here hx rfl (hb hby d3_0) rfl rfl k) ?_
  show own_Go p e s below _ _ _ T0 (mkF m 1 #[.val (.ref a), .unset] [(.ref a)])
  obtain ⟨T33, X33, e33, st33⟩ := getF X0 hx hZ hown (host := "") (Or.inl (hw _ (List.mem_of_getElem? (i := 23) rfl))) Via.refl e0 F_classOf_a (g := (mkF m 1 #[.val (.ref a), .unset] [(.ref a)])) rfl rfl (hb hby d3_1)
  refine own_st st33 ?_
  show own_Go p e s below _ _ _ T33 (mkF m 4 #[.val (.ref a), .unset] [(.ref r)])
  refine own_st (fun _ k => XS.ifnonnullYes X33.here hx rfl (pc0 := 4) (pc' := 84) rfl (hb hby d3_4) rfl (by decide) (by decide) k) ?_
  show own_Go p e s below _ _ _ T33 (mkF m 84 #[.val (.ref a), .unset] [])
  refine own_st (fun _ k => XS.aloadN X33.here hx rfl (hb hby d3_84) rfl rfl k) ?_
  show own_Go p e s below _ _ _ T33 (mkF m 85 #[.val (.ref a), .unset] [(.ref a)])
  obtain ⟨T34, X34, e34, st34⟩ := getF X33 hx hZ hown (host := "") (Or.inl (hw _ (List.mem_of_getElem? (i := 23) rfl))) Via.refl e33 F_classOf_a (g := (mkF m 85 #[.val (.ref a), .unset] [(.ref a)])) rfl rfl (hb hby d3_85)
  refine own_st st34 ?_
  show own_Go p e s below _ _ _ T34 (mkF m 88 #[.val (.ref a), .unset] [(.ref r)])
  exact own_retR X34 hx hlk hret rfl rfl rfl (hb hby d3_88) (by decide) (by decide) ⟨rfl, N0, e34⟩
theorem ef_rm3_0 (m : MethodId) (z0 : Addr) : entryFrame m #[(.ref z0)] 2 = mkF m 0 #[.val (.ref z0), .unset] [] := by first | (simp [entryFrame, mkF, argsToLocals, Value.category]; done) | rfl
set_option maxRecDepth 65536 in
set_option maxHeartbeats 40000000 in
theorem rm3_0 (l : Launch) (Z : State) (a0 : Array Value) (hw : ∀ d ∈ tables_1, d.before a0 Z = true) (ws : List Jvm.Cond) (a u0 : Addr) (h0 : Heap) (n0 : Nat) (Z0 : n0 ≤ h0.size) (E_a : (Exa Z h0 a "com/example/hush5/hush5/search/TupleClasses")) (F_partOf_a : (Fld Z h0 a "com/example/hush5/hush5/search/TupleClasses" "partOf" "[I" (.ref u0))) (F_classOfPart_a : (Fld Z h0 a "com/example/hush5/hush5/search/TupleClasses" "classOfPart" "[I" .null)) (F_target_a : (Fld Z h0 a "com/example/hush5/hush5/search/TupleClasses" "target" "[I" .null)) (F_classOf_a : (Fld Z h0 a "com/example/hush5/hush5/search/TupleClasses" "classOf" "[I" .null)) (g_a : n0 ≤ a) :
    own_Met l Z (⟨"com/example/hush5/hush5/search/TupleClasses", "classOf", "()[I"⟩ : MethodName) prog_69_method_3_code 2 (some (.array .int)) ({ frames := 0, cells := 0, slots := 0, locals := 0 } : Room) ws #[(.ref a)] h0 (fun v h L => v = some (.ref u0) ∧ Fr n0 L ∧ Keep h0 h [a] ∧ (Exa Z h a "com/example/hush5/hush5/search/TupleClasses") ∧ (Fld Z h a "com/example/hush5/hush5/search/TupleClasses" "classOf" "[I" (.ref u0))) 0 0 := by
  refine own_enter pf3 (fun m => ef_rm3_0 m a) ?_
  intro p e s m below meth c T0 hx hby hml hown hnm hret hlk hZ X0 e0
  have N0 := Fr.nil n0
  show own_Go p e s below _ _ _ T0 (mkF m 0 #[.val (.ref a), .unset] [])
  have K_0 := Keep.refl h0 [a]
  refine own_st (fun _ k => XS.aloadN X0.here hx rfl (hb hby d3_0) rfl rfl k) ?_
  show own_Go p e s below _ _ _ T0 (mkF m 1 #[.val (.ref a), .unset] [(.ref a)])
  obtain ⟨T35, X35, e35, st35⟩ := getF X0 hx hZ hown (host := "") (Or.inl (hw _ (List.mem_of_getElem? (i := 23) rfl))) Via.refl e0 F_classOf_a (g := (mkF m 1 #[.val (.ref a), .unset] [(.ref a)])) rfl rfl (hb hby d3_1)
  refine own_st st35 ?_
  show own_Go p e s below _ _ _ T35 (mkF m 4 #[.val (.ref a), .unset] [.null])
  refine own_st (fun _ k => XS.ifnonnullNo X35.here hx rfl (hb hby d3_4) rfl k) ?_
  show own_Go p e s below _ _ _ T35 (mkF m 7 #[.val (.ref a), .unset] [])
  refine own_st (fun _ k => XS.aloadN X35.here hx rfl (hb hby d3_7) rfl rfl k) ?_
  show own_Go p e s below _ _ _ T35 (mkF m 8 #[.val (.ref a), .unset] [(.ref a)])
  obtain ⟨T36, X36, e36, st36⟩ := getF X35 hx hZ hown (host := "") (Or.inl (hw _ (List.mem_of_getElem? (i := 14) rfl))) Via.refl e35 F_classOfPart_a (g := (mkF m 8 #[.val (.ref a), .unset] [(.ref a)])) rfl rfl (hb hby d3_8)
  refine own_st st36 ?_
  show own_Go p e s below _ _ _ T36 (mkF m 11 #[.val (.ref a), .unset] [.null])
  refine own_st (fun _ k => XS.ifnonnullNo X36.here hx rfl (hb hby d3_11) rfl k) ?_
  show own_Go p e s below _ _ _ T36 (mkF m 14 #[.val (.ref a), .unset] [])
  refine own_st (fun _ k => XS.aloadN X36.here hx rfl (hb hby d3_14) rfl rfl k) ?_
  show own_Go p e s below _ _ _ T36 (mkF m 15 #[.val (.ref a), .unset] [(.ref a)])
  refine own_st (fun _ k => XS.aloadN X36.here hx rfl (hb hby d3_15) rfl rfl k) ?_
  show own_Go p e s below _ _ _ T36 (mkF m 16 #[.val (.ref a), .unset] [(.ref a), (.ref a)])
  obtain ⟨T37, X37, e37, st37⟩ := getF X36 hx hZ hown (host := "") (Or.inl (hw _ (List.mem_of_getElem? (i := 12) rfl))) Via.refl e36 F_partOf_a (g := (mkF m 16 #[.val (.ref a), .unset] [(.ref a), (.ref a)])) rfl rfl (hb hby d3_16)
  refine own_st st37 ?_
  show own_Go p e s below _ _ _ T37 (mkF m 19 #[.val (.ref a), .unset] [(.ref u0), (.ref a)])
  obtain ⟨T38, h38, X38, e38, W38, st38⟩ := putF X37 hx hZ hown (host := "") (Or.inl (hw _ (List.mem_of_getElem? (i := 23) rfl))) Via.refl e37 F_classOf_a E_a (Or.inl (hw _ (List.mem_of_getElem? (i := 24) rfl))) (hw _ (List.mem_of_getElem? (i := 4) rfl)) (ty := (.array .int)) (by decide) rfl rfl (g := (mkF m 19 #[.val (.ref a), .unset] [(.ref u0), (.ref a)])) rfl rfl (hb hby d3_19)
  refine own_st st38 ?_
  replace F_classOf_a := F_classOf_a.same W38
  replace E_a := E_a.wr W38
  replace F_partOf_a := F_partOf_a.other W38 (Or.inr (slot_ne (Or.inr (hw _ (List.mem_of_getElem? (i := 13) rfl))) (Or.inl (hw _ (List.mem_of_getElem? (i := 24) rfl))) (by decide) (t := (.array .int)) (t' := (.array .int)) (by decide) (by decide)))
  replace F_classOfPart_a := F_classOfPart_a.other W38 (Or.inr (slot_ne (Or.inr (hw _ (List.mem_of_getElem? (i := 15) rfl))) (Or.inl (hw _ (List.mem_of_getElem? (i := 24) rfl))) (by decide) (t := (.array .int)) (t' := (.array .int)) (by decide) (by decide)))
  replace F_target_a := F_target_a.other W38 (Or.inr (slot_ne (Or.inr (hw _ (List.mem_of_getElem? (i := 17) rfl))) (Or.inl (hw _ (List.mem_of_getElem? (i := 24) rfl))) (by decide) (t := (.array .int)) (t' := (.array .int)) (by decide) (by decide)))
  have Z39 := Nat.le_trans Z0 (Keep.of_wr W38).1
  have K40 := K_0.wr W38 (Or.inl (List.mem_of_getElem? (i := 0) rfl))
  have N38 := Fr.snoc X38 N0 g_a
  show own_Go p e s below _ _ _ T38 (mkF m 22 #[.val (.ref a), .unset] [])
  refine own_st (fun _ k => XS.goto X38.here hx rfl (pc0 := 22) (pc' := 84) rfl (hb hby d3_22) (by decide) (by decide) k) ?_
  show own_Go p e s below _ _ _ T38 (mkF m 84 #[.val (.ref a), .unset] [])
  refine own_st (fun _ k => XS.aloadN X38.here hx rfl (hb hby d3_84) rfl rfl k) ?_
  show own_Go p e s below _ _ _ T38 (mkF m 85 #[.val (.ref a), .unset] [(.ref a)])
  obtain ⟨T41, X41, e41, st41⟩ := getF X38 hx hZ hown (host := "") (Or.inl (hw _ (List.mem_of_getElem? (i := 23) rfl))) Via.refl e38 F_classOf_a (g := (mkF m 85 #[.val (.ref a), .unset] [(.ref a)])) rfl rfl (hb hby d3_85)
  refine own_st st41 ?_
  show own_Go p e s below _ _ _ T41 (mkF m 88 #[.val (.ref a), .unset] [(.ref u0)])
  exact own_retR X41 hx hlk hret rfl rfl rfl (hb hby d3_88) (by decide) (by decide) (by rw [e41]; exact ⟨rfl, N38, K40, E_a, F_classOf_a⟩)
theorem ef_rm3_1 (m : MethodId) (z0 : Addr) : entryFrame m #[(.ref z0)] 2 = mkF m 0 #[.val (.ref z0), .unset] [] := by first | (simp [entryFrame, mkF, argsToLocals, Value.category]; done) | rfl
set_option maxRecDepth 65536 in
set_option maxHeartbeats 40000000 in
theorem rm3_1 (l : Launch) (Z : State) (a0 : Array Value) (hw : ∀ d ∈ tables_1, d.before a0 Z = true) (ws : List Jvm.Cond) (a u0 u1 : Addr) (k0 k1 : ClassId) (q0 q1 q2 c0 c1 c2 : Int32) (h0 : Heap) (n0 : Nat) (Z0 : n0 ≤ h0.size) (E_a : (Exa Z h0 a "com/example/hush5/hush5/search/TupleClasses")) (F_partOf_a : (Fld Z h0 a "com/example/hush5/hush5/search/TupleClasses" "partOf" "[I" (.ref u0))) (F_classOfPart_a : (Fld Z h0 a "com/example/hush5/hush5/search/TupleClasses" "classOfPart" "[I" (.ref u1))) (F_target_a : (Fld Z h0 a "com/example/hush5/hush5/search/TupleClasses" "target" "[I" .null)) (F_classOf_a : (Fld Z h0 a "com/example/hush5/hush5/search/TupleClasses" "classOf" "[I" .null)) (g_a : n0 ≤ a) (V_u0 : Arv Z h0 u0 k0 .int (3 : Int32) [(.int q0), (.int q1), (.int q2)] (.int (0 : Int32))) (V_u1 : Arv Z h0 u1 k1 .int (3 : Int32) [(.int c0), (.int c1), (.int c2)] (.int (0 : Int32))) (ne_a_u0 : a ≠ u0) (ne_u0_a : u0 ≠ a) (ne_a_u1 : a ≠ u1) (ne_u1_a : u1 ≠ a) (hq0 : q0 = 0 ∨ q0 = 1 ∨ q0 = 2) (hq1 : q1 = 0 ∨ q1 = 1 ∨ q1 = 2) (hq2 : q2 = 0 ∨ q2 = 1 ∨ q2 = 2) :
    own_Met l Z (⟨"com/example/hush5/hush5/search/TupleClasses", "classOf", "()[I"⟩ : MethodName) prog_69_method_3_code 2 (some (.array .int)) ({ frames := 0, cells := 1, slots := 3, locals := 0 } : Room) ws #[(.ref a)] h0 (fun v h L => ∃ (d : Addr) (k : ClassId), v = some (.ref d) ∧ Fr n0 L ∧ Keep h0 h [a] ∧ (h0.size ≤ d) ∧ (Exa Z h a "com/example/hush5/hush5/search/TupleClasses") ∧ (Fld Z h a "com/example/hush5/hush5/search/TupleClasses" "classOf" "[I" (.ref d)) ∧ (Arv Z h d k .int (3 : Int32) [(.int (own_pick q0 c0 c1 c2)), (.int (own_pick q1 c0 c1 c2)), (.int (own_pick q2 c0 c1 c2))] (.int (0 : Int32)))) 1 3 := by
  refine own_enter pf3 (fun m => ef_rm3_1 m a) ?_
  intro p e s m below meth c T0 hx hby hml hown hnm hret hlk hZ X0 e0
  have N0 := Fr.nil n0
  show own_Go p e s below _ _ _ T0 (mkF m 0 #[.val (.ref a), .unset] [])
  have K_0 := Keep.refl h0 [a]
  refine own_st (fun _ k => XS.aloadN X0.here hx rfl (hb hby d3_0) rfl rfl k) ?_
  show own_Go p e s below _ _ _ T0 (mkF m 1 #[.val (.ref a), .unset] [(.ref a)])
  obtain ⟨T42, X42, e42, st42⟩ := getF X0 hx hZ hown (host := "") (Or.inl (hw _ (List.mem_of_getElem? (i := 23) rfl))) Via.refl e0 F_classOf_a (g := (mkF m 1 #[.val (.ref a), .unset] [(.ref a)])) rfl rfl (hb hby d3_1)
  refine own_st st42 ?_
  show own_Go p e s below _ _ _ T42 (mkF m 4 #[.val (.ref a), .unset] [.null])
  refine own_st (fun _ k => XS.ifnonnullNo X42.here hx rfl (hb hby d3_4) rfl k) ?_
  show own_Go p e s below _ _ _ T42 (mkF m 7 #[.val (.ref a), .unset] [])
  refine own_st (fun _ k => XS.aloadN X42.here hx rfl (hb hby d3_7) rfl rfl k) ?_
  show own_Go p e s below _ _ _ T42 (mkF m 8 #[.val (.ref a), .unset] [(.ref a)])
  obtain ⟨T43, X43, e43, st43⟩ := getF X42 hx hZ hown (host := "") (Or.inl (hw _ (List.mem_of_getElem? (i := 14) rfl))) Via.refl e42 F_classOfPart_a (g := (mkF m 8 #[.val (.ref a), .unset] [(.ref a)])) rfl rfl (hb hby d3_8)
  refine own_st st43 ?_
  show own_Go p e s below _ _ _ T43 (mkF m 11 #[.val (.ref a), .unset] [(.ref u1)])
  refine own_st (fun _ k => XS.ifnonnullYes X43.here hx rfl (pc0 := 11) (pc' := 25) rfl (hb hby d3_11) rfl (by decide) (by decide) k) ?_
  show own_Go p e s below _ _ _ T43 (mkF m 25 #[.val (.ref a), .unset] [])
  refine own_st (fun _ k => XS.aloadN X43.here hx rfl (hb hby d3_25) rfl rfl k) ?_
  show own_Go p e s below _ _ _ T43 (mkF m 26 #[.val (.ref a), .unset] [(.ref a)])
  refine own_st (fun _ k => XS.aloadN X43.here hx rfl (hb hby d3_26) rfl rfl k) ?_
  show own_Go p e s below _ _ _ T43 (mkF m 27 #[.val (.ref a), .unset] [(.ref a), (.ref a)])
  obtain ⟨T44, X44, e44, st44⟩ := getF X43 hx hZ hown (host := "") (Or.inl (hw _ (List.mem_of_getElem? (i := 16) rfl))) Via.refl e43 F_target_a (g := (mkF m 27 #[.val (.ref a), .unset] [(.ref a), (.ref a)])) rfl rfl (hb hby d3_27)
  refine own_st st44 ?_
  show own_Go p e s below _ _ _ T44 (mkF m 30 #[.val (.ref a), .unset] [.null, (.ref a)])
  refine own_st (fun _ k => XS.ifnonnullNo X44.here hx rfl (hb hby d3_30) rfl k) ?_
  show own_Go p e s below _ _ _ T44 (mkF m 33 #[.val (.ref a), .unset] [(.ref a)])
  refine own_st (fun _ k => XS.aloadN X44.here hx rfl (hb hby d3_33) rfl rfl k) ?_
  show own_Go p e s below _ _ _ T44 (mkF m 34 #[.val (.ref a), .unset] [(.ref a), (.ref a)])
  obtain ⟨T45, X45, e45, st45⟩ := getF X44 hx hZ hown (host := "") (Or.inl (hw _ (List.mem_of_getElem? (i := 12) rfl))) Via.refl e44 F_partOf_a (g := (mkF m 34 #[.val (.ref a), .unset] [(.ref a), (.ref a)])) rfl rfl (hb hby d3_34)
  refine own_st st45 ?_
  show own_Go p e s below _ _ _ T45 (mkF m 37 #[.val (.ref a), .unset] [(.ref u0), (.ref a)])
  refine own_st (own_len X45 hx hZ e45 V_u0 (g := (mkF m 37 #[.val (.ref a), .unset] [(.ref u0), (.ref a)])) rfl rfl (hb hby d3_37)) ?_
  show own_Go p e s below _ _ _ T45 (mkF m 38 #[.val (.ref a), .unset] [(.int (3 : Int32)), (.ref a)])
  obtain ⟨T46, h46, k46, X46, e46, E46, A46, Ex46, st46⟩ := newPE X45 hx hZ (hw _ (List.mem_of_getElem? (i := 2) rfl)) e45 (g := (mkF m 38 #[.val (.ref a), .unset] [(.int (3 : Int32)), (.ref a)])) rfl (hb hby d3_38) rfl (by decide) (cap := 3) (by decide) (by decide) (by decide) (by decide) (ad := "[I") (by decide)
  obtain ⟨d, g46⟩ : ∃ z, z = h0.size := ⟨_, rfl⟩
  rw [← g46] at A46 Ex46 st46
  have g_d : n0 ≤ d := Nat.le_trans Z0 (Nat.le_of_eq g46.symm)
  have ne_a_d : a ≠ d := Nat.ne_of_lt (Nat.lt_of_lt_of_le E_a.lt (Nat.le_of_eq g46.symm))
  have ne_d_a := Ne.symm ne_a_d
  have ne_u0_d : u0 ≠ d := Nat.ne_of_lt (Nat.lt_of_lt_of_le V_u0.lt (Nat.le_of_eq g46.symm))
  have ne_d_u0 := Ne.symm ne_u0_d
  have ne_u1_d : u1 ≠ d := Nat.ne_of_lt (Nat.lt_of_lt_of_le V_u1.lt (Nat.le_of_eq g46.symm))
  have ne_d_u1 := Ne.symm ne_u1_d
  have sz_d := Nat.le_trans K_0.1 (Nat.le_of_eq g46.symm)
  replace E_a := E_a.ext E46
  replace F_partOf_a := F_partOf_a.ext E46
  replace F_classOfPart_a := F_classOfPart_a.ext E46
  replace F_target_a := F_target_a.ext E46
  replace F_classOf_a := F_classOf_a.ext E46
  replace V_u0 := V_u0.ext E46
  replace V_u1 := V_u1.ext E46
  have Z47 := Nat.le_trans Z0 E46.1
  have K48 := K_0.ext E46
  have V_d : Arv Z h46 d k46 .int (3 : Int32) [(.int (0 : Int32)), (.int (0 : Int32)), (.int (0 : Int32))] (.int (0 : Int32)) := (Arv.new A46 (by decide)).pad (pad_rep [] (.int (0 : Int32)) 3)
  have E_d := Ex46
  refine own_st st46 ?_
  show own_Go p e s below _ _ _ T46 (mkF m 40 #[.val (.ref a), .unset] [(.ref d), (.ref a)])
  refine own_st (fun _ k => XS.goto X46.here hx rfl (pc0 := 40) (pc' := 47) rfl (hb hby d3_40) (by decide) (by decide) k) ?_
  show own_Go p e s below _ _ _ T46 (mkF m 47 #[.val (.ref a), .unset] [(.ref d), (.ref a)])
  obtain ⟨T49, h49, X49, e49, W49, st49⟩ := putF X46 hx hZ hown (host := "") (Or.inl (hw _ (List.mem_of_getElem? (i := 23) rfl))) Via.refl e46 F_classOf_a E_a (Or.inl (hw _ (List.mem_of_getElem? (i := 24) rfl))) (hw _ (List.mem_of_getElem? (i := 4) rfl)) (ty := (.array .int)) (by decide) rfl rfl (g := (mkF m 47 #[.val (.ref a), .unset] [(.ref d), (.ref a)])) rfl rfl (hb hby d3_47)
  refine own_st st49 ?_
  replace F_classOf_a := F_classOf_a.same W49
  replace E_a := E_a.wr W49
  replace F_partOf_a := F_partOf_a.other W49 (Or.inr (slot_ne (Or.inr (hw _ (List.mem_of_getElem? (i := 13) rfl))) (Or.inl (hw _ (List.mem_of_getElem? (i := 24) rfl))) (by decide) (t := (.array .int)) (t' := (.array .int)) (by decide) (by decide)))
  replace F_classOfPart_a := F_classOfPart_a.other W49 (Or.inr (slot_ne (Or.inr (hw _ (List.mem_of_getElem? (i := 15) rfl))) (Or.inl (hw _ (List.mem_of_getElem? (i := 24) rfl))) (by decide) (t := (.array .int)) (t' := (.array .int)) (by decide) (by decide)))
  replace F_target_a := F_target_a.other W49 (Or.inr (slot_ne (Or.inr (hw _ (List.mem_of_getElem? (i := 17) rfl))) (Or.inl (hw _ (List.mem_of_getElem? (i := 24) rfl))) (by decide) (t := (.array .int)) (t' := (.array .int)) (by decide) (by decide)))
  replace V_u0 := V_u0.other W49 ne_u0_a
  replace V_u1 := V_u1.other W49 ne_u1_a
  replace V_d := V_d.other W49 ne_d_a
  replace E_d := E_d.wr W49
  have Z50 := Nat.le_trans Z47 (Keep.of_wr W49).1
  have K51 := K48.wr W49 (Or.inl (List.mem_of_getElem? (i := 0) rfl))
  have N49 := Fr.snoc X49 N0 g_a
  show own_Go p e s below _ _ _ T49 (mkF m 50 #[.val (.ref a), .unset] [])
  refine own_st (fun _ k => XS.iconst X49.here hx rfl (hb hby d3_50) k) ?_
  show own_Go p e s below _ _ _ T49 (mkF m 51 #[.val (.ref a), .unset] [(.int (0 : Int32))])
  refine own_st (fun _ k => XS.istoreN X49.here hx rfl (hb hby d3_51) rfl (l' := #[.val (.ref a), .val (.int (0 : Int32))]) rfl k) ?_
  show own_Go p e s below _ _ _ T49 (mkF m 52 #[.val (.ref a), .val (.int (0 : Int32))] [])
  refine own_st (fun _ k => XS.iloadN X49.here hx rfl (hb hby d3_52) rfl k) ?_
  show own_Go p e s below _ _ _ T49 (mkF m 53 #[.val (.ref a), .val (.int (0 : Int32))] [(.int (0 : Int32))])
  refine own_st (fun _ k => XS.aloadN X49.here hx rfl (hb hby d3_53) rfl rfl k) ?_
  show own_Go p e s below _ _ _ T49 (mkF m 54 #[.val (.ref a), .val (.int (0 : Int32))] [(.ref a), (.int (0 : Int32))])
  obtain ⟨T52, X52, e52, st52⟩ := getF X49 hx hZ hown (host := "") (Or.inl (hw _ (List.mem_of_getElem? (i := 12) rfl))) Via.refl e49 F_partOf_a (g := (mkF m 54 #[.val (.ref a), .val (.int (0 : Int32))] [(.ref a), (.int (0 : Int32))])) rfl rfl (hb hby d3_54)
  refine own_st st52 ?_
  show own_Go p e s below _ _ _ T52 (mkF m 57 #[.val (.ref a), .val (.int (0 : Int32))] [(.ref u0), (.int (0 : Int32))])
  refine own_st (own_len X52 hx hZ e52 V_u0 (g := (mkF m 57 #[.val (.ref a), .val (.int (0 : Int32))] [(.ref u0), (.int (0 : Int32))])) rfl rfl (hb hby d3_57)) ?_
  show own_Go p e s below _ _ _ T52 (mkF m 58 #[.val (.ref a), .val (.int (0 : Int32))] [(.int (3 : Int32)), (.int (0 : Int32))])
  refine own_st (fun _ k => XS.icmpNo X52.here hx rfl (hb hby d3_58) rfl (by decide) k) ?_
  show own_Go p e s below _ _ _ T52 (mkF m 61 #[.val (.ref a), .val (.int (0 : Int32))] [])
  refine own_st (fun _ k => XS.aloadN X52.here hx rfl (hb hby d3_61) rfl rfl k) ?_
  show own_Go p e s below _ _ _ T52 (mkF m 62 #[.val (.ref a), .val (.int (0 : Int32))] [(.ref a)])
  obtain ⟨T53, X53, e53, st53⟩ := getF X52 hx hZ hown (host := "") (Or.inl (hw _ (List.mem_of_getElem? (i := 23) rfl))) Via.refl e52 F_classOf_a (g := (mkF m 62 #[.val (.ref a), .val (.int (0 : Int32))] [(.ref a)])) rfl rfl (hb hby d3_62)
  refine own_st st53 ?_
  show own_Go p e s below _ _ _ T53 (mkF m 65 #[.val (.ref a), .val (.int (0 : Int32))] [(.ref d)])
  refine own_st (fun _ k => XS.iloadN X53.here hx rfl (hb hby d3_65) rfl k) ?_
  show own_Go p e s below _ _ _ T53 (mkF m 66 #[.val (.ref a), .val (.int (0 : Int32))] [(.int (0 : Int32)), (.ref d)])
  refine own_st (fun _ k => XS.aloadN X53.here hx rfl (hb hby d3_66) rfl rfl k) ?_
  show own_Go p e s below _ _ _ T53 (mkF m 67 #[.val (.ref a), .val (.int (0 : Int32))] [(.ref a), (.int (0 : Int32)), (.ref d)])
  obtain ⟨T54, X54, e54, st54⟩ := getF X53 hx hZ hown (host := "") (Or.inl (hw _ (List.mem_of_getElem? (i := 14) rfl))) Via.refl e53 F_classOfPart_a (g := (mkF m 67 #[.val (.ref a), .val (.int (0 : Int32))] [(.ref a), (.int (0 : Int32)), (.ref d)])) rfl rfl (hb hby d3_67)
  refine own_st st54 ?_
  show own_Go p e s below _ _ _ T54 (mkF m 70 #[.val (.ref a), .val (.int (0 : Int32))] [(.ref u1), (.int (0 : Int32)), (.ref d)])
  refine own_st (fun _ k => XS.aloadN X54.here hx rfl (hb hby d3_70) rfl rfl k) ?_
  show own_Go p e s below _ _ _ T54 (mkF m 71 #[.val (.ref a), .val (.int (0 : Int32))] [(.ref a), (.ref u1), (.int (0 : Int32)), (.ref d)])
  obtain ⟨T55, X55, e55, st55⟩ := getF X54 hx hZ hown (host := "") (Or.inl (hw _ (List.mem_of_getElem? (i := 12) rfl))) Via.refl e54 F_partOf_a (g := (mkF m 71 #[.val (.ref a), .val (.int (0 : Int32))] [(.ref a), (.ref u1), (.int (0 : Int32)), (.ref d)])) rfl rfl (hb hby d3_71)
  refine own_st st55 ?_
  show own_Go p e s below _ _ _ T55 (mkF m 74 #[.val (.ref a), .val (.int (0 : Int32))] [(.ref u0), (.ref u1), (.int (0 : Int32)), (.ref d)])
  refine own_st (fun _ k => XS.iloadN X55.here hx rfl (hb hby d3_74) rfl k) ?_
  show own_Go p e s below _ _ _ T55 (mkF m 75 #[.val (.ref a), .val (.int (0 : Int32))] [(.int (0 : Int32)), (.ref u0), (.ref u1), (.int (0 : Int32)), (.ref d)])
  refine own_st (own_ldI X55 hx hZ e55 V_u0 (j := (0 : Int32)) (x := q0) ⟨by decide, by decide⟩ rfl (g := (mkF m 75 #[.val (.ref a), .val (.int (0 : Int32))] [(.int (0 : Int32)), (.ref u0), (.ref u1), (.int (0 : Int32)), (.ref d)])) rfl rfl (hb hby d3_75)) ?_
  show own_Go p e s below _ _ _ T55 (mkF m 76 #[.val (.ref a), .val (.int (0 : Int32))] [(.int q0), (.ref u1), (.int (0 : Int32)), (.ref d)])
  refine own_st (own_ldI X55 hx hZ e55 V_u1 (j := q0) (x := (own_pick q0 c0 c1 c2)) (own_pk (c0 := 0) (c1 := 0) (c2 := 0) hq0).1 (own_pk hq0).2 (g := (mkF m 76 #[.val (.ref a), .val (.int (0 : Int32))] [(.int q0), (.ref u1), (.int (0 : Int32)), (.ref d)])) rfl rfl (hb hby d3_76)) ?_
  show own_Go p e s below _ _ _ T55 (mkF m 77 #[.val (.ref a), .val (.int (0 : Int32))] [(.int (own_pick q0 c0 c1 c2)), (.int (0 : Int32)), (.ref d)])
  obtain ⟨T56, h56, X56, e56, W56, V56, st56⟩ := own_stI X55 hx hZ e55 V_d (j := (0 : Int32)) ⟨by decide, by decide⟩ (Nat.le_of_ble_eq_true rfl) (g := (mkF m 77 #[.val (.ref a), .val (.int (0 : Int32))] [(.int (own_pick q0 c0 c1 c2)), (.int (0 : Int32)), (.ref d)])) rfl rfl (hb hby d3_77)
  clear V_d
  have V_d : Arv Z h56 d k46 .int (3 : Int32) [(.int (own_pick q0 c0 c1 c2)), (.int (0 : Int32)), (.int (0 : Int32))] (.int (0 : Int32)) := V56
  replace E_a := E_a.wr W56
  replace F_partOf_a := F_partOf_a.other W56 (Or.inl ne_a_d)
  replace F_classOfPart_a := F_classOfPart_a.other W56 (Or.inl ne_a_d)
  replace F_target_a := F_target_a.other W56 (Or.inl ne_a_d)
  replace V_u0 := V_u0.other W56 ne_u0_d
  replace V_u1 := V_u1.other W56 ne_u1_d
  replace E_d := E_d.wr W56
  replace F_classOf_a := F_classOf_a.other W56 (Or.inl ne_a_d)
  have Z57 := Nat.le_trans Z50 (Keep.of_wr W56).1
  have K58 := K51.wr W56 (Or.inr sz_d)
  have N56 := Fr.snoc X56 N49 g_d
  refine own_st st56 ?_
  show own_Go p e s below _ _ _ T56 (mkF m 78 #[.val (.ref a), .val (.int (0 : Int32))] [])
  refine own_st (fun _ k => XS.iinc X56.here hx rfl (hb hby d3_78) rfl (l' := #[.val (.ref a), .val (.int (1 : Int32))]) rfl k) ?_
  show own_Go p e s below _ _ _ T56 (mkF m 81 #[.val (.ref a), .val (.int (1 : Int32))] [])
  refine own_st (fun _ k => XS.goto X56.here hx rfl (pc0 := 81) (pc' := 52) rfl (hb hby d3_81) (by decide) (by decide) k) ?_
  show own_Go p e s below _ _ _ T56 (mkF m 52 #[.val (.ref a), .val (.int (1 : Int32))] [])
  refine own_st (fun _ k => XS.iloadN X56.here hx rfl (hb hby d3_52) rfl k) ?_
  show own_Go p e s below _ _ _ T56 (mkF m 53 #[.val (.ref a), .val (.int (1 : Int32))] [(.int (1 : Int32))])
  refine own_st (fun _ k => XS.aloadN X56.here hx rfl (hb hby d3_53) rfl rfl k) ?_
  show own_Go p e s below _ _ _ T56 (mkF m 54 #[.val (.ref a), .val (.int (1 : Int32))] [(.ref a), (.int (1 : Int32))])
  obtain ⟨T59, X59, e59, st59⟩ := getF X56 hx hZ hown (host := "") (Or.inl (hw _ (List.mem_of_getElem? (i := 12) rfl))) Via.refl e56 F_partOf_a (g := (mkF m 54 #[.val (.ref a), .val (.int (1 : Int32))] [(.ref a), (.int (1 : Int32))])) rfl rfl (hb hby d3_54)
  refine own_st st59 ?_
  show own_Go p e s below _ _ _ T59 (mkF m 57 #[.val (.ref a), .val (.int (1 : Int32))] [(.ref u0), (.int (1 : Int32))])
  refine own_st (own_len X59 hx hZ e59 V_u0 (g := (mkF m 57 #[.val (.ref a), .val (.int (1 : Int32))] [(.ref u0), (.int (1 : Int32))])) rfl rfl (hb hby d3_57)) ?_
  show own_Go p e s below _ _ _ T59 (mkF m 58 #[.val (.ref a), .val (.int (1 : Int32))] [(.int (3 : Int32)), (.int (1 : Int32))])
  refine own_st (fun _ k => XS.icmpNo X59.here hx rfl (hb hby d3_58) rfl (by decide) k) ?_
  show own_Go p e s below _ _ _ T59 (mkF m 61 #[.val (.ref a), .val (.int (1 : Int32))] [])
  refine own_st (fun _ k => XS.aloadN X59.here hx rfl (hb hby d3_61) rfl rfl k) ?_
  show own_Go p e s below _ _ _ T59 (mkF m 62 #[.val (.ref a), .val (.int (1 : Int32))] [(.ref a)])
  obtain ⟨T60, X60, e60, st60⟩ := getF X59 hx hZ hown (host := "") (Or.inl (hw _ (List.mem_of_getElem? (i := 23) rfl))) Via.refl e59 F_classOf_a (g := (mkF m 62 #[.val (.ref a), .val (.int (1 : Int32))] [(.ref a)])) rfl rfl (hb hby d3_62)
  refine own_st st60 ?_
  show own_Go p e s below _ _ _ T60 (mkF m 65 #[.val (.ref a), .val (.int (1 : Int32))] [(.ref d)])
  refine own_st (fun _ k => XS.iloadN X60.here hx rfl (hb hby d3_65) rfl k) ?_
  show own_Go p e s below _ _ _ T60 (mkF m 66 #[.val (.ref a), .val (.int (1 : Int32))] [(.int (1 : Int32)), (.ref d)])
  refine own_st (fun _ k => XS.aloadN X60.here hx rfl (hb hby d3_66) rfl rfl k) ?_
  show own_Go p e s below _ _ _ T60 (mkF m 67 #[.val (.ref a), .val (.int (1 : Int32))] [(.ref a), (.int (1 : Int32)), (.ref d)])
  obtain ⟨T61, X61, e61, st61⟩ := getF X60 hx hZ hown (host := "") (Or.inl (hw _ (List.mem_of_getElem? (i := 14) rfl))) Via.refl e60 F_classOfPart_a (g := (mkF m 67 #[.val (.ref a), .val (.int (1 : Int32))] [(.ref a), (.int (1 : Int32)), (.ref d)])) rfl rfl (hb hby d3_67)
  refine own_st st61 ?_
  show own_Go p e s below _ _ _ T61 (mkF m 70 #[.val (.ref a), .val (.int (1 : Int32))] [(.ref u1), (.int (1 : Int32)), (.ref d)])
  refine own_st (fun _ k => XS.aloadN X61.here hx rfl (hb hby d3_70) rfl rfl k) ?_
  show own_Go p e s below _ _ _ T61 (mkF m 71 #[.val (.ref a), .val (.int (1 : Int32))] [(.ref a), (.ref u1), (.int (1 : Int32)), (.ref d)])
  obtain ⟨T62, X62, e62, st62⟩ := getF X61 hx hZ hown (host := "") (Or.inl (hw _ (List.mem_of_getElem? (i := 12) rfl))) Via.refl e61 F_partOf_a (g := (mkF m 71 #[.val (.ref a), .val (.int (1 : Int32))] [(.ref a), (.ref u1), (.int (1 : Int32)), (.ref d)])) rfl rfl (hb hby d3_71)
  refine own_st st62 ?_
  show own_Go p e s below _ _ _ T62 (mkF m 74 #[.val (.ref a), .val (.int (1 : Int32))] [(.ref u0), (.ref u1), (.int (1 : Int32)), (.ref d)])
  refine own_st (fun _ k => XS.iloadN X62.here hx rfl (hb hby d3_74) rfl k) ?_
  show own_Go p e s below _ _ _ T62 (mkF m 75 #[.val (.ref a), .val (.int (1 : Int32))] [(.int (1 : Int32)), (.ref u0), (.ref u1), (.int (1 : Int32)), (.ref d)])
  refine own_st (own_ldI X62 hx hZ e62 V_u0 (j := (1 : Int32)) (x := q1) ⟨by decide, by decide⟩ rfl (g := (mkF m 75 #[.val (.ref a), .val (.int (1 : Int32))] [(.int (1 : Int32)), (.ref u0), (.ref u1), (.int (1 : Int32)), (.ref d)])) rfl rfl (hb hby d3_75)) ?_
  show own_Go p e s below _ _ _ T62 (mkF m 76 #[.val (.ref a), .val (.int (1 : Int32))] [(.int q1), (.ref u1), (.int (1 : Int32)), (.ref d)])
  refine own_st (own_ldI X62 hx hZ e62 V_u1 (j := q1) (x := (own_pick q1 c0 c1 c2)) (own_pk (c0 := 0) (c1 := 0) (c2 := 0) hq1).1 (own_pk hq1).2 (g := (mkF m 76 #[.val (.ref a), .val (.int (1 : Int32))] [(.int q1), (.ref u1), (.int (1 : Int32)), (.ref d)])) rfl rfl (hb hby d3_76)) ?_
  show own_Go p e s below _ _ _ T62 (mkF m 77 #[.val (.ref a), .val (.int (1 : Int32))] [(.int (own_pick q1 c0 c1 c2)), (.int (1 : Int32)), (.ref d)])
  obtain ⟨T63, h63, X63, e63, W63, V63, st63⟩ := own_stI X62 hx hZ e62 V_d (j := (1 : Int32)) ⟨by decide, by decide⟩ (Nat.le_of_ble_eq_true rfl) (g := (mkF m 77 #[.val (.ref a), .val (.int (1 : Int32))] [(.int (own_pick q1 c0 c1 c2)), (.int (1 : Int32)), (.ref d)])) rfl rfl (hb hby d3_77)
  clear V_d
  have V_d : Arv Z h63 d k46 .int (3 : Int32) [(.int (own_pick q0 c0 c1 c2)), (.int (own_pick q1 c0 c1 c2)), (.int (0 : Int32))] (.int (0 : Int32)) := V63
  replace E_a := E_a.wr W63
  replace F_partOf_a := F_partOf_a.other W63 (Or.inl ne_a_d)
  replace F_classOfPart_a := F_classOfPart_a.other W63 (Or.inl ne_a_d)
  replace F_target_a := F_target_a.other W63 (Or.inl ne_a_d)
  replace V_u0 := V_u0.other W63 ne_u0_d
  replace V_u1 := V_u1.other W63 ne_u1_d
  replace E_d := E_d.wr W63
  replace F_classOf_a := F_classOf_a.other W63 (Or.inl ne_a_d)
  have Z64 := Nat.le_trans Z57 (Keep.of_wr W63).1
  have K65 := K58.wr W63 (Or.inr sz_d)
  have N63 := Fr.snoc X63 N56 g_d
  refine own_st st63 ?_
  show own_Go p e s below _ _ _ T63 (mkF m 78 #[.val (.ref a), .val (.int (1 : Int32))] [])
  refine own_st (fun _ k => XS.iinc X63.here hx rfl (hb hby d3_78) rfl (l' := #[.val (.ref a), .val (.int (2 : Int32))]) rfl k) ?_
  show own_Go p e s below _ _ _ T63 (mkF m 81 #[.val (.ref a), .val (.int (2 : Int32))] [])
  refine own_st (fun _ k => XS.goto X63.here hx rfl (pc0 := 81) (pc' := 52) rfl (hb hby d3_81) (by decide) (by decide) k) ?_
  show own_Go p e s below _ _ _ T63 (mkF m 52 #[.val (.ref a), .val (.int (2 : Int32))] [])
  refine own_st (fun _ k => XS.iloadN X63.here hx rfl (hb hby d3_52) rfl k) ?_
  show own_Go p e s below _ _ _ T63 (mkF m 53 #[.val (.ref a), .val (.int (2 : Int32))] [(.int (2 : Int32))])
  refine own_st (fun _ k => XS.aloadN X63.here hx rfl (hb hby d3_53) rfl rfl k) ?_
  show own_Go p e s below _ _ _ T63 (mkF m 54 #[.val (.ref a), .val (.int (2 : Int32))] [(.ref a), (.int (2 : Int32))])
  obtain ⟨T66, X66, e66, st66⟩ := getF X63 hx hZ hown (host := "") (Or.inl (hw _ (List.mem_of_getElem? (i := 12) rfl))) Via.refl e63 F_partOf_a (g := (mkF m 54 #[.val (.ref a), .val (.int (2 : Int32))] [(.ref a), (.int (2 : Int32))])) rfl rfl (hb hby d3_54)
  refine own_st st66 ?_
  show own_Go p e s below _ _ _ T66 (mkF m 57 #[.val (.ref a), .val (.int (2 : Int32))] [(.ref u0), (.int (2 : Int32))])
  refine own_st (own_len X66 hx hZ e66 V_u0 (g := (mkF m 57 #[.val (.ref a), .val (.int (2 : Int32))] [(.ref u0), (.int (2 : Int32))])) rfl rfl (hb hby d3_57)) ?_
  show own_Go p e s below _ _ _ T66 (mkF m 58 #[.val (.ref a), .val (.int (2 : Int32))] [(.int (3 : Int32)), (.int (2 : Int32))])
  refine own_st (fun _ k => XS.icmpNo X66.here hx rfl (hb hby d3_58) rfl (by decide) k) ?_
  show own_Go p e s below _ _ _ T66 (mkF m 61 #[.val (.ref a), .val (.int (2 : Int32))] [])
  refine own_st (fun _ k => XS.aloadN X66.here hx rfl (hb hby d3_61) rfl rfl k) ?_
  show own_Go p e s below _ _ _ T66 (mkF m 62 #[.val (.ref a), .val (.int (2 : Int32))] [(.ref a)])
  obtain ⟨T67, X67, e67, st67⟩ := getF X66 hx hZ hown (host := "") (Or.inl (hw _ (List.mem_of_getElem? (i := 23) rfl))) Via.refl e66 F_classOf_a (g := (mkF m 62 #[.val (.ref a), .val (.int (2 : Int32))] [(.ref a)])) rfl rfl (hb hby d3_62)
  refine own_st st67 ?_
  show own_Go p e s below _ _ _ T67 (mkF m 65 #[.val (.ref a), .val (.int (2 : Int32))] [(.ref d)])
  refine own_st (fun _ k => XS.iloadN X67.here hx rfl (hb hby d3_65) rfl k) ?_
  show own_Go p e s below _ _ _ T67 (mkF m 66 #[.val (.ref a), .val (.int (2 : Int32))] [(.int (2 : Int32)), (.ref d)])
  refine own_st (fun _ k => XS.aloadN X67.here hx rfl (hb hby d3_66) rfl rfl k) ?_
  show own_Go p e s below _ _ _ T67 (mkF m 67 #[.val (.ref a), .val (.int (2 : Int32))] [(.ref a), (.int (2 : Int32)), (.ref d)])
  obtain ⟨T68, X68, e68, st68⟩ := getF X67 hx hZ hown (host := "") (Or.inl (hw _ (List.mem_of_getElem? (i := 14) rfl))) Via.refl e67 F_classOfPart_a (g := (mkF m 67 #[.val (.ref a), .val (.int (2 : Int32))] [(.ref a), (.int (2 : Int32)), (.ref d)])) rfl rfl (hb hby d3_67)
  refine own_st st68 ?_
  show own_Go p e s below _ _ _ T68 (mkF m 70 #[.val (.ref a), .val (.int (2 : Int32))] [(.ref u1), (.int (2 : Int32)), (.ref d)])
  refine own_st (fun _ k => XS.aloadN X68.here hx rfl (hb hby d3_70) rfl rfl k) ?_
  show own_Go p e s below _ _ _ T68 (mkF m 71 #[.val (.ref a), .val (.int (2 : Int32))] [(.ref a), (.ref u1), (.int (2 : Int32)), (.ref d)])
  obtain ⟨T69, X69, e69, st69⟩ := getF X68 hx hZ hown (host := "") (Or.inl (hw _ (List.mem_of_getElem? (i := 12) rfl))) Via.refl e68 F_partOf_a (g := (mkF m 71 #[.val (.ref a), .val (.int (2 : Int32))] [(.ref a), (.ref u1), (.int (2 : Int32)), (.ref d)])) rfl rfl (hb hby d3_71)
  refine own_st st69 ?_
  show own_Go p e s below _ _ _ T69 (mkF m 74 #[.val (.ref a), .val (.int (2 : Int32))] [(.ref u0), (.ref u1), (.int (2 : Int32)), (.ref d)])
  refine own_st (fun _ k => XS.iloadN X69.here hx rfl (hb hby d3_74) rfl k) ?_
  show own_Go p e s below _ _ _ T69 (mkF m 75 #[.val (.ref a), .val (.int (2 : Int32))] [(.int (2 : Int32)), (.ref u0), (.ref u1), (.int (2 : Int32)), (.ref d)])
  refine own_st (own_ldI X69 hx hZ e69 V_u0 (j := (2 : Int32)) (x := q2) ⟨by decide, by decide⟩ rfl (g := (mkF m 75 #[.val (.ref a), .val (.int (2 : Int32))] [(.int (2 : Int32)), (.ref u0), (.ref u1), (.int (2 : Int32)), (.ref d)])) rfl rfl (hb hby d3_75)) ?_
  show own_Go p e s below _ _ _ T69 (mkF m 76 #[.val (.ref a), .val (.int (2 : Int32))] [(.int q2), (.ref u1), (.int (2 : Int32)), (.ref d)])
  refine own_st (own_ldI X69 hx hZ e69 V_u1 (j := q2) (x := (own_pick q2 c0 c1 c2)) (own_pk (c0 := 0) (c1 := 0) (c2 := 0) hq2).1 (own_pk hq2).2 (g := (mkF m 76 #[.val (.ref a), .val (.int (2 : Int32))] [(.int q2), (.ref u1), (.int (2 : Int32)), (.ref d)])) rfl rfl (hb hby d3_76)) ?_
  show own_Go p e s below _ _ _ T69 (mkF m 77 #[.val (.ref a), .val (.int (2 : Int32))] [(.int (own_pick q2 c0 c1 c2)), (.int (2 : Int32)), (.ref d)])
  obtain ⟨T70, h70, X70, e70, W70, V70, st70⟩ := own_stI X69 hx hZ e69 V_d (j := (2 : Int32)) ⟨by decide, by decide⟩ (Nat.le_of_ble_eq_true rfl) (g := (mkF m 77 #[.val (.ref a), .val (.int (2 : Int32))] [(.int (own_pick q2 c0 c1 c2)), (.int (2 : Int32)), (.ref d)])) rfl rfl (hb hby d3_77)
  clear V_d
  have V_d : Arv Z h70 d k46 .int (3 : Int32) [(.int (own_pick q0 c0 c1 c2)), (.int (own_pick q1 c0 c1 c2)), (.int (own_pick q2 c0 c1 c2))] (.int (0 : Int32)) := V70
  replace E_a := E_a.wr W70
  replace F_partOf_a := F_partOf_a.other W70 (Or.inl ne_a_d)
  replace F_classOfPart_a := F_classOfPart_a.other W70 (Or.inl ne_a_d)
  replace F_target_a := F_target_a.other W70 (Or.inl ne_a_d)
  replace V_u0 := V_u0.other W70 ne_u0_d
  replace V_u1 := V_u1.other W70 ne_u1_d
  replace E_d := E_d.wr W70
  replace F_classOf_a := F_classOf_a.other W70 (Or.inl ne_a_d)
  have Z71 := Nat.le_trans Z64 (Keep.of_wr W70).1
  have K72 := K65.wr W70 (Or.inr sz_d)
  have N70 := Fr.snoc X70 N63 g_d
  refine own_st st70 ?_
  show own_Go p e s below _ _ _ T70 (mkF m 78 #[.val (.ref a), .val (.int (2 : Int32))] [])
  refine own_st (fun _ k => XS.iinc X70.here hx rfl (hb hby d3_78) rfl (l' := #[.val (.ref a), .val (.int (3 : Int32))]) rfl k) ?_
  show own_Go p e s below _ _ _ T70 (mkF m 81 #[.val (.ref a), .val (.int (3 : Int32))] [])
  refine own_st (fun _ k => XS.goto X70.here hx rfl (pc0 := 81) (pc' := 52) rfl (hb hby d3_81) (by decide) (by decide) k) ?_
  show own_Go p e s below _ _ _ T70 (mkF m 52 #[.val (.ref a), .val (.int (3 : Int32))] [])
  refine own_st (fun _ k => XS.iloadN X70.here hx rfl (hb hby d3_52) rfl k) ?_
  show own_Go p e s below _ _ _ T70 (mkF m 53 #[.val (.ref a), .val (.int (3 : Int32))] [(.int (3 : Int32))])
  refine own_st (fun _ k => XS.aloadN X70.here hx rfl (hb hby d3_53) rfl rfl k) ?_
  show own_Go p e s below _ _ _ T70 (mkF m 54 #[.val (.ref a), .val (.int (3 : Int32))] [(.ref a), (.int (3 : Int32))])
  obtain ⟨T73, X73, e73, st73⟩ := getF X70 hx hZ hown (host := "") (Or.inl (hw _ (List.mem_of_getElem? (i := 12) rfl))) Via.refl e70 F_partOf_a (g := (mkF m 54 #[.val (.ref a), .val (.int (3 : Int32))] [(.ref a), (.int (3 : Int32))])) rfl rfl (hb hby d3_54)
  refine own_st st73 ?_
  show own_Go p e s below _ _ _ T73 (mkF m 57 #[.val (.ref a), .val (.int (3 : Int32))] [(.ref u0), (.int (3 : Int32))])
  refine own_st (own_len X73 hx hZ e73 V_u0 (g := (mkF m 57 #[.val (.ref a), .val (.int (3 : Int32))] [(.ref u0), (.int (3 : Int32))])) rfl rfl (hb hby d3_57)) ?_
  show own_Go p e s below _ _ _ T73 (mkF m 58 #[.val (.ref a), .val (.int (3 : Int32))] [(.int (3 : Int32)), (.int (3 : Int32))])
  refine own_st (fun _ k => XS.icmpYes X73.here hx rfl (pc0 := 58) (pc' := 84) rfl (hb hby d3_58) rfl (by decide) (by decide) (by decide) k) ?_
  show own_Go p e s below _ _ _ T73 (mkF m 84 #[.val (.ref a), .val (.int (3 : Int32))] [])
  refine own_st (fun _ k => XS.aloadN X73.here hx rfl (hb hby d3_84) rfl rfl k) ?_
  show own_Go p e s below _ _ _ T73 (mkF m 85 #[.val (.ref a), .val (.int (3 : Int32))] [(.ref a)])
  obtain ⟨T74, X74, e74, st74⟩ := getF X73 hx hZ hown (host := "") (Or.inl (hw _ (List.mem_of_getElem? (i := 23) rfl))) Via.refl e73 F_classOf_a (g := (mkF m 85 #[.val (.ref a), .val (.int (3 : Int32))] [(.ref a)])) rfl rfl (hb hby d3_85)
  refine own_st st74 ?_
  show own_Go p e s below _ _ _ T74 (mkF m 88 #[.val (.ref a), .val (.int (3 : Int32))] [(.ref d)])
  exact own_retR X74 hx hlk hret rfl rfl rfl (hb hby d3_88) (by decide) (by decide) (by rw [e74]; exact ⟨d, _, rfl, N70, K72, sz_d, E_a, F_classOf_a, V_d⟩)
theorem ef_rm3_2 (m : MethodId) (z0 : Addr) : entryFrame m #[(.ref z0)] 2 = mkF m 0 #[.val (.ref z0), .unset] [] := by first | (simp [entryFrame, mkF, argsToLocals, Value.category]; done) | rfl
set_option maxRecDepth 65536 in
set_option maxHeartbeats 40000000 in
theorem rm3_2 (l : Launch) (Z : State) (a0 : Array Value) (hw : ∀ d ∈ tables_1, d.before a0 Z = true) (ws : List Jvm.Cond) (a u0 u1 u2 : Addr) (k0 k1 k2 : ClassId) (t0 t1 t2 : Int32) (q0 q1 q2 c0 c1 c2 : Int32) (h0 : Heap) (n0 : Nat) (Z0 : n0 ≤ h0.size) (E_a : (Exa Z h0 a "com/example/hush5/hush5/search/TupleClasses")) (F_partOf_a : (Fld Z h0 a "com/example/hush5/hush5/search/TupleClasses" "partOf" "[I" (.ref u0))) (F_classOfPart_a : (Fld Z h0 a "com/example/hush5/hush5/search/TupleClasses" "classOfPart" "[I" (.ref u1))) (F_target_a : (Fld Z h0 a "com/example/hush5/hush5/search/TupleClasses" "target" "[I" (.ref u2))) (F_classOf_a : (Fld Z h0 a "com/example/hush5/hush5/search/TupleClasses" "classOf" "[I" .null)) (g_a : n0 ≤ a) (V_u0 : Arv Z h0 u0 k0 .int (3 : Int32) [(.int q0), (.int q1), (.int q2)] (.int (0 : Int32))) (V_u1 : Arv Z h0 u1 k1 .int (3 : Int32) [(.int c0), (.int c1), (.int c2)] (.int (0 : Int32))) (V_u2 : Arv Z h0 u2 k2 .int (3 : Int32) [(.int t0), (.int t1), (.int t2)] (.int (0 : Int32))) (g_u2 : n0 ≤ u2) (ne_a_u0 : a ≠ u0) (ne_u0_a : u0 ≠ a) (ne_a_u1 : a ≠ u1) (ne_u1_a : u1 ≠ a) (ne_a_u2 : a ≠ u2) (ne_u2_a : u2 ≠ a) (ne_u0_u2 : u0 ≠ u2) (ne_u2_u0 : u2 ≠ u0) (ne_u1_u2 : u1 ≠ u2) (ne_u2_u1 : u2 ≠ u1) (hq0 : q0 = 0 ∨ q0 = 1 ∨ q0 = 2) (hq1 : q1 = 0 ∨ q1 = 1 ∨ q1 = 2) (hq2 : q2 = 0 ∨ q2 = 1 ∨ q2 = 2) :
    own_Met l Z (⟨"com/example/hush5/hush5/search/TupleClasses", "classOf", "()[I"⟩ : MethodName) prog_69_method_3_code 2 (some (.array .int)) ({ frames := 0, cells := 0, slots := 0, locals := 0 } : Room) ws #[(.ref a)] h0 (fun v h L => v = some (.ref u2) ∧ Fr n0 L ∧ Keep h0 h [a, u2] ∧ (Exa Z h a "com/example/hush5/hush5/search/TupleClasses") ∧ (Fld Z h a "com/example/hush5/hush5/search/TupleClasses" "classOf" "[I" (.ref u2)) ∧ (Arv Z h u2 k2 .int (3 : Int32) [(.int (own_pick q0 c0 c1 c2)), (.int (own_pick q1 c0 c1 c2)), (.int (own_pick q2 c0 c1 c2))] (.int (0 : Int32)))) 0 0 := by
  refine own_enter pf3 (fun m => ef_rm3_2 m a) ?_
  intro p e s m below meth c T0 hx hby hml hown hnm hret hlk hZ X0 e0
  have N0 := Fr.nil n0
  show own_Go p e s below _ _ _ T0 (mkF m 0 #[.val (.ref a), .unset] [])
  have K_0 := Keep.refl h0 [a, u2]
  refine own_st (fun _ k => XS.aloadN X0.here hx rfl (hb hby d3_0) rfl rfl k) ?_
  show own_Go p e s below _ _ _ T0 (mkF m 1 #[.val (.ref a), .unset] [(.ref a)])
  obtain ⟨T75, X75, e75, st75⟩ := getF X0 hx hZ hown (host := "") (Or.inl (hw _ (List.mem_of_getElem? (i := 23) rfl))) Via.refl e0 F_classOf_a (g := (mkF m 1 #[.val (.ref a), .unset] [(.ref a)])) rfl rfl (hb hby d3_1)
  refine own_st st75 ?_
  show own_Go p e s below _ _ _ T75 (mkF m 4 #[.val (.ref a), .unset] [.null])
  refine own_st (fun _ k => XS.ifnonnullNo X75.here hx rfl (hb hby d3_4) rfl k) ?_
  show own_Go p e s below _ _ _ T75 (mkF m 7 #[.val (.ref a), .unset] [])
  refine own_st (fun _ k => XS.aloadN X75.here hx rfl (hb hby d3_7) rfl rfl k) ?_
  show own_Go p e s below _ _ _ T75 (mkF m 8 #[.val (.ref a), .unset] [(.ref a)])
  obtain ⟨T76, X76, e76, st76⟩ := getF X75 hx hZ hown (host := "") (Or.inl (hw _ (List.mem_of_getElem? (i := 14) rfl))) Via.refl e75 F_classOfPart_a (g := (mkF m 8 #[.val (.ref a), .unset] [(.ref a)])) rfl rfl (hb hby d3_8)
  refine own_st st76 ?_
  show own_Go p e s below _ _ _ T76 (mkF m 11 #[.val (.ref a), .unset] [(.ref u1)])
  refine own_st (fun _ k => XS.ifnonnullYes X76.here hx rfl (pc0 := 11) (pc' := 25) rfl (hb hby d3_11) rfl (by decide) (by decide) k) ?_
  show own_Go p e s below _ _ _ T76 (mkF m 25 #[.val (.ref a), .unset] [])
  refine own_st (fun _ k => XS.aloadN X76.here hx rfl (hb hby d3_25) rfl rfl k) ?_
  show own_Go p e s below _ _ _ T76 (mkF m 26 #[.val (.ref a), .unset] [(.ref a)])
  refine own_st (fun _ k => XS.aloadN X76.here hx rfl (hb hby d3_26) rfl rfl k) ?_
  show own_Go p e s below _ _ _ T76 (mkF m 27 #[.val (.ref a), .unset] [(.ref a), (.ref a)])
  obtain ⟨T77, X77, e77, st77⟩ := getF X76 hx hZ hown (host := "") (Or.inl (hw _ (List.mem_of_getElem? (i := 16) rfl))) Via.refl e76 F_target_a (g := (mkF m 27 #[.val (.ref a), .unset] [(.ref a), (.ref a)])) rfl rfl (hb hby d3_27)
  refine own_st st77 ?_
  show own_Go p e s below _ _ _ T77 (mkF m 30 #[.val (.ref a), .unset] [(.ref u2), (.ref a)])
  refine own_st (fun _ k => XS.ifnonnullYes X77.here hx rfl (pc0 := 30) (pc' := 43) rfl (hb hby d3_30) rfl (by decide) (by decide) k) ?_
  show own_Go p e s below _ _ _ T77 (mkF m 43 #[.val (.ref a), .unset] [(.ref a)])
  refine own_st (fun _ k => XS.aloadN X77.here hx rfl (hb hby d3_43) rfl rfl k) ?_
  show own_Go p e s below _ _ _ T77 (mkF m 44 #[.val (.ref a), .unset] [(.ref a), (.ref a)])
  obtain ⟨T78, X78, e78, st78⟩ := getF X77 hx hZ hown (host := "") (Or.inl (hw _ (List.mem_of_getElem? (i := 16) rfl))) Via.refl e77 F_target_a (g := (mkF m 44 #[.val (.ref a), .unset] [(.ref a), (.ref a)])) rfl rfl (hb hby d3_44)
  refine own_st st78 ?_
  show own_Go p e s below _ _ _ T78 (mkF m 47 #[.val (.ref a), .unset] [(.ref u2), (.ref a)])
  obtain ⟨T79, h79, X79, e79, W79, st79⟩ := putF X78 hx hZ hown (host := "") (Or.inl (hw _ (List.mem_of_getElem? (i := 23) rfl))) Via.refl e78 F_classOf_a E_a (Or.inl (hw _ (List.mem_of_getElem? (i := 24) rfl))) (hw _ (List.mem_of_getElem? (i := 4) rfl)) (ty := (.array .int)) (by decide) rfl rfl (g := (mkF m 47 #[.val (.ref a), .unset] [(.ref u2), (.ref a)])) rfl rfl (hb hby d3_47)
  refine own_st st79 ?_
  replace F_classOf_a := F_classOf_a.same W79
  replace E_a := E_a.wr W79
  replace F_partOf_a := F_partOf_a.other W79 (Or.inr (slot_ne (Or.inr (hw _ (List.mem_of_getElem? (i := 13) rfl))) (Or.inl (hw _ (List.mem_of_getElem? (i := 24) rfl))) (by decide) (t := (.array .int)) (t' := (.array .int)) (by decide) (by decide)))
  replace F_classOfPart_a := F_classOfPart_a.other W79 (Or.inr (slot_ne (Or.inr (hw _ (List.mem_of_getElem? (i := 15) rfl))) (Or.inl (hw _ (List.mem_of_getElem? (i := 24) rfl))) (by decide) (t := (.array .int)) (t' := (.array .int)) (by decide) (by decide)))
  replace F_target_a := F_target_a.other W79 (Or.inr (slot_ne (Or.inr (hw _ (List.mem_of_getElem? (i := 17) rfl))) (Or.inl (hw _ (List.mem_of_getElem? (i := 24) rfl))) (by decide) (t := (.array .int)) (t' := (.array .int)) (by decide) (by decide)))
  replace V_u0 := V_u0.other W79 ne_u0_a
  replace V_u1 := V_u1.other W79 ne_u1_a
  replace V_u2 := V_u2.other W79 ne_u2_a
  have Z80 := Nat.le_trans Z0 (Keep.of_wr W79).1
  have K81 := K_0.wr W79 (Or.inl (List.mem_of_getElem? (i := 0) rfl))
  have N79 := Fr.snoc X79 N0 g_a
  show own_Go p e s below _ _ _ T79 (mkF m 50 #[.val (.ref a), .unset] [])
  refine own_st (fun _ k => XS.iconst X79.here hx rfl (hb hby d3_50) k) ?_
  show own_Go p e s below _ _ _ T79 (mkF m 51 #[.val (.ref a), .unset] [(.int (0 : Int32))])
  refine own_st (fun _ k => XS.istoreN X79.here hx rfl (hb hby d3_51) rfl (l' := #[.val (.ref a), .val (.int (0 : Int32))]) rfl k) ?_
  show own_Go p e s below _ _ _ T79 (mkF m 52 #[.val (.ref a), .val (.int (0 : Int32))] [])
  refine own_st (fun _ k => XS.iloadN X79.here hx rfl (hb hby d3_52) rfl k) ?_
  show own_Go p e s below _ _ _ T79 (mkF m 53 #[.val (.ref a), .val (.int (0 : Int32))] [(.int (0 : Int32))])
  refine own_st (fun _ k => XS.aloadN X79.here hx rfl (hb hby d3_53) rfl rfl k) ?_
  show own_Go p e s below _ _ _ T79 (mkF m 54 #[.val (.ref a), .val (.int (0 : Int32))] [(.ref a), (.int (0 : Int32))])
  obtain ⟨T82, X82, e82, st82⟩ := getF X79 hx hZ hown (host := "") (Or.inl (hw _ (List.mem_of_getElem? (i := 12) rfl))) Via.refl e79 F_partOf_a (g := (mkF m 54 #[.val (.ref a), .val (.int (0 : Int32))] [(.ref a), (.int (0 : Int32))])) rfl rfl (hb hby d3_54)
  refine own_st st82 ?_
  show own_Go p e s below _ _ _ T82 (mkF m 57 #[.val (.ref a), .val (.int (0 : Int32))] [(.ref u0), (.int (0 : Int32))])
  refine own_st (own_len X82 hx hZ e82 V_u0 (g := (mkF m 57 #[.val (.ref a), .val (.int (0 : Int32))] [(.ref u0), (.int (0 : Int32))])) rfl rfl (hb hby d3_57)) ?_
  show own_Go p e s below _ _ _ T82 (mkF m 58 #[.val (.ref a), .val (.int (0 : Int32))] [(.int (3 : Int32)), (.int (0 : Int32))])
  refine own_st (fun _ k => XS.icmpNo X82.here hx rfl (hb hby d3_58) rfl (by decide) k) ?_
  show own_Go p e s below _ _ _ T82 (mkF m 61 #[.val (.ref a), .val (.int (0 : Int32))] [])
  refine own_st (fun _ k => XS.aloadN X82.here hx rfl (hb hby d3_61) rfl rfl k) ?_
  show own_Go p e s below _ _ _ T82 (mkF m 62 #[.val (.ref a), .val (.int (0 : Int32))] [(.ref a)])
  obtain ⟨T83, X83, e83, st83⟩ := getF X82 hx hZ hown (host := "") (Or.inl (hw _ (List.mem_of_getElem? (i := 23) rfl))) Via.refl e82 F_classOf_a (g := (mkF m 62 #[.val (.ref a), .val (.int (0 : Int32))] [(.ref a)])) rfl rfl (hb hby d3_62)
  refine own_st st83 ?_
  show own_Go p e s below _ _ _ T83 (mkF m 65 #[.val (.ref a), .val (.int (0 : Int32))] [(.ref u2)])
  refine own_st (fun _ k => XS.iloadN X83.here hx rfl (hb hby d3_65) rfl k) ?_
  show own_Go p e s below _ _ _ T83 (mkF m 66 #[.val (.ref a), .val (.int (0 : Int32))] [(.int (0 : Int32)), (.ref u2)])
  refine own_st (fun _ k => XS.aloadN X83.here hx rfl (hb hby d3_66) rfl rfl k) ?_
  show own_Go p e s below _ _ _ T83 (mkF m 67 #[.val (.ref a), .val (.int (0 : Int32))] [(.ref a), (.int (0 : Int32)), (.ref u2)])
  obtain ⟨T84, X84, e84, st84⟩ := getF X83 hx hZ hown (host := "") (Or.inl (hw _ (List.mem_of_getElem? (i := 14) rfl))) Via.refl e83 F_classOfPart_a (g := (mkF m 67 #[.val (.ref a), .val (.int (0 : Int32))] [(.ref a), (.int (0 : Int32)), (.ref u2)])) rfl rfl (hb hby d3_67)
  refine own_st st84 ?_
  show own_Go p e s below _ _ _ T84 (mkF m 70 #[.val (.ref a), .val (.int (0 : Int32))] [(.ref u1), (.int (0 : Int32)), (.ref u2)])
  refine own_st (fun _ k => XS.aloadN X84.here hx rfl (hb hby d3_70) rfl rfl k) ?_
  show own_Go p e s below _ _ _ T84 (mkF m 71 #[.val (.ref a), .val (.int (0 : Int32))] [(.ref a), (.ref u1), (.int (0 : Int32)), (.ref u2)])
  obtain ⟨T85, X85, e85, st85⟩ := getF X84 hx hZ hown (host := "") (Or.inl (hw _ (List.mem_of_getElem? (i := 12) rfl))) Via.refl e84 F_partOf_a (g := (mkF m 71 #[.val (.ref a), .val (.int (0 : Int32))] [(.ref a), (.ref u1), (.int (0 : Int32)), (.ref u2)])) rfl rfl (hb hby d3_71)
  refine own_st st85 ?_
  show own_Go p e s below _ _ _ T85 (mkF m 74 #[.val (.ref a), .val (.int (0 : Int32))] [(.ref u0), (.ref u1), (.int (0 : Int32)), (.ref u2)])
  refine own_st (fun _ k => XS.iloadN X85.here hx rfl (hb hby d3_74) rfl k) ?_
  show own_Go p e s below _ _ _ T85 (mkF m 75 #[.val (.ref a), .val (.int (0 : Int32))] [(.int (0 : Int32)), (.ref u0), (.ref u1), (.int (0 : Int32)), (.ref u2)])
  refine own_st (own_ldI X85 hx hZ e85 V_u0 (j := (0 : Int32)) (x := q0) ⟨by decide, by decide⟩ rfl (g := (mkF m 75 #[.val (.ref a), .val (.int (0 : Int32))] [(.int (0 : Int32)), (.ref u0), (.ref u1), (.int (0 : Int32)), (.ref u2)])) rfl rfl (hb hby d3_75)) ?_
  show own_Go p e s below _ _ _ T85 (mkF m 76 #[.val (.ref a), .val (.int (0 : Int32))] [(.int q0), (.ref u1), (.int (0 : Int32)), (.ref u2)])
  refine own_st (own_ldI X85 hx hZ e85 V_u1 (j := q0) (x := (own_pick q0 c0 c1 c2)) (own_pk (c0 := 0) (c1 := 0) (c2 := 0) hq0).1 (own_pk hq0).2 (g := (mkF m 76 #[.val (.ref a), .val (.int (0 : Int32))] [(.int q0), (.ref u1), (.int (0 : Int32)), (.ref u2)])) rfl rfl (hb hby d3_76)) ?_
  show own_Go p e s below _ _ _ T85 (mkF m 77 #[.val (.ref a), .val (.int (0 : Int32))] [(.int (own_pick q0 c0 c1 c2)), (.int (0 : Int32)), (.ref u2)])
  obtain ⟨T86, h86, X86, e86, W86, V86, st86⟩ := own_stI X85 hx hZ e85 V_u2 (j := (0 : Int32)) ⟨by decide, by decide⟩ (Nat.le_of_ble_eq_true rfl) (g := (mkF m 77 #[.val (.ref a), .val (.int (0 : Int32))] [(.int (own_pick q0 c0 c1 c2)), (.int (0 : Int32)), (.ref u2)])) rfl rfl (hb hby d3_77)
  clear V_u2
  have V_u2 : Arv Z h86 u2 k2 .int (3 : Int32) [(.int (own_pick q0 c0 c1 c2)), (.int t1), (.int t2)] (.int (0 : Int32)) := V86
  replace E_a := E_a.wr W86
  replace F_partOf_a := F_partOf_a.other W86 (Or.inl ne_a_u2)
  replace F_classOfPart_a := F_classOfPart_a.other W86 (Or.inl ne_a_u2)
  replace F_target_a := F_target_a.other W86 (Or.inl ne_a_u2)
  replace V_u0 := V_u0.other W86 ne_u0_u2
  replace V_u1 := V_u1.other W86 ne_u1_u2
  replace F_classOf_a := F_classOf_a.other W86 (Or.inl ne_a_u2)
  have Z87 := Nat.le_trans Z80 (Keep.of_wr W86).1
  have K88 := K81.wr W86 (Or.inl (List.mem_of_getElem? (i := 1) rfl))
  have N86 := Fr.snoc X86 N79 g_u2
  refine own_st st86 ?_
  show own_Go p e s below _ _ _ T86 (mkF m 78 #[.val (.ref a), .val (.int (0 : Int32))] [])
  refine own_st (fun _ k => XS.iinc X86.here hx rfl (hb hby d3_78) rfl (l' := #[.val (.ref a), .val (.int (1 : Int32))]) rfl k) ?_
  show own_Go p e s below _ _ _ T86 (mkF m 81 #[.val (.ref a), .val (.int (1 : Int32))] [])
  refine own_st (fun _ k => XS.goto X86.here hx rfl (pc0 := 81) (pc' := 52) rfl (hb hby d3_81) (by decide) (by decide) k) ?_
  show own_Go p e s below _ _ _ T86 (mkF m 52 #[.val (.ref a), .val (.int (1 : Int32))] [])
  refine own_st (fun _ k => XS.iloadN X86.here hx rfl (hb hby d3_52) rfl k) ?_
  show own_Go p e s below _ _ _ T86 (mkF m 53 #[.val (.ref a), .val (.int (1 : Int32))] [(.int (1 : Int32))])
  refine own_st (fun _ k => XS.aloadN X86.here hx rfl (hb hby d3_53) rfl rfl k) ?_
  show own_Go p e s below _ _ _ T86 (mkF m 54 #[.val (.ref a), .val (.int (1 : Int32))] [(.ref a), (.int (1 : Int32))])
  obtain ⟨T89, X89, e89, st89⟩ := getF X86 hx hZ hown (host := "") (Or.inl (hw _ (List.mem_of_getElem? (i := 12) rfl))) Via.refl e86 F_partOf_a (g := (mkF m 54 #[.val (.ref a), .val (.int (1 : Int32))] [(.ref a), (.int (1 : Int32))])) rfl rfl (hb hby d3_54)
  refine own_st st89 ?_
  show own_Go p e s below _ _ _ T89 (mkF m 57 #[.val (.ref a), .val (.int (1 : Int32))] [(.ref u0), (.int (1 : Int32))])
  refine own_st (own_len X89 hx hZ e89 V_u0 (g := (mkF m 57 #[.val (.ref a), .val (.int (1 : Int32))] [(.ref u0), (.int (1 : Int32))])) rfl rfl (hb hby d3_57)) ?_
  show own_Go p e s below _ _ _ T89 (mkF m 58 #[.val (.ref a), .val (.int (1 : Int32))] [(.int (3 : Int32)), (.int (1 : Int32))])
  refine own_st (fun _ k => XS.icmpNo X89.here hx rfl (hb hby d3_58) rfl (by decide) k) ?_
  show own_Go p e s below _ _ _ T89 (mkF m 61 #[.val (.ref a), .val (.int (1 : Int32))] [])
  refine own_st (fun _ k => XS.aloadN X89.here hx rfl (hb hby d3_61) rfl rfl k) ?_
  show own_Go p e s below _ _ _ T89 (mkF m 62 #[.val (.ref a), .val (.int (1 : Int32))] [(.ref a)])
  obtain ⟨T90, X90, e90, st90⟩ := getF X89 hx hZ hown (host := "") (Or.inl (hw _ (List.mem_of_getElem? (i := 23) rfl))) Via.refl e89 F_classOf_a (g := (mkF m 62 #[.val (.ref a), .val (.int (1 : Int32))] [(.ref a)])) rfl rfl (hb hby d3_62)
  refine own_st st90 ?_
  show own_Go p e s below _ _ _ T90 (mkF m 65 #[.val (.ref a), .val (.int (1 : Int32))] [(.ref u2)])
  refine own_st (fun _ k => XS.iloadN X90.here hx rfl (hb hby d3_65) rfl k) ?_
  show own_Go p e s below _ _ _ T90 (mkF m 66 #[.val (.ref a), .val (.int (1 : Int32))] [(.int (1 : Int32)), (.ref u2)])
  refine own_st (fun _ k => XS.aloadN X90.here hx rfl (hb hby d3_66) rfl rfl k) ?_
  show own_Go p e s below _ _ _ T90 (mkF m 67 #[.val (.ref a), .val (.int (1 : Int32))] [(.ref a), (.int (1 : Int32)), (.ref u2)])
  obtain ⟨T91, X91, e91, st91⟩ := getF X90 hx hZ hown (host := "") (Or.inl (hw _ (List.mem_of_getElem? (i := 14) rfl))) Via.refl e90 F_classOfPart_a (g := (mkF m 67 #[.val (.ref a), .val (.int (1 : Int32))] [(.ref a), (.int (1 : Int32)), (.ref u2)])) rfl rfl (hb hby d3_67)
  refine own_st st91 ?_
  show own_Go p e s below _ _ _ T91 (mkF m 70 #[.val (.ref a), .val (.int (1 : Int32))] [(.ref u1), (.int (1 : Int32)), (.ref u2)])
  refine own_st (fun _ k => XS.aloadN X91.here hx rfl (hb hby d3_70) rfl rfl k) ?_
  show own_Go p e s below _ _ _ T91 (mkF m 71 #[.val (.ref a), .val (.int (1 : Int32))] [(.ref a), (.ref u1), (.int (1 : Int32)), (.ref u2)])
  obtain ⟨T92, X92, e92, st92⟩ := getF X91 hx hZ hown (host := "") (Or.inl (hw _ (List.mem_of_getElem? (i := 12) rfl))) Via.refl e91 F_partOf_a (g := (mkF m 71 #[.val (.ref a), .val (.int (1 : Int32))] [(.ref a), (.ref u1), (.int (1 : Int32)), (.ref u2)])) rfl rfl (hb hby d3_71)
  refine own_st st92 ?_
  show own_Go p e s below _ _ _ T92 (mkF m 74 #[.val (.ref a), .val (.int (1 : Int32))] [(.ref u0), (.ref u1), (.int (1 : Int32)), (.ref u2)])
  refine own_st (fun _ k => XS.iloadN X92.here hx rfl (hb hby d3_74) rfl k) ?_
  show own_Go p e s below _ _ _ T92 (mkF m 75 #[.val (.ref a), .val (.int (1 : Int32))] [(.int (1 : Int32)), (.ref u0), (.ref u1), (.int (1 : Int32)), (.ref u2)])
  refine own_st (own_ldI X92 hx hZ e92 V_u0 (j := (1 : Int32)) (x := q1) ⟨by decide, by decide⟩ rfl (g := (mkF m 75 #[.val (.ref a), .val (.int (1 : Int32))] [(.int (1 : Int32)), (.ref u0), (.ref u1), (.int (1 : Int32)), (.ref u2)])) rfl rfl (hb hby d3_75)) ?_
  show own_Go p e s below _ _ _ T92 (mkF m 76 #[.val (.ref a), .val (.int (1 : Int32))] [(.int q1), (.ref u1), (.int (1 : Int32)), (.ref u2)])
  refine own_st (own_ldI X92 hx hZ e92 V_u1 (j := q1) (x := (own_pick q1 c0 c1 c2)) (own_pk (c0 := 0) (c1 := 0) (c2 := 0) hq1).1 (own_pk hq1).2 (g := (mkF m 76 #[.val (.ref a), .val (.int (1 : Int32))] [(.int q1), (.ref u1), (.int (1 : Int32)), (.ref u2)])) rfl rfl (hb hby d3_76)) ?_
  show own_Go p e s below _ _ _ T92 (mkF m 77 #[.val (.ref a), .val (.int (1 : Int32))] [(.int (own_pick q1 c0 c1 c2)), (.int (1 : Int32)), (.ref u2)])
  obtain ⟨T93, h93, X93, e93, W93, V93, st93⟩ := own_stI X92 hx hZ e92 V_u2 (j := (1 : Int32)) ⟨by decide, by decide⟩ (Nat.le_of_ble_eq_true rfl) (g := (mkF m 77 #[.val (.ref a), .val (.int (1 : Int32))] [(.int (own_pick q1 c0 c1 c2)), (.int (1 : Int32)), (.ref u2)])) rfl rfl (hb hby d3_77)
  clear V_u2
  have V_u2 : Arv Z h93 u2 k2 .int (3 : Int32) [(.int (own_pick q0 c0 c1 c2)), (.int (own_pick q1 c0 c1 c2)), (.int t2)] (.int (0 : Int32)) := V93
  replace E_a := E_a.wr W93
  replace F_partOf_a := F_partOf_a.other W93 (Or.inl ne_a_u2)
  replace F_classOfPart_a := F_classOfPart_a.other W93 (Or.inl ne_a_u2)
  replace F_target_a := F_target_a.other W93 (Or.inl ne_a_u2)
  replace V_u0 := V_u0.other W93 ne_u0_u2
  replace V_u1 := V_u1.other W93 ne_u1_u2
  replace F_classOf_a := F_classOf_a.other W93 (Or.inl ne_a_u2)
  have Z94 := Nat.le_trans Z87 (Keep.of_wr W93).1
  have K95 := K88.wr W93 (Or.inl (List.mem_of_getElem? (i := 1) rfl))
  have N93 := Fr.snoc X93 N86 g_u2
  refine own_st st93 ?_
  show own_Go p e s below _ _ _ T93 (mkF m 78 #[.val (.ref a), .val (.int (1 : Int32))] [])
  refine own_st (fun _ k => XS.iinc X93.here hx rfl (hb hby d3_78) rfl (l' := #[.val (.ref a), .val (.int (2 : Int32))]) rfl k) ?_
  show own_Go p e s below _ _ _ T93 (mkF m 81 #[.val (.ref a), .val (.int (2 : Int32))] [])
  refine own_st (fun _ k => XS.goto X93.here hx rfl (pc0 := 81) (pc' := 52) rfl (hb hby d3_81) (by decide) (by decide) k) ?_
  show own_Go p e s below _ _ _ T93 (mkF m 52 #[.val (.ref a), .val (.int (2 : Int32))] [])
  refine own_st (fun _ k => XS.iloadN X93.here hx rfl (hb hby d3_52) rfl k) ?_
  show own_Go p e s below _ _ _ T93 (mkF m 53 #[.val (.ref a), .val (.int (2 : Int32))] [(.int (2 : Int32))])
  refine own_st (fun _ k => XS.aloadN X93.here hx rfl (hb hby d3_53) rfl rfl k) ?_
  show own_Go p e s below _ _ _ T93 (mkF m 54 #[.val (.ref a), .val (.int (2 : Int32))] [(.ref a), (.int (2 : Int32))])
  obtain ⟨T96, X96, e96, st96⟩ := getF X93 hx hZ hown (host := "") (Or.inl (hw _ (List.mem_of_getElem? (i := 12) rfl))) Via.refl e93 F_partOf_a (g := (mkF m 54 #[.val (.ref a), .val (.int (2 : Int32))] [(.ref a), (.int (2 : Int32))])) rfl rfl (hb hby d3_54)
  refine own_st st96 ?_
  show own_Go p e s below _ _ _ T96 (mkF m 57 #[.val (.ref a), .val (.int (2 : Int32))] [(.ref u0), (.int (2 : Int32))])
  refine own_st (own_len X96 hx hZ e96 V_u0 (g := (mkF m 57 #[.val (.ref a), .val (.int (2 : Int32))] [(.ref u0), (.int (2 : Int32))])) rfl rfl (hb hby d3_57)) ?_
  show own_Go p e s below _ _ _ T96 (mkF m 58 #[.val (.ref a), .val (.int (2 : Int32))] [(.int (3 : Int32)), (.int (2 : Int32))])
  refine own_st (fun _ k => XS.icmpNo X96.here hx rfl (hb hby d3_58) rfl (by decide) k) ?_
  show own_Go p e s below _ _ _ T96 (mkF m 61 #[.val (.ref a), .val (.int (2 : Int32))] [])
  refine own_st (fun _ k => XS.aloadN X96.here hx rfl (hb hby d3_61) rfl rfl k) ?_
  show own_Go p e s below _ _ _ T96 (mkF m 62 #[.val (.ref a), .val (.int (2 : Int32))] [(.ref a)])
  obtain ⟨T97, X97, e97, st97⟩ := getF X96 hx hZ hown (host := "") (Or.inl (hw _ (List.mem_of_getElem? (i := 23) rfl))) Via.refl e96 F_classOf_a (g := (mkF m 62 #[.val (.ref a), .val (.int (2 : Int32))] [(.ref a)])) rfl rfl (hb hby d3_62)
  refine own_st st97 ?_
  show own_Go p e s below _ _ _ T97 (mkF m 65 #[.val (.ref a), .val (.int (2 : Int32))] [(.ref u2)])
  refine own_st (fun _ k => XS.iloadN X97.here hx rfl (hb hby d3_65) rfl k) ?_
  show own_Go p e s below _ _ _ T97 (mkF m 66 #[.val (.ref a), .val (.int (2 : Int32))] [(.int (2 : Int32)), (.ref u2)])
  refine own_st (fun _ k => XS.aloadN X97.here hx rfl (hb hby d3_66) rfl rfl k) ?_
  show own_Go p e s below _ _ _ T97 (mkF m 67 #[.val (.ref a), .val (.int (2 : Int32))] [(.ref a), (.int (2 : Int32)), (.ref u2)])
  obtain ⟨T98, X98, e98, st98⟩ := getF X97 hx hZ hown (host := "") (Or.inl (hw _ (List.mem_of_getElem? (i := 14) rfl))) Via.refl e97 F_classOfPart_a (g := (mkF m 67 #[.val (.ref a), .val (.int (2 : Int32))] [(.ref a), (.int (2 : Int32)), (.ref u2)])) rfl rfl (hb hby d3_67)
  refine own_st st98 ?_
  show own_Go p e s below _ _ _ T98 (mkF m 70 #[.val (.ref a), .val (.int (2 : Int32))] [(.ref u1), (.int (2 : Int32)), (.ref u2)])
  refine own_st (fun _ k => XS.aloadN X98.here hx rfl (hb hby d3_70) rfl rfl k) ?_
  show own_Go p e s below _ _ _ T98 (mkF m 71 #[.val (.ref a), .val (.int (2 : Int32))] [(.ref a), (.ref u1), (.int (2 : Int32)), (.ref u2)])
  obtain ⟨T99, X99, e99, st99⟩ := getF X98 hx hZ hown (host := "") (Or.inl (hw _ (List.mem_of_getElem? (i := 12) rfl))) Via.refl e98 F_partOf_a (g := (mkF m 71 #[.val (.ref a), .val (.int (2 : Int32))] [(.ref a), (.ref u1), (.int (2 : Int32)), (.ref u2)])) rfl rfl (hb hby d3_71)
  refine own_st st99 ?_
  show own_Go p e s below _ _ _ T99 (mkF m 74 #[.val (.ref a), .val (.int (2 : Int32))] [(.ref u0), (.ref u1), (.int (2 : Int32)), (.ref u2)])
  refine own_st (fun _ k => XS.iloadN X99.here hx rfl (hb hby d3_74) rfl k) ?_
  show own_Go p e s below _ _ _ T99 (mkF m 75 #[.val (.ref a), .val (.int (2 : Int32))] [(.int (2 : Int32)), (.ref u0), (.ref u1), (.int (2 : Int32)), (.ref u2)])
  refine own_st (own_ldI X99 hx hZ e99 V_u0 (j := (2 : Int32)) (x := q2) ⟨by decide, by decide⟩ rfl (g := (mkF m 75 #[.val (.ref a), .val (.int (2 : Int32))] [(.int (2 : Int32)), (.ref u0), (.ref u1), (.int (2 : Int32)), (.ref u2)])) rfl rfl (hb hby d3_75)) ?_
  show own_Go p e s below _ _ _ T99 (mkF m 76 #[.val (.ref a), .val (.int (2 : Int32))] [(.int q2), (.ref u1), (.int (2 : Int32)), (.ref u2)])
  refine own_st (own_ldI X99 hx hZ e99 V_u1 (j := q2) (x := (own_pick q2 c0 c1 c2)) (own_pk (c0 := 0) (c1 := 0) (c2 := 0) hq2).1 (own_pk hq2).2 (g := (mkF m 76 #[.val (.ref a), .val (.int (2 : Int32))] [(.int q2), (.ref u1), (.int (2 : Int32)), (.ref u2)])) rfl rfl (hb hby d3_76)) ?_
  show own_Go p e s below _ _ _ T99 (mkF m 77 #[.val (.ref a), .val (.int (2 : Int32))] [(.int (own_pick q2 c0 c1 c2)), (.int (2 : Int32)), (.ref u2)])
  obtain ⟨T100, h100, X100, e100, W100, V100, st100⟩ := own_stI X99 hx hZ e99 V_u2 (j := (2 : Int32)) ⟨by decide, by decide⟩ (Nat.le_of_ble_eq_true rfl) (g := (mkF m 77 #[.val (.ref a), .val (.int (2 : Int32))] [(.int (own_pick q2 c0 c1 c2)), (.int (2 : Int32)), (.ref u2)])) rfl rfl (hb hby d3_77)
  clear V_u2
  have V_u2 : Arv Z h100 u2 k2 .int (3 : Int32) [(.int (own_pick q0 c0 c1 c2)), (.int (own_pick q1 c0 c1 c2)), (.int (own_pick q2 c0 c1 c2))] (.int (0 : Int32)) := V100
  replace E_a := E_a.wr W100
  replace F_partOf_a := F_partOf_a.other W100 (Or.inl ne_a_u2)
  replace F_classOfPart_a := F_classOfPart_a.other W100 (Or.inl ne_a_u2)
  replace F_target_a := F_target_a.other W100 (Or.inl ne_a_u2)
  replace V_u0 := V_u0.other W100 ne_u0_u2
  replace V_u1 := V_u1.other W100 ne_u1_u2
  replace F_classOf_a := F_classOf_a.other W100 (Or.inl ne_a_u2)
  have Z101 := Nat.le_trans Z94 (Keep.of_wr W100).1
  have K102 := K95.wr W100 (Or.inl (List.mem_of_getElem? (i := 1) rfl))
  have N100 := Fr.snoc X100 N93 g_u2
  refine own_st st100 ?_
  show own_Go p e s below _ _ _ T100 (mkF m 78 #[.val (.ref a), .val (.int (2 : Int32))] [])
  refine own_st (fun _ k => XS.iinc X100.here hx rfl (hb hby d3_78) rfl (l' := #[.val (.ref a), .val (.int (3 : Int32))]) rfl k) ?_
  show own_Go p e s below _ _ _ T100 (mkF m 81 #[.val (.ref a), .val (.int (3 : Int32))] [])
  refine own_st (fun _ k => XS.goto X100.here hx rfl (pc0 := 81) (pc' := 52) rfl (hb hby d3_81) (by decide) (by decide) k) ?_
  show own_Go p e s below _ _ _ T100 (mkF m 52 #[.val (.ref a), .val (.int (3 : Int32))] [])
  refine own_st (fun _ k => XS.iloadN X100.here hx rfl (hb hby d3_52) rfl k) ?_
  show own_Go p e s below _ _ _ T100 (mkF m 53 #[.val (.ref a), .val (.int (3 : Int32))] [(.int (3 : Int32))])
  refine own_st (fun _ k => XS.aloadN X100.here hx rfl (hb hby d3_53) rfl rfl k) ?_
  show own_Go p e s below _ _ _ T100 (mkF m 54 #[.val (.ref a), .val (.int (3 : Int32))] [(.ref a), (.int (3 : Int32))])
  obtain ⟨T103, X103, e103, st103⟩ := getF X100 hx hZ hown (host := "") (Or.inl (hw _ (List.mem_of_getElem? (i := 12) rfl))) Via.refl e100 F_partOf_a (g := (mkF m 54 #[.val (.ref a), .val (.int (3 : Int32))] [(.ref a), (.int (3 : Int32))])) rfl rfl (hb hby d3_54)
  refine own_st st103 ?_
  show own_Go p e s below _ _ _ T103 (mkF m 57 #[.val (.ref a), .val (.int (3 : Int32))] [(.ref u0), (.int (3 : Int32))])
  refine own_st (own_len X103 hx hZ e103 V_u0 (g := (mkF m 57 #[.val (.ref a), .val (.int (3 : Int32))] [(.ref u0), (.int (3 : Int32))])) rfl rfl (hb hby d3_57)) ?_
  show own_Go p e s below _ _ _ T103 (mkF m 58 #[.val (.ref a), .val (.int (3 : Int32))] [(.int (3 : Int32)), (.int (3 : Int32))])
  refine own_st (fun _ k => XS.icmpYes X103.here hx rfl (pc0 := 58) (pc' := 84) rfl (hb hby d3_58) rfl (by decide) (by decide) (by decide) k) ?_
  show own_Go p e s below _ _ _ T103 (mkF m 84 #[.val (.ref a), .val (.int (3 : Int32))] [])
  refine own_st (fun _ k => XS.aloadN X103.here hx rfl (hb hby d3_84) rfl rfl k) ?_
  show own_Go p e s below _ _ _ T103 (mkF m 85 #[.val (.ref a), .val (.int (3 : Int32))] [(.ref a)])
  obtain ⟨T104, X104, e104, st104⟩ := getF X103 hx hZ hown (host := "") (Or.inl (hw _ (List.mem_of_getElem? (i := 23) rfl))) Via.refl e103 F_classOf_a (g := (mkF m 85 #[.val (.ref a), .val (.int (3 : Int32))] [(.ref a)])) rfl rfl (hb hby d3_85)
  refine own_st st104 ?_
  show own_Go p e s below _ _ _ T104 (mkF m 88 #[.val (.ref a), .val (.int (3 : Int32))] [(.ref u2)])
  exact own_retR X104 hx hlk hret rfl rfl rfl (hb hby d3_88) (by decide) (by decide) (by rw [e104]; exact ⟨rfl, N100, K102, E_a, F_classOf_a, V_u2⟩)
theorem ef_rm3_3 (m : MethodId) (z0 : Addr) : entryFrame m #[(.ref z0)] 2 = mkF m 0 #[.val (.ref z0), .unset] [] := by first | (simp [entryFrame, mkF, argsToLocals, Value.category]; done) | rfl
set_option maxRecDepth 65536 in
set_option maxHeartbeats 40000000 in
theorem rm3_3 (l : Launch) (Z : State) (a0 : Array Value) (hw : ∀ d ∈ tables_1, d.before a0 Z = true) (ws : List Jvm.Cond) (a u0 u1 : Addr) (k0 k1 : ClassId) (q0 q1 q2 c0 c1 c2 : Int32) (h0 : Heap) (n0 : Nat) (Z0 : n0 ≤ h0.size) (E_a : (Exa Z h0 a "com/example/hush5/hush5/search/TupleClasses")) (F_partOf_a : (Fld Z h0 a "com/example/hush5/hush5/search/TupleClasses" "partOf" "[I" (.ref u0))) (F_classOfPart_a : (Fld Z h0 a "com/example/hush5/hush5/search/TupleClasses" "classOfPart" "[I" (.ref u1))) (F_target_a : (Fld Z h0 a "com/example/hush5/hush5/search/TupleClasses" "target" "[I" (.ref u0))) (F_classOf_a : (Fld Z h0 a "com/example/hush5/hush5/search/TupleClasses" "classOf" "[I" .null)) (g_a : n0 ≤ a) (V_u0 : Arv Z h0 u0 k0 .int (3 : Int32) [(.int q0), (.int q1), (.int q2)] (.int (0 : Int32))) (V_u1 : Arv Z h0 u1 k1 .int (3 : Int32) [(.int c0), (.int c1), (.int c2)] (.int (0 : Int32))) (g_u0 : n0 ≤ u0) (ne_a_u0 : a ≠ u0) (ne_u0_a : u0 ≠ a) (ne_a_u1 : a ≠ u1) (ne_u1_a : u1 ≠ a) (ne_u1_u0 : u1 ≠ u0) (ne_u0_u1 : u0 ≠ u1) (hq0 : q0 = 0 ∨ q0 = 1 ∨ q0 = 2) (hq1 : q1 = 0 ∨ q1 = 1 ∨ q1 = 2) (hq2 : q2 = 0 ∨ q2 = 1 ∨ q2 = 2) :
    own_Met l Z (⟨"com/example/hush5/hush5/search/TupleClasses", "classOf", "()[I"⟩ : MethodName) prog_69_method_3_code 2 (some (.array .int)) ({ frames := 0, cells := 0, slots := 0, locals := 0 } : Room) ws #[(.ref a)] h0 (fun v h L => v = some (.ref u0) ∧ Fr n0 L ∧ Keep h0 h [a, u0] ∧ (Exa Z h a "com/example/hush5/hush5/search/TupleClasses") ∧ (Fld Z h a "com/example/hush5/hush5/search/TupleClasses" "classOf" "[I" (.ref u0)) ∧ (Arv Z h u0 k0 .int (3 : Int32) [(.int (own_pick q0 c0 c1 c2)), (.int (own_pick q1 c0 c1 c2)), (.int (own_pick q2 c0 c1 c2))] (.int (0 : Int32)))) 0 0 := by
  refine own_enter pf3 (fun m => ef_rm3_3 m a) ?_
  intro p e s m below meth c T0 hx hby hml hown hnm hret hlk hZ X0 e0
  have N0 := Fr.nil n0
  show own_Go p e s below _ _ _ T0 (mkF m 0 #[.val (.ref a), .unset] [])
  have K_0 := Keep.refl h0 [a, u0]
  refine own_st (fun _ k => XS.aloadN X0.here hx rfl (hb hby d3_0) rfl rfl k) ?_
  show own_Go p e s below _ _ _ T0 (mkF m 1 #[.val (.ref a), .unset] [(.ref a)])
  obtain ⟨T105, X105, e105, st105⟩ := getF X0 hx hZ hown (host := "") (Or.inl (hw _ (List.mem_of_getElem? (i := 23) rfl))) Via.refl e0 F_classOf_a (g := (mkF m 1 #[.val (.ref a), .unset] [(.ref a)])) rfl rfl (hb hby d3_1)
  refine own_st st105 ?_
  show own_Go p e s below _ _ _ T105 (mkF m 4 #[.val (.ref a), .unset] [.null])
  refine own_st (fun _ k => XS.ifnonnullNo X105.here hx rfl (hb hby d3_4) rfl k) ?_
  show own_Go p e s below _ _ _ T105 (mkF m 7 #[.val (.ref a), .unset] [])
  refine own_st (fun _ k => XS.aloadN X105.here hx rfl (hb hby d3_7) rfl rfl k) ?_
  show own_Go p e s below _ _ _ T105 (mkF m 8 #[.val (.ref a), .unset] [(.ref a)])
  obtain ⟨T106, X106, e106, st106⟩ := getF X105 hx hZ hown (host := "") (Or.inl (hw _ (List.mem_of_getElem? (i := 14) rfl))) Via.refl e105 F_classOfPart_a (g := (mkF m 8 #[.val (.ref a), .unset] [(.ref a)])) rfl rfl (hb hby d3_8)
  refine own_st st106 ?_
  show own_Go p e s below _ _ _ T106 (mkF m 11 #[.val (.ref a), .unset] [(.ref u1)])
  refine own_st (fun _ k => XS.ifnonnullYes X106.here hx rfl (pc0 := 11) (pc' := 25) rfl (hb hby d3_11) rfl (by decide) (by decide) k) ?_
  show own_Go p e s below _ _ _ T106 (mkF m 25 #[.val (.ref a), .unset] [])
  refine own_st (fun _ k => XS.aloadN X106.here hx rfl (hb hby d3_25) rfl rfl k) ?_
  show own_Go p e s below _ _ _ T106 (mkF m 26 #[.val (.ref a), .unset] [(.ref a)])
  refine own_st (fun _ k => XS.aloadN X106.here hx rfl (hb hby d3_26) rfl rfl k) ?_
  show own_Go p e s below _ _ _ T106 (mkF m 27 #[.val (.ref a), .unset] [(.ref a), (.ref a)])
  obtain ⟨T107, X107, e107, st107⟩ := getF X106 hx hZ hown (host := "") (Or.inl (hw _ (List.mem_of_getElem? (i := 16) rfl))) Via.refl e106 F_target_a (g := (mkF m 27 #[.val (.ref a), .unset] [(.ref a), (.ref a)])) rfl rfl (hb hby d3_27)
  refine own_st st107 ?_
  show own_Go p e s below _ _ _ T107 (mkF m 30 #[.val (.ref a), .unset] [(.ref u0), (.ref a)])
  refine own_st (fun _ k => XS.ifnonnullYes X107.here hx rfl (pc0 := 30) (pc' := 43) rfl (hb hby d3_30) rfl (by decide) (by decide) k) ?_
  show own_Go p e s below _ _ _ T107 (mkF m 43 #[.val (.ref a), .unset] [(.ref a)])
  refine own_st (fun _ k => XS.aloadN X107.here hx rfl (hb hby d3_43) rfl rfl k) ?_
  show own_Go p e s below _ _ _ T107 (mkF m 44 #[.val (.ref a), .unset] [(.ref a), (.ref a)])
  obtain ⟨T108, X108, e108, st108⟩ := getF X107 hx hZ hown (host := "") (Or.inl (hw _ (List.mem_of_getElem? (i := 16) rfl))) Via.refl e107 F_target_a (g := (mkF m 44 #[.val (.ref a), .unset] [(.ref a), (.ref a)])) rfl rfl (hb hby d3_44)
  refine own_st st108 ?_
  show own_Go p e s below _ _ _ T108 (mkF m 47 #[.val (.ref a), .unset] [(.ref u0), (.ref a)])
  obtain ⟨T109, h109, X109, e109, W109, st109⟩ := putF X108 hx hZ hown (host := "") (Or.inl (hw _ (List.mem_of_getElem? (i := 23) rfl))) Via.refl e108 F_classOf_a E_a (Or.inl (hw _ (List.mem_of_getElem? (i := 24) rfl))) (hw _ (List.mem_of_getElem? (i := 4) rfl)) (ty := (.array .int)) (by decide) rfl rfl (g := (mkF m 47 #[.val (.ref a), .unset] [(.ref u0), (.ref a)])) rfl rfl (hb hby d3_47)
  refine own_st st109 ?_
  replace F_classOf_a := F_classOf_a.same W109
  replace E_a := E_a.wr W109
  replace F_partOf_a := F_partOf_a.other W109 (Or.inr (slot_ne (Or.inr (hw _ (List.mem_of_getElem? (i := 13) rfl))) (Or.inl (hw _ (List.mem_of_getElem? (i := 24) rfl))) (by decide) (t := (.array .int)) (t' := (.array .int)) (by decide) (by decide)))
  replace F_classOfPart_a := F_classOfPart_a.other W109 (Or.inr (slot_ne (Or.inr (hw _ (List.mem_of_getElem? (i := 15) rfl))) (Or.inl (hw _ (List.mem_of_getElem? (i := 24) rfl))) (by decide) (t := (.array .int)) (t' := (.array .int)) (by decide) (by decide)))
  replace F_target_a := F_target_a.other W109 (Or.inr (slot_ne (Or.inr (hw _ (List.mem_of_getElem? (i := 17) rfl))) (Or.inl (hw _ (List.mem_of_getElem? (i := 24) rfl))) (by decide) (t := (.array .int)) (t' := (.array .int)) (by decide) (by decide)))
  replace V_u0 := V_u0.other W109 ne_u0_a
  replace V_u1 := V_u1.other W109 ne_u1_a
  have Z110 := Nat.le_trans Z0 (Keep.of_wr W109).1
  have K111 := K_0.wr W109 (Or.inl (List.mem_of_getElem? (i := 0) rfl))
  have N109 := Fr.snoc X109 N0 g_a
  show own_Go p e s below _ _ _ T109 (mkF m 50 #[.val (.ref a), .unset] [])
  refine own_st (fun _ k => XS.iconst X109.here hx rfl (hb hby d3_50) k) ?_
  show own_Go p e s below _ _ _ T109 (mkF m 51 #[.val (.ref a), .unset] [(.int (0 : Int32))])
  refine own_st (fun _ k => XS.istoreN X109.here hx rfl (hb hby d3_51) rfl (l' := #[.val (.ref a), .val (.int (0 : Int32))]) rfl k) ?_
  show own_Go p e s below _ _ _ T109 (mkF m 52 #[.val (.ref a), .val (.int (0 : Int32))] [])
  refine own_st (fun _ k => XS.iloadN X109.here hx rfl (hb hby d3_52) rfl k) ?_
  show own_Go p e s below _ _ _ T109 (mkF m 53 #[.val (.ref a), .val (.int (0 : Int32))] [(.int (0 : Int32))])
  refine own_st (fun _ k => XS.aloadN X109.here hx rfl (hb hby d3_53) rfl rfl k) ?_
  show own_Go p e s below _ _ _ T109 (mkF m 54 #[.val (.ref a), .val (.int (0 : Int32))] [(.ref a), (.int (0 : Int32))])
  obtain ⟨T112, X112, e112, st112⟩ := getF X109 hx hZ hown (host := "") (Or.inl (hw _ (List.mem_of_getElem? (i := 12) rfl))) Via.refl e109 F_partOf_a (g := (mkF m 54 #[.val (.ref a), .val (.int (0 : Int32))] [(.ref a), (.int (0 : Int32))])) rfl rfl (hb hby d3_54)
  refine own_st st112 ?_
  show own_Go p e s below _ _ _ T112 (mkF m 57 #[.val (.ref a), .val (.int (0 : Int32))] [(.ref u0), (.int (0 : Int32))])
  refine own_st (own_len X112 hx hZ e112 V_u0 (g := (mkF m 57 #[.val (.ref a), .val (.int (0 : Int32))] [(.ref u0), (.int (0 : Int32))])) rfl rfl (hb hby d3_57)) ?_
  show own_Go p e s below _ _ _ T112 (mkF m 58 #[.val (.ref a), .val (.int (0 : Int32))] [(.int (3 : Int32)), (.int (0 : Int32))])
  refine own_st (fun _ k => XS.icmpNo X112.here hx rfl (hb hby d3_58) rfl (by decide) k) ?_
  show own_Go p e s below _ _ _ T112 (mkF m 61 #[.val (.ref a), .val (.int (0 : Int32))] [])
  refine own_st (fun _ k => XS.aloadN X112.here hx rfl (hb hby d3_61) rfl rfl k) ?_
  show own_Go p e s below _ _ _ T112 (mkF m 62 #[.val (.ref a), .val (.int (0 : Int32))] [(.ref a)])
  obtain ⟨T113, X113, e113, st113⟩ := getF X112 hx hZ hown (host := "") (Or.inl (hw _ (List.mem_of_getElem? (i := 23) rfl))) Via.refl e112 F_classOf_a (g := (mkF m 62 #[.val (.ref a), .val (.int (0 : Int32))] [(.ref a)])) rfl rfl (hb hby d3_62)
  refine own_st st113 ?_
  show own_Go p e s below _ _ _ T113 (mkF m 65 #[.val (.ref a), .val (.int (0 : Int32))] [(.ref u0)])
  refine own_st (fun _ k => XS.iloadN X113.here hx rfl (hb hby d3_65) rfl k) ?_
  show own_Go p e s below _ _ _ T113 (mkF m 66 #[.val (.ref a), .val (.int (0 : Int32))] [(.int (0 : Int32)), (.ref u0)])
  refine own_st (fun _ k => XS.aloadN X113.here hx rfl (hb hby d3_66) rfl rfl k) ?_
  show own_Go p e s below _ _ _ T113 (mkF m 67 #[.val (.ref a), .val (.int (0 : Int32))] [(.ref a), (.int (0 : Int32)), (.ref u0)])
  obtain ⟨T114, X114, e114, st114⟩ := getF X113 hx hZ hown (host := "") (Or.inl (hw _ (List.mem_of_getElem? (i := 14) rfl))) Via.refl e113 F_classOfPart_a (g := (mkF m 67 #[.val (.ref a), .val (.int (0 : Int32))] [(.ref a), (.int (0 : Int32)), (.ref u0)])) rfl rfl (hb hby d3_67)
  refine own_st st114 ?_
  show own_Go p e s below _ _ _ T114 (mkF m 70 #[.val (.ref a), .val (.int (0 : Int32))] [(.ref u1), (.int (0 : Int32)), (.ref u0)])
  refine own_st (fun _ k => XS.aloadN X114.here hx rfl (hb hby d3_70) rfl rfl k) ?_
  show own_Go p e s below _ _ _ T114 (mkF m 71 #[.val (.ref a), .val (.int (0 : Int32))] [(.ref a), (.ref u1), (.int (0 : Int32)), (.ref u0)])
  obtain ⟨T115, X115, e115, st115⟩ := getF X114 hx hZ hown (host := "") (Or.inl (hw _ (List.mem_of_getElem? (i := 12) rfl))) Via.refl e114 F_partOf_a (g := (mkF m 71 #[.val (.ref a), .val (.int (0 : Int32))] [(.ref a), (.ref u1), (.int (0 : Int32)), (.ref u0)])) rfl rfl (hb hby d3_71)
  refine own_st st115 ?_
  show own_Go p e s below _ _ _ T115 (mkF m 74 #[.val (.ref a), .val (.int (0 : Int32))] [(.ref u0), (.ref u1), (.int (0 : Int32)), (.ref u0)])
  refine own_st (fun _ k => XS.iloadN X115.here hx rfl (hb hby d3_74) rfl k) ?_
  show own_Go p e s below _ _ _ T115 (mkF m 75 #[.val (.ref a), .val (.int (0 : Int32))] [(.int (0 : Int32)), (.ref u0), (.ref u1), (.int (0 : Int32)), (.ref u0)])
  refine own_st (own_ldI X115 hx hZ e115 V_u0 (j := (0 : Int32)) (x := q0) ⟨by decide, by decide⟩ rfl (g := (mkF m 75 #[.val (.ref a), .val (.int (0 : Int32))] [(.int (0 : Int32)), (.ref u0), (.ref u1), (.int (0 : Int32)), (.ref u0)])) rfl rfl (hb hby d3_75)) ?_
  show own_Go p e s below _ _ _ T115 (mkF m 76 #[.val (.ref a), .val (.int (0 : Int32))] [(.int q0), (.ref u1), (.int (0 : Int32)), (.ref u0)])
  refine own_st (own_ldI X115 hx hZ e115 V_u1 (j := q0) (x := (own_pick q0 c0 c1 c2)) (own_pk (c0 := 0) (c1 := 0) (c2 := 0) hq0).1 (own_pk hq0).2 (g := (mkF m 76 #[.val (.ref a), .val (.int (0 : Int32))] [(.int q0), (.ref u1), (.int (0 : Int32)), (.ref u0)])) rfl rfl (hb hby d3_76)) ?_
  show own_Go p e s below _ _ _ T115 (mkF m 77 #[.val (.ref a), .val (.int (0 : Int32))] [(.int (own_pick q0 c0 c1 c2)), (.int (0 : Int32)), (.ref u0)])
  obtain ⟨T116, h116, X116, e116, W116, V116, st116⟩ := own_stI X115 hx hZ e115 V_u0 (j := (0 : Int32)) ⟨by decide, by decide⟩ (Nat.le_of_ble_eq_true rfl) (g := (mkF m 77 #[.val (.ref a), .val (.int (0 : Int32))] [(.int (own_pick q0 c0 c1 c2)), (.int (0 : Int32)), (.ref u0)])) rfl rfl (hb hby d3_77)
  clear V_u0
  have V_u0 : Arv Z h116 u0 k0 .int (3 : Int32) [(.int (own_pick q0 c0 c1 c2)), (.int q1), (.int q2)] (.int (0 : Int32)) := V116
  replace E_a := E_a.wr W116
  replace F_partOf_a := F_partOf_a.other W116 (Or.inl ne_a_u0)
  replace F_classOfPart_a := F_classOfPart_a.other W116 (Or.inl ne_a_u0)
  replace F_target_a := F_target_a.other W116 (Or.inl ne_a_u0)
  replace V_u1 := V_u1.other W116 ne_u1_u0
  replace F_classOf_a := F_classOf_a.other W116 (Or.inl ne_a_u0)
  have Z117 := Nat.le_trans Z110 (Keep.of_wr W116).1
  have K118 := K111.wr W116 (Or.inl (List.mem_of_getElem? (i := 1) rfl))
  have N116 := Fr.snoc X116 N109 g_u0
  refine own_st st116 ?_
  show own_Go p e s below _ _ _ T116 (mkF m 78 #[.val (.ref a), .val (.int (0 : Int32))] [])
  refine own_st (fun _ k => XS.iinc X116.here hx rfl (hb hby d3_78) rfl (l' := #[.val (.ref a), .val (.int (1 : Int32))]) rfl k) ?_
  show own_Go p e s below _ _ _ T116 (mkF m 81 #[.val (.ref a), .val (.int (1 : Int32))] [])
  refine own_st (fun _ k => XS.goto X116.here hx rfl (pc0 := 81) (pc' := 52) rfl (hb hby d3_81) (by decide) (by decide) k) ?_
  show own_Go p e s below _ _ _ T116 (mkF m 52 #[.val (.ref a), .val (.int (1 : Int32))] [])
  refine own_st (fun _ k => XS.iloadN X116.here hx rfl (hb hby d3_52) rfl k) ?_
  show own_Go p e s below _ _ _ T116 (mkF m 53 #[.val (.ref a), .val (.int (1 : Int32))] [(.int (1 : Int32))])
  refine own_st (fun _ k => XS.aloadN X116.here hx rfl (hb hby d3_53) rfl rfl k) ?_
  show own_Go p e s below _ _ _ T116 (mkF m 54 #[.val (.ref a), .val (.int (1 : Int32))] [(.ref a), (.int (1 : Int32))])
  obtain ⟨T119, X119, e119, st119⟩ := getF X116 hx hZ hown (host := "") (Or.inl (hw _ (List.mem_of_getElem? (i := 12) rfl))) Via.refl e116 F_partOf_a (g := (mkF m 54 #[.val (.ref a), .val (.int (1 : Int32))] [(.ref a), (.int (1 : Int32))])) rfl rfl (hb hby d3_54)
  refine own_st st119 ?_
  show own_Go p e s below _ _ _ T119 (mkF m 57 #[.val (.ref a), .val (.int (1 : Int32))] [(.ref u0), (.int (1 : Int32))])
  refine own_st (own_len X119 hx hZ e119 V_u0 (g := (mkF m 57 #[.val (.ref a), .val (.int (1 : Int32))] [(.ref u0), (.int (1 : Int32))])) rfl rfl (hb hby d3_57)) ?_
  show own_Go p e s below _ _ _ T119 (mkF m 58 #[.val (.ref a), .val (.int (1 : Int32))] [(.int (3 : Int32)), (.int (1 : Int32))])
  refine own_st (fun _ k => XS.icmpNo X119.here hx rfl (hb hby d3_58) rfl (by decide) k) ?_
  show own_Go p e s below _ _ _ T119 (mkF m 61 #[.val (.ref a), .val (.int (1 : Int32))] [])
  refine own_st (fun _ k => XS.aloadN X119.here hx rfl (hb hby d3_61) rfl rfl k) ?_
  show own_Go p e s below _ _ _ T119 (mkF m 62 #[.val (.ref a), .val (.int (1 : Int32))] [(.ref a)])
  obtain ⟨T120, X120, e120, st120⟩ := getF X119 hx hZ hown (host := "") (Or.inl (hw _ (List.mem_of_getElem? (i := 23) rfl))) Via.refl e119 F_classOf_a (g := (mkF m 62 #[.val (.ref a), .val (.int (1 : Int32))] [(.ref a)])) rfl rfl (hb hby d3_62)
  refine own_st st120 ?_
  show own_Go p e s below _ _ _ T120 (mkF m 65 #[.val (.ref a), .val (.int (1 : Int32))] [(.ref u0)])
  refine own_st (fun _ k => XS.iloadN X120.here hx rfl (hb hby d3_65) rfl k) ?_
  show own_Go p e s below _ _ _ T120 (mkF m 66 #[.val (.ref a), .val (.int (1 : Int32))] [(.int (1 : Int32)), (.ref u0)])
  refine own_st (fun _ k => XS.aloadN X120.here hx rfl (hb hby d3_66) rfl rfl k) ?_
  show own_Go p e s below _ _ _ T120 (mkF m 67 #[.val (.ref a), .val (.int (1 : Int32))] [(.ref a), (.int (1 : Int32)), (.ref u0)])
  obtain ⟨T121, X121, e121, st121⟩ := getF X120 hx hZ hown (host := "") (Or.inl (hw _ (List.mem_of_getElem? (i := 14) rfl))) Via.refl e120 F_classOfPart_a (g := (mkF m 67 #[.val (.ref a), .val (.int (1 : Int32))] [(.ref a), (.int (1 : Int32)), (.ref u0)])) rfl rfl (hb hby d3_67)
  refine own_st st121 ?_
  show own_Go p e s below _ _ _ T121 (mkF m 70 #[.val (.ref a), .val (.int (1 : Int32))] [(.ref u1), (.int (1 : Int32)), (.ref u0)])
  refine own_st (fun _ k => XS.aloadN X121.here hx rfl (hb hby d3_70) rfl rfl k) ?_
  show own_Go p e s below _ _ _ T121 (mkF m 71 #[.val (.ref a), .val (.int (1 : Int32))] [(.ref a), (.ref u1), (.int (1 : Int32)), (.ref u0)])
  obtain ⟨T122, X122, e122, st122⟩ := getF X121 hx hZ hown (host := "") (Or.inl (hw _ (List.mem_of_getElem? (i := 12) rfl))) Via.refl e121 F_partOf_a (g := (mkF m 71 #[.val (.ref a), .val (.int (1 : Int32))] [(.ref a), (.ref u1), (.int (1 : Int32)), (.ref u0)])) rfl rfl (hb hby d3_71)
  refine own_st st122 ?_
  show own_Go p e s below _ _ _ T122 (mkF m 74 #[.val (.ref a), .val (.int (1 : Int32))] [(.ref u0), (.ref u1), (.int (1 : Int32)), (.ref u0)])
  refine own_st (fun _ k => XS.iloadN X122.here hx rfl (hb hby d3_74) rfl k) ?_
  show own_Go p e s below _ _ _ T122 (mkF m 75 #[.val (.ref a), .val (.int (1 : Int32))] [(.int (1 : Int32)), (.ref u0), (.ref u1), (.int (1 : Int32)), (.ref u0)])
  refine own_st (own_ldI X122 hx hZ e122 V_u0 (j := (1 : Int32)) (x := q1) ⟨by decide, by decide⟩ rfl (g := (mkF m 75 #[.val (.ref a), .val (.int (1 : Int32))] [(.int (1 : Int32)), (.ref u0), (.ref u1), (.int (1 : Int32)), (.ref u0)])) rfl rfl (hb hby d3_75)) ?_
  show own_Go p e s below _ _ _ T122 (mkF m 76 #[.val (.ref a), .val (.int (1 : Int32))] [(.int q1), (.ref u1), (.int (1 : Int32)), (.ref u0)])
  refine own_st (own_ldI X122 hx hZ e122 V_u1 (j := q1) (x := (own_pick q1 c0 c1 c2)) (own_pk (c0 := 0) (c1 := 0) (c2 := 0) hq1).1 (own_pk hq1).2 (g := (mkF m 76 #[.val (.ref a), .val (.int (1 : Int32))] [(.int q1), (.ref u1), (.int (1 : Int32)), (.ref u0)])) rfl rfl (hb hby d3_76)) ?_
  show own_Go p e s below _ _ _ T122 (mkF m 77 #[.val (.ref a), .val (.int (1 : Int32))] [(.int (own_pick q1 c0 c1 c2)), (.int (1 : Int32)), (.ref u0)])
  obtain ⟨T123, h123, X123, e123, W123, V123, st123⟩ := own_stI X122 hx hZ e122 V_u0 (j := (1 : Int32)) ⟨by decide, by decide⟩ (Nat.le_of_ble_eq_true rfl) (g := (mkF m 77 #[.val (.ref a), .val (.int (1 : Int32))] [(.int (own_pick q1 c0 c1 c2)), (.int (1 : Int32)), (.ref u0)])) rfl rfl (hb hby d3_77)
  clear V_u0
  have V_u0 : Arv Z h123 u0 k0 .int (3 : Int32) [(.int (own_pick q0 c0 c1 c2)), (.int (own_pick q1 c0 c1 c2)), (.int q2)] (.int (0 : Int32)) := V123
  replace E_a := E_a.wr W123
  replace F_partOf_a := F_partOf_a.other W123 (Or.inl ne_a_u0)
  replace F_classOfPart_a := F_classOfPart_a.other W123 (Or.inl ne_a_u0)
  replace F_target_a := F_target_a.other W123 (Or.inl ne_a_u0)
  replace V_u1 := V_u1.other W123 ne_u1_u0
  replace F_classOf_a := F_classOf_a.other W123 (Or.inl ne_a_u0)
  have Z124 := Nat.le_trans Z117 (Keep.of_wr W123).1
  have K125 := K118.wr W123 (Or.inl (List.mem_of_getElem? (i := 1) rfl))
  have N123 := Fr.snoc X123 N116 g_u0
  refine own_st st123 ?_
  show own_Go p e s below _ _ _ T123 (mkF m 78 #[.val (.ref a), .val (.int (1 : Int32))] [])
  refine own_st (fun _ k => XS.iinc X123.here hx rfl (hb hby d3_78) rfl (l' := #[.val (.ref a), .val (.int (2 : Int32))]) rfl k) ?_
  show own_Go p e s below _ _ _ T123 (mkF m 81 #[.val (.ref a), .val (.int (2 : Int32))] [])
  refine own_st (fun _ k => XS.goto X123.here hx rfl (pc0 := 81) (pc' := 52) rfl (hb hby d3_81) (by decide) (by decide) k) ?_
  show own_Go p e s below _ _ _ T123 (mkF m 52 #[.val (.ref a), .val (.int (2 : Int32))] [])
  refine own_st (fun _ k => XS.iloadN X123.here hx rfl (hb hby d3_52) rfl k) ?_
  show own_Go p e s below _ _ _ T123 (mkF m 53 #[.val (.ref a), .val (.int (2 : Int32))] [(.int (2 : Int32))])
  refine own_st (fun _ k => XS.aloadN X123.here hx rfl (hb hby d3_53) rfl rfl k) ?_
  show own_Go p e s below _ _ _ T123 (mkF m 54 #[.val (.ref a), .val (.int (2 : Int32))] [(.ref a), (.int (2 : Int32))])
  obtain ⟨T126, X126, e126, st126⟩ := getF X123 hx hZ hown (host := "") (Or.inl (hw _ (List.mem_of_getElem? (i := 12) rfl))) Via.refl e123 F_partOf_a (g := (mkF m 54 #[.val (.ref a), .val (.int (2 : Int32))] [(.ref a), (.int (2 : Int32))])) rfl rfl (hb hby d3_54)
  refine own_st st126 ?_
  show own_Go p e s below _ _ _ T126 (mkF m 57 #[.val (.ref a), .val (.int (2 : Int32))] [(.ref u0), (.int (2 : Int32))])
  refine own_st (own_len X126 hx hZ e126 V_u0 (g := (mkF m 57 #[.val (.ref a), .val (.int (2 : Int32))] [(.ref u0), (.int (2 : Int32))])) rfl rfl (hb hby d3_57)) ?_
  show own_Go p e s below _ _ _ T126 (mkF m 58 #[.val (.ref a), .val (.int (2 : Int32))] [(.int (3 : Int32)), (.int (2 : Int32))])
  refine own_st (fun _ k => XS.icmpNo X126.here hx rfl (hb hby d3_58) rfl (by decide) k) ?_
  show own_Go p e s below _ _ _ T126 (mkF m 61 #[.val (.ref a), .val (.int (2 : Int32))] [])
  refine own_st (fun _ k => XS.aloadN X126.here hx rfl (hb hby d3_61) rfl rfl k) ?_
  show own_Go p e s below _ _ _ T126 (mkF m 62 #[.val (.ref a), .val (.int (2 : Int32))] [(.ref a)])
  obtain ⟨T127, X127, e127, st127⟩ := getF X126 hx hZ hown (host := "") (Or.inl (hw _ (List.mem_of_getElem? (i := 23) rfl))) Via.refl e126 F_classOf_a (g := (mkF m 62 #[.val (.ref a), .val (.int (2 : Int32))] [(.ref a)])) rfl rfl (hb hby d3_62)
  refine own_st st127 ?_
  show own_Go p e s below _ _ _ T127 (mkF m 65 #[.val (.ref a), .val (.int (2 : Int32))] [(.ref u0)])
  refine own_st (fun _ k => XS.iloadN X127.here hx rfl (hb hby d3_65) rfl k) ?_
  show own_Go p e s below _ _ _ T127 (mkF m 66 #[.val (.ref a), .val (.int (2 : Int32))] [(.int (2 : Int32)), (.ref u0)])
  refine own_st (fun _ k => XS.aloadN X127.here hx rfl (hb hby d3_66) rfl rfl k) ?_
  show own_Go p e s below _ _ _ T127 (mkF m 67 #[.val (.ref a), .val (.int (2 : Int32))] [(.ref a), (.int (2 : Int32)), (.ref u0)])
  obtain ⟨T128, X128, e128, st128⟩ := getF X127 hx hZ hown (host := "") (Or.inl (hw _ (List.mem_of_getElem? (i := 14) rfl))) Via.refl e127 F_classOfPart_a (g := (mkF m 67 #[.val (.ref a), .val (.int (2 : Int32))] [(.ref a), (.int (2 : Int32)), (.ref u0)])) rfl rfl (hb hby d3_67)
  refine own_st st128 ?_
  show own_Go p e s below _ _ _ T128 (mkF m 70 #[.val (.ref a), .val (.int (2 : Int32))] [(.ref u1), (.int (2 : Int32)), (.ref u0)])
  refine own_st (fun _ k => XS.aloadN X128.here hx rfl (hb hby d3_70) rfl rfl k) ?_
  show own_Go p e s below _ _ _ T128 (mkF m 71 #[.val (.ref a), .val (.int (2 : Int32))] [(.ref a), (.ref u1), (.int (2 : Int32)), (.ref u0)])
  obtain ⟨T129, X129, e129, st129⟩ := getF X128 hx hZ hown (host := "") (Or.inl (hw _ (List.mem_of_getElem? (i := 12) rfl))) Via.refl e128 F_partOf_a (g := (mkF m 71 #[.val (.ref a), .val (.int (2 : Int32))] [(.ref a), (.ref u1), (.int (2 : Int32)), (.ref u0)])) rfl rfl (hb hby d3_71)
  refine own_st st129 ?_
  show own_Go p e s below _ _ _ T129 (mkF m 74 #[.val (.ref a), .val (.int (2 : Int32))] [(.ref u0), (.ref u1), (.int (2 : Int32)), (.ref u0)])
  refine own_st (fun _ k => XS.iloadN X129.here hx rfl (hb hby d3_74) rfl k) ?_
  show own_Go p e s below _ _ _ T129 (mkF m 75 #[.val (.ref a), .val (.int (2 : Int32))] [(.int (2 : Int32)), (.ref u0), (.ref u1), (.int (2 : Int32)), (.ref u0)])
  refine own_st (own_ldI X129 hx hZ e129 V_u0 (j := (2 : Int32)) (x := q2) ⟨by decide, by decide⟩ rfl (g := (mkF m 75 #[.val (.ref a), .val (.int (2 : Int32))] [(.int (2 : Int32)), (.ref u0), (.ref u1), (.int (2 : Int32)), (.ref u0)])) rfl rfl (hb hby d3_75)) ?_
  show own_Go p e s below _ _ _ T129 (mkF m 76 #[.val (.ref a), .val (.int (2 : Int32))] [(.int q2), (.ref u1), (.int (2 : Int32)), (.ref u0)])
  refine own_st (own_ldI X129 hx hZ e129 V_u1 (j := q2) (x := (own_pick q2 c0 c1 c2)) (own_pk (c0 := 0) (c1 := 0) (c2 := 0) hq2).1 (own_pk hq2).2 (g := (mkF m 76 #[.val (.ref a), .val (.int (2 : Int32))] [(.int q2), (.ref u1), (.int (2 : Int32)), (.ref u0)])) rfl rfl (hb hby d3_76)) ?_
  show own_Go p e s below _ _ _ T129 (mkF m 77 #[.val (.ref a), .val (.int (2 : Int32))] [(.int (own_pick q2 c0 c1 c2)), (.int (2 : Int32)), (.ref u0)])
  obtain ⟨T130, h130, X130, e130, W130, V130, st130⟩ := own_stI X129 hx hZ e129 V_u0 (j := (2 : Int32)) ⟨by decide, by decide⟩ (Nat.le_of_ble_eq_true rfl) (g := (mkF m 77 #[.val (.ref a), .val (.int (2 : Int32))] [(.int (own_pick q2 c0 c1 c2)), (.int (2 : Int32)), (.ref u0)])) rfl rfl (hb hby d3_77)
  clear V_u0
  have V_u0 : Arv Z h130 u0 k0 .int (3 : Int32) [(.int (own_pick q0 c0 c1 c2)), (.int (own_pick q1 c0 c1 c2)), (.int (own_pick q2 c0 c1 c2))] (.int (0 : Int32)) := V130
  replace E_a := E_a.wr W130
  replace F_partOf_a := F_partOf_a.other W130 (Or.inl ne_a_u0)
  replace F_classOfPart_a := F_classOfPart_a.other W130 (Or.inl ne_a_u0)
  replace F_target_a := F_target_a.other W130 (Or.inl ne_a_u0)
  replace V_u1 := V_u1.other W130 ne_u1_u0
  replace F_classOf_a := F_classOf_a.other W130 (Or.inl ne_a_u0)
  have Z131 := Nat.le_trans Z124 (Keep.of_wr W130).1
  have K132 := K125.wr W130 (Or.inl (List.mem_of_getElem? (i := 1) rfl))
  have N130 := Fr.snoc X130 N123 g_u0
  refine own_st st130 ?_
  show own_Go p e s below _ _ _ T130 (mkF m 78 #[.val (.ref a), .val (.int (2 : Int32))] [])
  refine own_st (fun _ k => XS.iinc X130.here hx rfl (hb hby d3_78) rfl (l' := #[.val (.ref a), .val (.int (3 : Int32))]) rfl k) ?_
  show own_Go p e s below _ _ _ T130 (mkF m 81 #[.val (.ref a), .val (.int (3 : Int32))] [])
  refine own_st (fun _ k => XS.goto X130.here hx rfl (pc0 := 81) (pc' := 52) rfl (hb hby d3_81) (by decide) (by decide) k) ?_
  show own_Go p e s below _ _ _ T130 (mkF m 52 #[.val (.ref a), .val (.int (3 : Int32))] [])
  refine own_st (fun _ k => XS.iloadN X130.here hx rfl (hb hby d3_52) rfl k) ?_
  show own_Go p e s below _ _ _ T130 (mkF m 53 #[.val (.ref a), .val (.int (3 : Int32))] [(.int (3 : Int32))])
  refine own_st (fun _ k => XS.aloadN X130.here hx rfl (hb hby d3_53) rfl rfl k) ?_
  show own_Go p e s below _ _ _ T130 (mkF m 54 #[.val (.ref a), .val (.int (3 : Int32))] [(.ref a), (.int (3 : Int32))])
  obtain ⟨T133, X133, e133, st133⟩ := getF X130 hx hZ hown (host := "") (Or.inl (hw _ (List.mem_of_getElem? (i := 12) rfl))) Via.refl e130 F_partOf_a (g := (mkF m 54 #[.val (.ref a), .val (.int (3 : Int32))] [(.ref a), (.int (3 : Int32))])) rfl rfl (hb hby d3_54)
  refine own_st st133 ?_
  show own_Go p e s below _ _ _ T133 (mkF m 57 #[.val (.ref a), .val (.int (3 : Int32))] [(.ref u0), (.int (3 : Int32))])
  refine own_st (own_len X133 hx hZ e133 V_u0 (g := (mkF m 57 #[.val (.ref a), .val (.int (3 : Int32))] [(.ref u0), (.int (3 : Int32))])) rfl rfl (hb hby d3_57)) ?_
  show own_Go p e s below _ _ _ T133 (mkF m 58 #[.val (.ref a), .val (.int (3 : Int32))] [(.int (3 : Int32)), (.int (3 : Int32))])
  refine own_st (fun _ k => XS.icmpYes X133.here hx rfl (pc0 := 58) (pc' := 84) rfl (hb hby d3_58) rfl (by decide) (by decide) (by decide) k) ?_
  show own_Go p e s below _ _ _ T133 (mkF m 84 #[.val (.ref a), .val (.int (3 : Int32))] [])
  refine own_st (fun _ k => XS.aloadN X133.here hx rfl (hb hby d3_84) rfl rfl k) ?_
  show own_Go p e s below _ _ _ T133 (mkF m 85 #[.val (.ref a), .val (.int (3 : Int32))] [(.ref a)])
  obtain ⟨T134, X134, e134, st134⟩ := getF X133 hx hZ hown (host := "") (Or.inl (hw _ (List.mem_of_getElem? (i := 23) rfl))) Via.refl e133 F_classOf_a (g := (mkF m 85 #[.val (.ref a), .val (.int (3 : Int32))] [(.ref a)])) rfl rfl (hb hby d3_85)
  refine own_st st134 ?_
  show own_Go p e s below _ _ _ T134 (mkF m 88 #[.val (.ref a), .val (.int (3 : Int32))] [(.ref u0)])
  exact own_retR X134 hx hlk hret rfl rfl rfl (hb hby d3_88) (by decide) (by decide) (by rw [e134]; exact ⟨rfl, N130, K132, E_a, F_classOf_a, V_u0⟩)
theorem ef_rm0 (m : MethodId) (z0 : Int64) (z1 : Int32) (z2 : Int32) (z3 : Int32) (z4 : Int32) : entryFrame m #[(.long z0), (.int z1), (.int z2), (.int z3), (.int z4)] maxLocals = mkF m 0 #[.val (.long z0), .second, .val (.int z1), .val (.int z2), .val (.int z3), .val (.int z4), .unset, .unset, .unset, .unset, .unset, .unset, .unset, .unset, .unset, .unset, .unset] [] := by first | (simp [entryFrame, mkF, argsToLocals, Value.category, maxLocals]; done) | rfl
set_option maxRecDepth 65536 in
set_option maxHeartbeats 40000000 in
theorem rm0 (l : Launch) (Z : State) (a0 : Array Value) (hw : ∀ d ∈ tables_1, d.before a0 Z = true) (ws : List Jvm.Cond) (q0 : Int64) (p1 p2 p3 p4 : Int32) (h0 : Heap) (n0 : Nat) (Z0 : n0 ≤ h0.size)  :
    own_Met l Z x code maxLocals ret room_1 ws #[(.long q0), (.int p1), (.int p2), (.int p3), (.int p4)] h0 (fun v h L => v = some (.int 1) ∧ Fr n0 L) 24 128 := by
  refine own_enter pf0 (fun m => ef_rm0 m q0 p1 p2 p3 p4) ?_
  intro p e s m below meth c T0 hx hby hml hown hnm hret hlk hZ X0 e0
  have N0 := Fr.nil n0
  show own_Go p e s below _ _ _ T0 (mkF m 0 #[.val (.long q0), .second, .val (.int p1), .val (.int p2), .val (.int p3), .val (.int p4), .unset, .unset, .unset, .unset, .unset, .unset, .unset, .unset, .unset, .unset, .unset] [])
  refine own_st (fun _ k => XS.lloadN X0.here hx rfl (hb hby at_0) rfl k) ?_
  show own_Go p e s below _ _ _ T0 (mkF m 1 #[.val (.long q0), .second, .val (.int p1), .val (.int p2), .val (.int p3), .val (.int p4), .unset, .unset, .unset, .unset, .unset, .unset, .unset, .unset, .unset, .unset, .unset] [(.long q0)])
  refine own_st (X0.ldc2Long hx hown (mvT hZ (hw _ (List.mem_of_getElem? (i := 0) rfl))) (g := (mkF m 1 #[.val (.long q0), .second, .val (.int p1), .val (.int p2), .val (.int p3), .val (.int p4), .unset, .unset, .unset, .unset, .unset, .unset, .unset, .unset, .unset, .unset, .unset] [(.long q0)])) rfl (hb hby at_1)) ?_
  show own_Go p e s below _ _ _ T0 (mkF m 4 #[.val (.long q0), .second, .val (.int p1), .val (.int p2), .val (.int p3), .val (.int p4), .unset, .unset, .unset, .unset, .unset, .unset, .unset, .unset, .unset, .unset, .unset] [(.long (255 : Int64)), (.long q0)])
  refine own_st (fun _ k => XS.land X0.here hx rfl (hb hby at_4) rfl k) ?_
  show own_Go p e s below _ _ _ T0 (mkF m 5 #[.val (.long q0), .second, .val (.int p1), .val (.int p2), .val (.int p3), .val (.int p4), .unset, .unset, .unset, .unset, .unset, .unset, .unset, .unset, .unset, .unset, .unset] [(.long (q0 &&& (255 : Int64)))])
  refine own_st (fun _ k => XS.l2i X0.here hx rfl (hb hby at_5) rfl k) ?_
  show own_Go p e s below _ _ _ T0 (mkF m 6 #[.val (.long q0), .second, .val (.int p1), .val (.int p2), .val (.int p3), .val (.int p4), .unset, .unset, .unset, .unset, .unset, .unset, .unset, .unset, .unset, .unset, .unset] [(.int ((q0 &&& (255 : Int64)).toInt32))])
  refine own_st (fun _ k => XS.iconst X0.here hx rfl (hb hby at_6) k) ?_
  show own_Go p e s below _ _ _ T0 (mkF m 7 #[.val (.long q0), .second, .val (.int p1), .val (.int p2), .val (.int p3), .val (.int p4), .unset, .unset, .unset, .unset, .unset, .unset, .unset, .unset, .unset, .unset, .unset] [(.int (3 : Int32)), (.int ((q0 &&& (255 : Int64)).toInt32))])
  refine own_st (fun _ k => Jvm.RoadKit.iremM X0 hx rfl (hb hby at_7) rfl (by decide) k) ?_
  show own_Go p e s below _ _ _ T0 (mkF m 8 #[.val (.long q0), .second, .val (.int p1), .val (.int p2), .val (.int p3), .val (.int p4), .unset, .unset, .unset, .unset, .unset, .unset, .unset, .unset, .unset, .unset, .unset] [(.int (((q0 &&& (255 : Int64)).toInt32) % (3 : Int32)))])
  have hq0 := own_q q0
  generalize (((q0 &&& (255 : Int64)).toInt32) % (3 : Int32)) = qq0 at hq0 ⊢
  show own_Go p e s below _ _ _ T0 (mkF m 8 #[.val (.long q0), .second, .val (.int p1), .val (.int p2), .val (.int p3), .val (.int p4), .unset, .unset, .unset, .unset, .unset, .unset, .unset, .unset, .unset, .unset, .unset] [(.int qq0)])
  refine own_st (fun _ k => XS.istore X0.here hx rfl (hb hby at_8) rfl (l' := #[.val (.long q0), .second, .val (.int p1), .val (.int p2), .val (.int p3), .val (.int p4), .val (.int qq0), .unset, .unset, .unset, .unset, .unset, .unset, .unset, .unset, .unset, .unset]) rfl k) ?_
  show own_Go p e s below _ _ _ T0 (mkF m 10 #[.val (.long q0), .second, .val (.int p1), .val (.int p2), .val (.int p3), .val (.int p4), .val (.int qq0), .unset, .unset, .unset, .unset, .unset, .unset, .unset, .unset, .unset, .unset] [])
  refine own_st (fun _ k => XS.lloadN X0.here hx rfl (hb hby at_10) rfl k) ?_
  show own_Go p e s below _ _ _ T0 (mkF m 11 #[.val (.long q0), .second, .val (.int p1), .val (.int p2), .val (.int p3), .val (.int p4), .val (.int qq0), .unset, .unset, .unset, .unset, .unset, .unset, .unset, .unset, .unset, .unset] [(.long q0)])
  refine own_st (fun _ k => XS.bipush X0.here hx rfl (hb hby at_11) k) ?_
  show own_Go p e s below _ _ _ T0 (mkF m 13 #[.val (.long q0), .second, .val (.int p1), .val (.int p2), .val (.int p3), .val (.int p4), .val (.int qq0), .unset, .unset, .unset, .unset, .unset, .unset, .unset, .unset, .unset, .unset] [(.int (8 : Int32)), (.long q0)])
  refine own_st (fun _ k => XS.lushr X0.here hx rfl (hb hby at_13) rfl k) ?_
  show own_Go p e s below _ _ _ T0 (mkF m 14 #[.val (.long q0), .second, .val (.int p1), .val (.int p2), .val (.int p3), .val (.int p4), .val (.int qq0), .unset, .unset, .unset, .unset, .unset, .unset, .unset, .unset, .unset, .unset] [(.long ((q0.toUInt64 >>> ((8 : Int32) &&& 0x3f).toInt64.toUInt64).toInt64))])
  refine own_st (X0.ldc2Long hx hown (mvT hZ (hw _ (List.mem_of_getElem? (i := 0) rfl))) (g := (mkF m 14 #[.val (.long q0), .second, .val (.int p1), .val (.int p2), .val (.int p3), .val (.int p4), .val (.int qq0), .unset, .unset, .unset, .unset, .unset, .unset, .unset, .unset, .unset, .unset] [(.long ((q0.toUInt64 >>> ((8 : Int32) &&& 0x3f).toInt64.toUInt64).toInt64))])) rfl (hb hby at_14)) ?_
  show own_Go p e s below _ _ _ T0 (mkF m 17 #[.val (.long q0), .second, .val (.int p1), .val (.int p2), .val (.int p3), .val (.int p4), .val (.int qq0), .unset, .unset, .unset, .unset, .unset, .unset, .unset, .unset, .unset, .unset] [(.long (255 : Int64)), (.long ((q0.toUInt64 >>> ((8 : Int32) &&& 0x3f).toInt64.toUInt64).toInt64))])
  refine own_st (fun _ k => XS.land X0.here hx rfl (hb hby at_17) rfl k) ?_
  show own_Go p e s below _ _ _ T0 (mkF m 18 #[.val (.long q0), .second, .val (.int p1), .val (.int p2), .val (.int p3), .val (.int p4), .val (.int qq0), .unset, .unset, .unset, .unset, .unset, .unset, .unset, .unset, .unset, .unset] [(.long (((q0.toUInt64 >>> ((8 : Int32) &&& 0x3f).toInt64.toUInt64).toInt64) &&& (255 : Int64)))])
  refine own_st (fun _ k => XS.l2i X0.here hx rfl (hb hby at_18) rfl k) ?_
  show own_Go p e s below _ _ _ T0 (mkF m 19 #[.val (.long q0), .second, .val (.int p1), .val (.int p2), .val (.int p3), .val (.int p4), .val (.int qq0), .unset, .unset, .unset, .unset, .unset, .unset, .unset, .unset, .unset, .unset] [(.int ((((q0.toUInt64 >>> ((8 : Int32) &&& 0x3f).toInt64.toUInt64).toInt64) &&& (255 : Int64)).toInt32))])
  refine own_st (fun _ k => XS.iconst X0.here hx rfl (hb hby at_19) k) ?_
  show own_Go p e s below _ _ _ T0 (mkF m 20 #[.val (.long q0), .second, .val (.int p1), .val (.int p2), .val (.int p3), .val (.int p4), .val (.int qq0), .unset, .unset, .unset, .unset, .unset, .unset, .unset, .unset, .unset, .unset] [(.int (3 : Int32)), (.int ((((q0.toUInt64 >>> ((8 : Int32) &&& 0x3f).toInt64.toUInt64).toInt64) &&& (255 : Int64)).toInt32))])
  refine own_st (fun _ k => Jvm.RoadKit.iremM X0 hx rfl (hb hby at_20) rfl (by decide) k) ?_
  show own_Go p e s below _ _ _ T0 (mkF m 21 #[.val (.long q0), .second, .val (.int p1), .val (.int p2), .val (.int p3), .val (.int p4), .val (.int qq0), .unset, .unset, .unset, .unset, .unset, .unset, .unset, .unset, .unset, .unset] [(.int (((((q0.toUInt64 >>> ((8 : Int32) &&& 0x3f).toInt64.toUInt64).toInt64) &&& (255 : Int64)).toInt32) % (3 : Int32)))])
  have hq1 := own_q ((q0.toUInt64 >>> ((8 : Int32) &&& 0x3f).toInt64.toUInt64).toInt64)
  generalize (((((q0.toUInt64 >>> ((8 : Int32) &&& 0x3f).toInt64.toUInt64).toInt64) &&& (255 : Int64)).toInt32) % (3 : Int32)) = qq1 at hq1 ⊢
  show own_Go p e s below _ _ _ T0 (mkF m 21 #[.val (.long q0), .second, .val (.int p1), .val (.int p2), .val (.int p3), .val (.int p4), .val (.int qq0), .unset, .unset, .unset, .unset, .unset, .unset, .unset, .unset, .unset, .unset] [(.int qq1)])
  refine own_st (fun _ k => XS.istore X0.here hx rfl (hb hby at_21) rfl (l' := #[.val (.long q0), .second, .val (.int p1), .val (.int p2), .val (.int p3), .val (.int p4), .val (.int qq0), .val (.int qq1), .unset, .unset, .unset, .unset, .unset, .unset, .unset, .unset, .unset]) rfl k) ?_
  show own_Go p e s below _ _ _ T0 (mkF m 23 #[.val (.long q0), .second, .val (.int p1), .val (.int p2), .val (.int p3), .val (.int p4), .val (.int qq0), .val (.int qq1), .unset, .unset, .unset, .unset, .unset, .unset, .unset, .unset, .unset] [])
  refine own_st (fun _ k => XS.lloadN X0.here hx rfl (hb hby at_23) rfl k) ?_
  show own_Go p e s below _ _ _ T0 (mkF m 24 #[.val (.long q0), .second, .val (.int p1), .val (.int p2), .val (.int p3), .val (.int p4), .val (.int qq0), .val (.int qq1), .unset, .unset, .unset, .unset, .unset, .unset, .unset, .unset, .unset] [(.long q0)])
  refine own_st (fun _ k => XS.bipush X0.here hx rfl (hb hby at_24) k) ?_
  show own_Go p e s below _ _ _ T0 (mkF m 26 #[.val (.long q0), .second, .val (.int p1), .val (.int p2), .val (.int p3), .val (.int p4), .val (.int qq0), .val (.int qq1), .unset, .unset, .unset, .unset, .unset, .unset, .unset, .unset, .unset] [(.int (16 : Int32)), (.long q0)])
  refine own_st (fun _ k => XS.lushr X0.here hx rfl (hb hby at_26) rfl k) ?_
  show own_Go p e s below _ _ _ T0 (mkF m 27 #[.val (.long q0), .second, .val (.int p1), .val (.int p2), .val (.int p3), .val (.int p4), .val (.int qq0), .val (.int qq1), .unset, .unset, .unset, .unset, .unset, .unset, .unset, .unset, .unset] [(.long ((q0.toUInt64 >>> ((16 : Int32) &&& 0x3f).toInt64.toUInt64).toInt64))])
  refine own_st (X0.ldc2Long hx hown (mvT hZ (hw _ (List.mem_of_getElem? (i := 0) rfl))) (g := (mkF m 27 #[.val (.long q0), .second, .val (.int p1), .val (.int p2), .val (.int p3), .val (.int p4), .val (.int qq0), .val (.int qq1), .unset, .unset, .unset, .unset, .unset, .unset, .unset, .unset, .unset] [(.long ((q0.toUInt64 >>> ((16 : Int32) &&& 0x3f).toInt64.toUInt64).toInt64))])) rfl (hb hby at_27)) ?_
  show own_Go p e s below _ _ _ T0 (mkF m 30 #[.val (.long q0), .second, .val (.int p1), .val (.int p2), .val (.int p3), .val (.int p4), .val (.int qq0), .val (.int qq1), .unset, .unset, .unset, .unset, .unset, .unset, .unset, .unset, .unset] [(.long (255 : Int64)), (.long ((q0.toUInt64 >>> ((16 : Int32) &&& 0x3f).toInt64.toUInt64).toInt64))])
  refine own_st (fun _ k => XS.land X0.here hx rfl (hb hby at_30) rfl k) ?_
  show own_Go p e s below _ _ _ T0 (mkF m 31 #[.val (.long q0), .second, .val (.int p1), .val (.int p2), .val (.int p3), .val (.int p4), .val (.int qq0), .val (.int qq1), .unset, .unset, .unset, .unset, .unset, .unset, .unset, .unset, .unset] [(.long (((q0.toUInt64 >>> ((16 : Int32) &&& 0x3f).toInt64.toUInt64).toInt64) &&& (255 : Int64)))])
  refine own_st (fun _ k => XS.l2i X0.here hx rfl (hb hby at_31) rfl k) ?_
  show own_Go p e s below _ _ _ T0 (mkF m 32 #[.val (.long q0), .second, .val (.int p1), .val (.int p2), .val (.int p3), .val (.int p4), .val (.int qq0), .val (.int qq1), .unset, .unset, .unset, .unset, .unset, .unset, .unset, .unset, .unset] [(.int ((((q0.toUInt64 >>> ((16 : Int32) &&& 0x3f).toInt64.toUInt64).toInt64) &&& (255 : Int64)).toInt32))])
  refine own_st (fun _ k => XS.iconst X0.here hx rfl (hb hby at_32) k) ?_
  show own_Go p e s below _ _ _ T0 (mkF m 33 #[.val (.long q0), .second, .val (.int p1), .val (.int p2), .val (.int p3), .val (.int p4), .val (.int qq0), .val (.int qq1), .unset, .unset, .unset, .unset, .unset, .unset, .unset, .unset, .unset] [(.int (3 : Int32)), (.int ((((q0.toUInt64 >>> ((16 : Int32) &&& 0x3f).toInt64.toUInt64).toInt64) &&& (255 : Int64)).toInt32))])
  refine own_st (fun _ k => Jvm.RoadKit.iremM X0 hx rfl (hb hby at_33) rfl (by decide) k) ?_
  show own_Go p e s below _ _ _ T0 (mkF m 34 #[.val (.long q0), .second, .val (.int p1), .val (.int p2), .val (.int p3), .val (.int p4), .val (.int qq0), .val (.int qq1), .unset, .unset, .unset, .unset, .unset, .unset, .unset, .unset, .unset] [(.int (((((q0.toUInt64 >>> ((16 : Int32) &&& 0x3f).toInt64.toUInt64).toInt64) &&& (255 : Int64)).toInt32) % (3 : Int32)))])
  have hq2 := own_q ((q0.toUInt64 >>> ((16 : Int32) &&& 0x3f).toInt64.toUInt64).toInt64)
  generalize (((((q0.toUInt64 >>> ((16 : Int32) &&& 0x3f).toInt64.toUInt64).toInt64) &&& (255 : Int64)).toInt32) % (3 : Int32)) = qq2 at hq2 ⊢
  show own_Go p e s below _ _ _ T0 (mkF m 34 #[.val (.long q0), .second, .val (.int p1), .val (.int p2), .val (.int p3), .val (.int p4), .val (.int qq0), .val (.int qq1), .unset, .unset, .unset, .unset, .unset, .unset, .unset, .unset, .unset] [(.int qq2)])
  refine own_st (fun _ k => XS.istore X0.here hx rfl (hb hby at_34) rfl (l' := #[.val (.long q0), .second, .val (.int p1), .val (.int p2), .val (.int p3), .val (.int p4), .val (.int qq0), .val (.int qq1), .val (.int qq2), .unset, .unset, .unset, .unset, .unset, .unset, .unset, .unset]) rfl k) ?_
  show own_Go p e s below _ _ _ T0 (mkF m 36 #[.val (.long q0), .second, .val (.int p1), .val (.int p2), .val (.int p3), .val (.int p4), .val (.int qq0), .val (.int qq1), .val (.int qq2), .unset, .unset, .unset, .unset, .unset, .unset, .unset, .unset] [])
  refine own_st (fun _ k => XS.lloadN X0.here hx rfl (hb hby at_36) rfl k) ?_
  show own_Go p e s below _ _ _ T0 (mkF m 37 #[.val (.long q0), .second, .val (.int p1), .val (.int p2), .val (.int p3), .val (.int p4), .val (.int qq0), .val (.int qq1), .val (.int qq2), .unset, .unset, .unset, .unset, .unset, .unset, .unset, .unset] [(.long q0)])
  refine own_st (fun _ k => XS.bipush X0.here hx rfl (hb hby at_37) k) ?_
  show own_Go p e s below _ _ _ T0 (mkF m 39 #[.val (.long q0), .second, .val (.int p1), .val (.int p2), .val (.int p3), .val (.int p4), .val (.int qq0), .val (.int qq1), .val (.int qq2), .unset, .unset, .unset, .unset, .unset, .unset, .unset, .unset] [(.int (24 : Int32)), (.long q0)])
  refine own_st (fun _ k => XS.lushr X0.here hx rfl (hb hby at_39) rfl k) ?_
  show own_Go p e s below _ _ _ T0 (mkF m 40 #[.val (.long q0), .second, .val (.int p1), .val (.int p2), .val (.int p3), .val (.int p4), .val (.int qq0), .val (.int qq1), .val (.int qq2), .unset, .unset, .unset, .unset, .unset, .unset, .unset, .unset] [(.long ((q0.toUInt64 >>> ((24 : Int32) &&& 0x3f).toInt64.toUInt64).toInt64))])
  refine own_st (X0.ldc2Long hx hown (mvT hZ (hw _ (List.mem_of_getElem? (i := 1) rfl))) (g := (mkF m 40 #[.val (.long q0), .second, .val (.int p1), .val (.int p2), .val (.int p3), .val (.int p4), .val (.int qq0), .val (.int qq1), .val (.int qq2), .unset, .unset, .unset, .unset, .unset, .unset, .unset, .unset] [(.long ((q0.toUInt64 >>> ((24 : Int32) &&& 0x3f).toInt64.toUInt64).toInt64))])) rfl (hb hby at_40)) ?_
  show own_Go p e s below _ _ _ T0 (mkF m 43 #[.val (.long q0), .second, .val (.int p1), .val (.int p2), .val (.int p3), .val (.int p4), .val (.int qq0), .val (.int qq1), .val (.int qq2), .unset, .unset, .unset, .unset, .unset, .unset, .unset, .unset] [(.long (3 : Int64)), (.long ((q0.toUInt64 >>> ((24 : Int32) &&& 0x3f).toInt64.toUInt64).toInt64))])
  refine own_st (fun _ k => XS.land X0.here hx rfl (hb hby at_43) rfl k) ?_
  show own_Go p e s below _ _ _ T0 (mkF m 44 #[.val (.long q0), .second, .val (.int p1), .val (.int p2), .val (.int p3), .val (.int p4), .val (.int qq0), .val (.int qq1), .val (.int qq2), .unset, .unset, .unset, .unset, .unset, .unset, .unset, .unset] [(.long (((q0.toUInt64 >>> ((24 : Int32) &&& 0x3f).toInt64.toUInt64).toInt64) &&& (3 : Int64)))])
  refine own_st (fun _ k => XS.l2i X0.here hx rfl (hb hby at_44) rfl k) ?_
  show own_Go p e s below _ _ _ T0 (mkF m 45 #[.val (.long q0), .second, .val (.int p1), .val (.int p2), .val (.int p3), .val (.int p4), .val (.int qq0), .val (.int qq1), .val (.int qq2), .unset, .unset, .unset, .unset, .unset, .unset, .unset, .unset] [(.int ((((q0.toUInt64 >>> ((24 : Int32) &&& 0x3f).toInt64.toUInt64).toInt64) &&& (3 : Int64)).toInt32))])
  have hm := own_m ((q0.toUInt64 >>> ((24 : Int32) &&& 0x3f).toInt64.toUInt64).toInt64)
  generalize ((((q0.toUInt64 >>> ((24 : Int32) &&& 0x3f).toInt64.toUInt64).toInt64) &&& (3 : Int64)).toInt32) = mm at hm ⊢
  show own_Go p e s below _ _ _ T0 (mkF m 45 #[.val (.long q0), .second, .val (.int p1), .val (.int p2), .val (.int p3), .val (.int p4), .val (.int qq0), .val (.int qq1), .val (.int qq2), .unset, .unset, .unset, .unset, .unset, .unset, .unset, .unset] [(.int mm)])
  refine own_st (fun _ k => XS.istore X0.here hx rfl (hb hby at_45) rfl (l' := #[.val (.long q0), .second, .val (.int p1), .val (.int p2), .val (.int p3), .val (.int p4), .val (.int qq0), .val (.int qq1), .val (.int qq2), .val (.int mm), .unset, .unset, .unset, .unset, .unset, .unset, .unset]) rfl k) ?_
  show own_Go p e s below _ _ _ T0 (mkF m 47 #[.val (.long q0), .second, .val (.int p1), .val (.int p2), .val (.int p3), .val (.int p4), .val (.int qq0), .val (.int qq1), .val (.int qq2), .val (.int mm), .unset, .unset, .unset, .unset, .unset, .unset, .unset] [])
  refine own_st (fun _ k => XS.iconst X0.here hx rfl (hb hby at_47) k) ?_
  show own_Go p e s below _ _ _ T0 (mkF m 48 #[.val (.long q0), .second, .val (.int p1), .val (.int p2), .val (.int p3), .val (.int p4), .val (.int qq0), .val (.int qq1), .val (.int qq2), .val (.int mm), .unset, .unset, .unset, .unset, .unset, .unset, .unset] [(.int (3 : Int32))])
  obtain ⟨T135, h135, k135, X135, e135, E135, A135, Ex135, st135⟩ := newPE X0 hx hZ (hw _ (List.mem_of_getElem? (i := 2) rfl)) e0 (g := (mkF m 48 #[.val (.long q0), .second, .val (.int p1), .val (.int p2), .val (.int p3), .val (.int p4), .val (.int qq0), .val (.int qq1), .val (.int qq2), .val (.int mm), .unset, .unset, .unset, .unset, .unset, .unset, .unset] [(.int (3 : Int32))])) rfl (hb hby at_48) rfl (by decide) (cap := 3) (by decide) (by decide) (by decide) (by decide) (ad := "[I") (by decide)
  obtain ⟨u0, g135⟩ : ∃ z, z = h0.size := ⟨_, rfl⟩
  rw [← g135] at A135 Ex135 st135
  have g_u0 : n0 ≤ u0 := Nat.le_trans Z0 (Nat.le_of_eq g135.symm)
  have Z136 := Nat.le_trans Z0 E135.1
  have V_u0 : Arv Z h135 u0 k135 .int (3 : Int32) [(.int (0 : Int32)), (.int (0 : Int32)), (.int (0 : Int32))] (.int (0 : Int32)) := (Arv.new A135 (by decide)).pad (pad_rep [] (.int (0 : Int32)) 3)
  have E_u0 := Ex135
  refine own_st st135 ?_
  show own_Go p e s below _ _ _ T135 (mkF m 50 #[.val (.long q0), .second, .val (.int p1), .val (.int p2), .val (.int p3), .val (.int p4), .val (.int qq0), .val (.int qq1), .val (.int qq2), .val (.int mm), .unset, .unset, .unset, .unset, .unset, .unset, .unset] [(.ref u0)])
  refine own_st (fun _ k => XS.dup X135.here hx rfl (hb hby at_50) rfl rfl k) ?_
  show own_Go p e s below _ _ _ T135 (mkF m 51 #[.val (.long q0), .second, .val (.int p1), .val (.int p2), .val (.int p3), .val (.int p4), .val (.int qq0), .val (.int qq1), .val (.int qq2), .val (.int mm), .unset, .unset, .unset, .unset, .unset, .unset, .unset] [(.ref u0), (.ref u0)])
  refine own_st (fun _ k => XS.iconst X135.here hx rfl (hb hby at_51) k) ?_
  show own_Go p e s below _ _ _ T135 (mkF m 52 #[.val (.long q0), .second, .val (.int p1), .val (.int p2), .val (.int p3), .val (.int p4), .val (.int qq0), .val (.int qq1), .val (.int qq2), .val (.int mm), .unset, .unset, .unset, .unset, .unset, .unset, .unset] [(.int (0 : Int32)), (.ref u0), (.ref u0)])
  refine own_st (fun _ k => XS.iload X135.here hx rfl (hb hby at_52) rfl k) ?_
  show own_Go p e s below _ _ _ T135 (mkF m 54 #[.val (.long q0), .second, .val (.int p1), .val (.int p2), .val (.int p3), .val (.int p4), .val (.int qq0), .val (.int qq1), .val (.int qq2), .val (.int mm), .unset, .unset, .unset, .unset, .unset, .unset, .unset] [(.int qq0), (.int (0 : Int32)), (.ref u0), (.ref u0)])
  obtain ⟨T137, h137, X137, e137, W137, V137, st137⟩ := own_stI X135 hx hZ e135 V_u0 (j := (0 : Int32)) ⟨by decide, by decide⟩ (Nat.le_of_ble_eq_true rfl) (g := (mkF m 54 #[.val (.long q0), .second, .val (.int p1), .val (.int p2), .val (.int p3), .val (.int p4), .val (.int qq0), .val (.int qq1), .val (.int qq2), .val (.int mm), .unset, .unset, .unset, .unset, .unset, .unset, .unset] [(.int qq0), (.int (0 : Int32)), (.ref u0), (.ref u0)])) rfl rfl (hb hby at_54)
  clear V_u0
  have V_u0 : Arv Z h137 u0 k135 .int (3 : Int32) [(.int qq0), (.int (0 : Int32)), (.int (0 : Int32))] (.int (0 : Int32)) := V137
  replace E_u0 := E_u0.wr W137
  have Z138 := Nat.le_trans Z136 (Keep.of_wr W137).1
  have N137 := Fr.snoc X137 N0 g_u0
  refine own_st st137 ?_
  show own_Go p e s below _ _ _ T137 (mkF m 55 #[.val (.long q0), .second, .val (.int p1), .val (.int p2), .val (.int p3), .val (.int p4), .val (.int qq0), .val (.int qq1), .val (.int qq2), .val (.int mm), .unset, .unset, .unset, .unset, .unset, .unset, .unset] [(.ref u0)])
  refine own_st (fun _ k => XS.dup X137.here hx rfl (hb hby at_55) rfl rfl k) ?_
  show own_Go p e s below _ _ _ T137 (mkF m 56 #[.val (.long q0), .second, .val (.int p1), .val (.int p2), .val (.int p3), .val (.int p4), .val (.int qq0), .val (.int qq1), .val (.int qq2), .val (.int mm), .unset, .unset, .unset, .unset, .unset, .unset, .unset] [(.ref u0), (.ref u0)])
  refine own_st (fun _ k => XS.iconst X137.here hx rfl (hb hby at_56) k) ?_
  show own_Go p e s below _ _ _ T137 (mkF m 57 #[.val (.long q0), .second, .val (.int p1), .val (.int p2), .val (.int p3), .val (.int p4), .val (.int qq0), .val (.int qq1), .val (.int qq2), .val (.int mm), .unset, .unset, .unset, .unset, .unset, .unset, .unset] [(.int (1 : Int32)), (.ref u0), (.ref u0)])
  refine own_st (fun _ k => XS.iload X137.here hx rfl (hb hby at_57) rfl k) ?_
  show own_Go p e s below _ _ _ T137 (mkF m 59 #[.val (.long q0), .second, .val (.int p1), .val (.int p2), .val (.int p3), .val (.int p4), .val (.int qq0), .val (.int qq1), .val (.int qq2), .val (.int mm), .unset, .unset, .unset, .unset, .unset, .unset, .unset] [(.int qq1), (.int (1 : Int32)), (.ref u0), (.ref u0)])
  obtain ⟨T139, h139, X139, e139, W139, V139, st139⟩ := own_stI X137 hx hZ e137 V_u0 (j := (1 : Int32)) ⟨by decide, by decide⟩ (Nat.le_of_ble_eq_true rfl) (g := (mkF m 59 #[.val (.long q0), .second, .val (.int p1), .val (.int p2), .val (.int p3), .val (.int p4), .val (.int qq0), .val (.int qq1), .val (.int qq2), .val (.int mm), .unset, .unset, .unset, .unset, .unset, .unset, .unset] [(.int qq1), (.int (1 : Int32)), (.ref u0), (.ref u0)])) rfl rfl (hb hby at_59)
  clear V_u0
  have V_u0 : Arv Z h139 u0 k135 .int (3 : Int32) [(.int qq0), (.int qq1), (.int (0 : Int32))] (.int (0 : Int32)) := V139
  replace E_u0 := E_u0.wr W139
  have Z140 := Nat.le_trans Z138 (Keep.of_wr W139).1
  have N139 := Fr.snoc X139 N137 g_u0
  refine own_st st139 ?_
  show own_Go p e s below _ _ _ T139 (mkF m 60 #[.val (.long q0), .second, .val (.int p1), .val (.int p2), .val (.int p3), .val (.int p4), .val (.int qq0), .val (.int qq1), .val (.int qq2), .val (.int mm), .unset, .unset, .unset, .unset, .unset, .unset, .unset] [(.ref u0)])
  refine own_st (fun _ k => XS.dup X139.here hx rfl (hb hby at_60) rfl rfl k) ?_
  show own_Go p e s below _ _ _ T139 (mkF m 61 #[.val (.long q0), .second, .val (.int p1), .val (.int p2), .val (.int p3), .val (.int p4), .val (.int qq0), .val (.int qq1), .val (.int qq2), .val (.int mm), .unset, .unset, .unset, .unset, .unset, .unset, .unset] [(.ref u0), (.ref u0)])
  refine own_st (fun _ k => XS.iconst X139.here hx rfl (hb hby at_61) k) ?_
  show own_Go p e s below _ _ _ T139 (mkF m 62 #[.val (.long q0), .second, .val (.int p1), .val (.int p2), .val (.int p3), .val (.int p4), .val (.int qq0), .val (.int qq1), .val (.int qq2), .val (.int mm), .unset, .unset, .unset, .unset, .unset, .unset, .unset] [(.int (2 : Int32)), (.ref u0), (.ref u0)])
  refine own_st (fun _ k => XS.iload X139.here hx rfl (hb hby at_62) rfl k) ?_
  show own_Go p e s below _ _ _ T139 (mkF m 64 #[.val (.long q0), .second, .val (.int p1), .val (.int p2), .val (.int p3), .val (.int p4), .val (.int qq0), .val (.int qq1), .val (.int qq2), .val (.int mm), .unset, .unset, .unset, .unset, .unset, .unset, .unset] [(.int qq2), (.int (2 : Int32)), (.ref u0), (.ref u0)])
  obtain ⟨T141, h141, X141, e141, W141, V141, st141⟩ := own_stI X139 hx hZ e139 V_u0 (j := (2 : Int32)) ⟨by decide, by decide⟩ (Nat.le_of_ble_eq_true rfl) (g := (mkF m 64 #[.val (.long q0), .second, .val (.int p1), .val (.int p2), .val (.int p3), .val (.int p4), .val (.int qq0), .val (.int qq1), .val (.int qq2), .val (.int mm), .unset, .unset, .unset, .unset, .unset, .unset, .unset] [(.int qq2), (.int (2 : Int32)), (.ref u0), (.ref u0)])) rfl rfl (hb hby at_64)
  clear V_u0
  have V_u0 : Arv Z h141 u0 k135 .int (3 : Int32) [(.int qq0), (.int qq1), (.int qq2)] (.int (0 : Int32)) := V141
  replace E_u0 := E_u0.wr W141
  have Z142 := Nat.le_trans Z140 (Keep.of_wr W141).1
  have N141 := Fr.snoc X141 N139 g_u0
  refine own_st st141 ?_
  show own_Go p e s below _ _ _ T141 (mkF m 65 #[.val (.long q0), .second, .val (.int p1), .val (.int p2), .val (.int p3), .val (.int p4), .val (.int qq0), .val (.int qq1), .val (.int qq2), .val (.int mm), .unset, .unset, .unset, .unset, .unset, .unset, .unset] [(.ref u0)])
  refine own_st (fun _ k => XS.astore X141.here hx rfl (hb hby at_65) rfl rfl (l' := #[.val (.long q0), .second, .val (.int p1), .val (.int p2), .val (.int p3), .val (.int p4), .val (.int qq0), .val (.int qq1), .val (.int qq2), .val (.int mm), .val (.ref u0), .unset, .unset, .unset, .unset, .unset, .unset]) rfl k) ?_
  show own_Go p e s below _ _ _ T141 (mkF m 67 #[.val (.long q0), .second, .val (.int p1), .val (.int p2), .val (.int p3), .val (.int p4), .val (.int qq0), .val (.int qq1), .val (.int qq2), .val (.int mm), .val (.ref u0), .unset, .unset, .unset, .unset, .unset, .unset] [])
  refine own_st (fun _ k => XS.iconst X141.here hx rfl (hb hby at_67) k) ?_
  show own_Go p e s below _ _ _ T141 (mkF m 68 #[.val (.long q0), .second, .val (.int p1), .val (.int p2), .val (.int p3), .val (.int p4), .val (.int qq0), .val (.int qq1), .val (.int qq2), .val (.int mm), .val (.ref u0), .unset, .unset, .unset, .unset, .unset, .unset] [(.int (3 : Int32))])
  obtain ⟨T143, h143, k143, X143, e143, E143, A143, Ex143, st143⟩ := newPE X141 hx hZ (hw _ (List.mem_of_getElem? (i := 2) rfl)) e141 (g := (mkF m 68 #[.val (.long q0), .second, .val (.int p1), .val (.int p2), .val (.int p3), .val (.int p4), .val (.int qq0), .val (.int qq1), .val (.int qq2), .val (.int mm), .val (.ref u0), .unset, .unset, .unset, .unset, .unset, .unset] [(.int (3 : Int32))])) rfl (hb hby at_68) rfl (by decide) (cap := 3) (by decide) (by decide) (by decide) (by decide) (ad := "[I") (by decide)
  obtain ⟨u1, g143⟩ : ∃ z, z = h141.size := ⟨_, rfl⟩
  rw [← g143] at A143 Ex143 st143
  have g_u1 : n0 ≤ u1 := Nat.le_trans Z142 (Nat.le_of_eq g143.symm)
  have ne_u0_u1 : u0 ≠ u1 := Nat.ne_of_lt (Nat.lt_of_lt_of_le E_u0.lt (Nat.le_of_eq g143.symm))
  have ne_u1_u0 := Ne.symm ne_u0_u1
  replace E_u0 := E_u0.ext E143
  replace V_u0 := V_u0.ext E143
  have Z144 := Nat.le_trans Z142 E143.1
  have V_u1 : Arv Z h143 u1 k143 .int (3 : Int32) [(.int (0 : Int32)), (.int (0 : Int32)), (.int (0 : Int32))] (.int (0 : Int32)) := (Arv.new A143 (by decide)).pad (pad_rep [] (.int (0 : Int32)) 3)
  have E_u1 := Ex143
  refine own_st st143 ?_
  show own_Go p e s below _ _ _ T143 (mkF m 70 #[.val (.long q0), .second, .val (.int p1), .val (.int p2), .val (.int p3), .val (.int p4), .val (.int qq0), .val (.int qq1), .val (.int qq2), .val (.int mm), .val (.ref u0), .unset, .unset, .unset, .unset, .unset, .unset] [(.ref u1)])
  refine own_st (fun _ k => XS.dup X143.here hx rfl (hb hby at_70) rfl rfl k) ?_
  show own_Go p e s below _ _ _ T143 (mkF m 71 #[.val (.long q0), .second, .val (.int p1), .val (.int p2), .val (.int p3), .val (.int p4), .val (.int qq0), .val (.int qq1), .val (.int qq2), .val (.int mm), .val (.ref u0), .unset, .unset, .unset, .unset, .unset, .unset] [(.ref u1), (.ref u1)])
  refine own_st (fun _ k => XS.iconst X143.here hx rfl (hb hby at_71) k) ?_
  show own_Go p e s below _ _ _ T143 (mkF m 72 #[.val (.long q0), .second, .val (.int p1), .val (.int p2), .val (.int p3), .val (.int p4), .val (.int qq0), .val (.int qq1), .val (.int qq2), .val (.int mm), .val (.ref u0), .unset, .unset, .unset, .unset, .unset, .unset] [(.int (0 : Int32)), (.ref u1), (.ref u1)])
  refine own_st (fun _ k => XS.iloadN X143.here hx rfl (hb hby at_72) rfl k) ?_
  show own_Go p e s below _ _ _ T143 (mkF m 73 #[.val (.long q0), .second, .val (.int p1), .val (.int p2), .val (.int p3), .val (.int p4), .val (.int qq0), .val (.int qq1), .val (.int qq2), .val (.int mm), .val (.ref u0), .unset, .unset, .unset, .unset, .unset, .unset] [(.int p1), (.int (0 : Int32)), (.ref u1), (.ref u1)])
  obtain ⟨T145, h145, X145, e145, W145, V145, st145⟩ := own_stI X143 hx hZ e143 V_u1 (j := (0 : Int32)) ⟨by decide, by decide⟩ (Nat.le_of_ble_eq_true rfl) (g := (mkF m 73 #[.val (.long q0), .second, .val (.int p1), .val (.int p2), .val (.int p3), .val (.int p4), .val (.int qq0), .val (.int qq1), .val (.int qq2), .val (.int mm), .val (.ref u0), .unset, .unset, .unset, .unset, .unset, .unset] [(.int p1), (.int (0 : Int32)), (.ref u1), (.ref u1)])) rfl rfl (hb hby at_73)
  clear V_u1
  have V_u1 : Arv Z h145 u1 k143 .int (3 : Int32) [(.int p1), (.int (0 : Int32)), (.int (0 : Int32))] (.int (0 : Int32)) := V145
  replace E_u0 := E_u0.wr W145
  replace V_u0 := V_u0.other W145 ne_u0_u1
  replace E_u1 := E_u1.wr W145
  have Z146 := Nat.le_trans Z144 (Keep.of_wr W145).1
  have N145 := Fr.snoc X145 N141 g_u1
  refine own_st st145 ?_
  show own_Go p e s below _ _ _ T145 (mkF m 74 #[.val (.long q0), .second, .val (.int p1), .val (.int p2), .val (.int p3), .val (.int p4), .val (.int qq0), .val (.int qq1), .val (.int qq2), .val (.int mm), .val (.ref u0), .unset, .unset, .unset, .unset, .unset, .unset] [(.ref u1)])
  refine own_st (fun _ k => XS.dup X145.here hx rfl (hb hby at_74) rfl rfl k) ?_
  show own_Go p e s below _ _ _ T145 (mkF m 75 #[.val (.long q0), .second, .val (.int p1), .val (.int p2), .val (.int p3), .val (.int p4), .val (.int qq0), .val (.int qq1), .val (.int qq2), .val (.int mm), .val (.ref u0), .unset, .unset, .unset, .unset, .unset, .unset] [(.ref u1), (.ref u1)])
  refine own_st (fun _ k => XS.iconst X145.here hx rfl (hb hby at_75) k) ?_
  show own_Go p e s below _ _ _ T145 (mkF m 76 #[.val (.long q0), .second, .val (.int p1), .val (.int p2), .val (.int p3), .val (.int p4), .val (.int qq0), .val (.int qq1), .val (.int qq2), .val (.int mm), .val (.ref u0), .unset, .unset, .unset, .unset, .unset, .unset] [(.int (1 : Int32)), (.ref u1), (.ref u1)])
  refine own_st (fun _ k => XS.iloadN X145.here hx rfl (hb hby at_76) rfl k) ?_
  show own_Go p e s below _ _ _ T145 (mkF m 77 #[.val (.long q0), .second, .val (.int p1), .val (.int p2), .val (.int p3), .val (.int p4), .val (.int qq0), .val (.int qq1), .val (.int qq2), .val (.int mm), .val (.ref u0), .unset, .unset, .unset, .unset, .unset, .unset] [(.int p2), (.int (1 : Int32)), (.ref u1), (.ref u1)])
  obtain ⟨T147, h147, X147, e147, W147, V147, st147⟩ := own_stI X145 hx hZ e145 V_u1 (j := (1 : Int32)) ⟨by decide, by decide⟩ (Nat.le_of_ble_eq_true rfl) (g := (mkF m 77 #[.val (.long q0), .second, .val (.int p1), .val (.int p2), .val (.int p3), .val (.int p4), .val (.int qq0), .val (.int qq1), .val (.int qq2), .val (.int mm), .val (.ref u0), .unset, .unset, .unset, .unset, .unset, .unset] [(.int p2), (.int (1 : Int32)), (.ref u1), (.ref u1)])) rfl rfl (hb hby at_77)
  clear V_u1
  have V_u1 : Arv Z h147 u1 k143 .int (3 : Int32) [(.int p1), (.int p2), (.int (0 : Int32))] (.int (0 : Int32)) := V147
  replace E_u0 := E_u0.wr W147
  replace V_u0 := V_u0.other W147 ne_u0_u1
  replace E_u1 := E_u1.wr W147
  have Z148 := Nat.le_trans Z146 (Keep.of_wr W147).1
  have N147 := Fr.snoc X147 N145 g_u1
  refine own_st st147 ?_
  show own_Go p e s below _ _ _ T147 (mkF m 78 #[.val (.long q0), .second, .val (.int p1), .val (.int p2), .val (.int p3), .val (.int p4), .val (.int qq0), .val (.int qq1), .val (.int qq2), .val (.int mm), .val (.ref u0), .unset, .unset, .unset, .unset, .unset, .unset] [(.ref u1)])
  refine own_st (fun _ k => XS.dup X147.here hx rfl (hb hby at_78) rfl rfl k) ?_
  show own_Go p e s below _ _ _ T147 (mkF m 79 #[.val (.long q0), .second, .val (.int p1), .val (.int p2), .val (.int p3), .val (.int p4), .val (.int qq0), .val (.int qq1), .val (.int qq2), .val (.int mm), .val (.ref u0), .unset, .unset, .unset, .unset, .unset, .unset] [(.ref u1), (.ref u1)])
  refine own_st (fun _ k => XS.iconst X147.here hx rfl (hb hby at_79) k) ?_
  show own_Go p e s below _ _ _ T147 (mkF m 80 #[.val (.long q0), .second, .val (.int p1), .val (.int p2), .val (.int p3), .val (.int p4), .val (.int qq0), .val (.int qq1), .val (.int qq2), .val (.int mm), .val (.ref u0), .unset, .unset, .unset, .unset, .unset, .unset] [(.int (2 : Int32)), (.ref u1), (.ref u1)])
  refine own_st (fun _ k => XS.iload X147.here hx rfl (hb hby at_80) rfl k) ?_
  show own_Go p e s below _ _ _ T147 (mkF m 82 #[.val (.long q0), .second, .val (.int p1), .val (.int p2), .val (.int p3), .val (.int p4), .val (.int qq0), .val (.int qq1), .val (.int qq2), .val (.int mm), .val (.ref u0), .unset, .unset, .unset, .unset, .unset, .unset] [(.int p3), (.int (2 : Int32)), (.ref u1), (.ref u1)])
  obtain ⟨T149, h149, X149, e149, W149, V149, st149⟩ := own_stI X147 hx hZ e147 V_u1 (j := (2 : Int32)) ⟨by decide, by decide⟩ (Nat.le_of_ble_eq_true rfl) (g := (mkF m 82 #[.val (.long q0), .second, .val (.int p1), .val (.int p2), .val (.int p3), .val (.int p4), .val (.int qq0), .val (.int qq1), .val (.int qq2), .val (.int mm), .val (.ref u0), .unset, .unset, .unset, .unset, .unset, .unset] [(.int p3), (.int (2 : Int32)), (.ref u1), (.ref u1)])) rfl rfl (hb hby at_82)
  clear V_u1
  have V_u1 : Arv Z h149 u1 k143 .int (3 : Int32) [(.int p1), (.int p2), (.int p3)] (.int (0 : Int32)) := V149
  replace E_u0 := E_u0.wr W149
  replace V_u0 := V_u0.other W149 ne_u0_u1
  replace E_u1 := E_u1.wr W149
  have Z150 := Nat.le_trans Z148 (Keep.of_wr W149).1
  have N149 := Fr.snoc X149 N147 g_u1
  refine own_st st149 ?_
  show own_Go p e s below _ _ _ T149 (mkF m 83 #[.val (.long q0), .second, .val (.int p1), .val (.int p2), .val (.int p3), .val (.int p4), .val (.int qq0), .val (.int qq1), .val (.int qq2), .val (.int mm), .val (.ref u0), .unset, .unset, .unset, .unset, .unset, .unset] [(.ref u1)])
  refine own_st (fun _ k => XS.astore X149.here hx rfl (hb hby at_83) rfl rfl (l' := #[.val (.long q0), .second, .val (.int p1), .val (.int p2), .val (.int p3), .val (.int p4), .val (.int qq0), .val (.int qq1), .val (.int qq2), .val (.int mm), .val (.ref u0), .val (.ref u1), .unset, .unset, .unset, .unset, .unset]) rfl k) ?_
  show own_Go p e s below _ _ _ T149 (mkF m 85 #[.val (.long q0), .second, .val (.int p1), .val (.int p2), .val (.int p3), .val (.int p4), .val (.int qq0), .val (.int qq1), .val (.int qq2), .val (.int mm), .val (.ref u0), .val (.ref u1), .unset, .unset, .unset, .unset, .unset] [])
  refine own_st (fun _ k => XS.iconst X149.here hx rfl (hb hby at_85) k) ?_
  show own_Go p e s below _ _ _ T149 (mkF m 86 #[.val (.long q0), .second, .val (.int p1), .val (.int p2), .val (.int p3), .val (.int p4), .val (.int qq0), .val (.int qq1), .val (.int qq2), .val (.int mm), .val (.ref u0), .val (.ref u1), .unset, .unset, .unset, .unset, .unset] [(.int (3 : Int32))])
  obtain ⟨T151, h151, k151, X151, e151, E151, A151, Ex151, st151⟩ := newPE X149 hx hZ (hw _ (List.mem_of_getElem? (i := 2) rfl)) e149 (g := (mkF m 86 #[.val (.long q0), .second, .val (.int p1), .val (.int p2), .val (.int p3), .val (.int p4), .val (.int qq0), .val (.int qq1), .val (.int qq2), .val (.int mm), .val (.ref u0), .val (.ref u1), .unset, .unset, .unset, .unset, .unset] [(.int (3 : Int32))])) rfl (hb hby at_86) rfl (by decide) (cap := 3) (by decide) (by decide) (by decide) (by decide) (ad := "[I") (by decide)
  obtain ⟨u2, g151⟩ : ∃ z, z = h149.size := ⟨_, rfl⟩
  rw [← g151] at A151 Ex151 st151
  have g_u2 : n0 ≤ u2 := Nat.le_trans Z150 (Nat.le_of_eq g151.symm)
  have ne_u0_u2 : u0 ≠ u2 := Nat.ne_of_lt (Nat.lt_of_lt_of_le E_u0.lt (Nat.le_of_eq g151.symm))
  have ne_u2_u0 := Ne.symm ne_u0_u2
  have ne_u1_u2 : u1 ≠ u2 := Nat.ne_of_lt (Nat.lt_of_lt_of_le E_u1.lt (Nat.le_of_eq g151.symm))
  have ne_u2_u1 := Ne.symm ne_u1_u2
  replace E_u0 := E_u0.ext E151
  replace V_u0 := V_u0.ext E151
  replace E_u1 := E_u1.ext E151
  replace V_u1 := V_u1.ext E151
  have Z152 := Nat.le_trans Z150 E151.1
  have V_u2 : Arv Z h151 u2 k151 .int (3 : Int32) [(.int (0 : Int32)), (.int (0 : Int32)), (.int (0 : Int32))] (.int (0 : Int32)) := (Arv.new A151 (by decide)).pad (pad_rep [] (.int (0 : Int32)) 3)
  have E_u2 := Ex151
  refine own_st st151 ?_
  show own_Go p e s below _ _ _ T151 (mkF m 88 #[.val (.long q0), .second, .val (.int p1), .val (.int p2), .val (.int p3), .val (.int p4), .val (.int qq0), .val (.int qq1), .val (.int qq2), .val (.int mm), .val (.ref u0), .val (.ref u1), .unset, .unset, .unset, .unset, .unset] [(.ref u2)])
  refine own_st (fun _ k => XS.dup X151.here hx rfl (hb hby at_88) rfl rfl k) ?_
  show own_Go p e s below _ _ _ T151 (mkF m 89 #[.val (.long q0), .second, .val (.int p1), .val (.int p2), .val (.int p3), .val (.int p4), .val (.int qq0), .val (.int qq1), .val (.int qq2), .val (.int mm), .val (.ref u0), .val (.ref u1), .unset, .unset, .unset, .unset, .unset] [(.ref u2), (.ref u2)])
  refine own_st (fun _ k => XS.iconst X151.here hx rfl (hb hby at_89) k) ?_
  show own_Go p e s below _ _ _ T151 (mkF m 90 #[.val (.long q0), .second, .val (.int p1), .val (.int p2), .val (.int p3), .val (.int p4), .val (.int qq0), .val (.int qq1), .val (.int qq2), .val (.int mm), .val (.ref u0), .val (.ref u1), .unset, .unset, .unset, .unset, .unset] [(.int (0 : Int32)), (.ref u2), (.ref u2)])
  refine own_st (fun _ k => XS.iload X151.here hx rfl (hb hby at_90) rfl k) ?_
  show own_Go p e s below _ _ _ T151 (mkF m 92 #[.val (.long q0), .second, .val (.int p1), .val (.int p2), .val (.int p3), .val (.int p4), .val (.int qq0), .val (.int qq1), .val (.int qq2), .val (.int mm), .val (.ref u0), .val (.ref u1), .unset, .unset, .unset, .unset, .unset] [(.int p4), (.int (0 : Int32)), (.ref u2), (.ref u2)])
  obtain ⟨T153, h153, X153, e153, W153, V153, st153⟩ := own_stI X151 hx hZ e151 V_u2 (j := (0 : Int32)) ⟨by decide, by decide⟩ (Nat.le_of_ble_eq_true rfl) (g := (mkF m 92 #[.val (.long q0), .second, .val (.int p1), .val (.int p2), .val (.int p3), .val (.int p4), .val (.int qq0), .val (.int qq1), .val (.int qq2), .val (.int mm), .val (.ref u0), .val (.ref u1), .unset, .unset, .unset, .unset, .unset] [(.int p4), (.int (0 : Int32)), (.ref u2), (.ref u2)])) rfl rfl (hb hby at_92)
  clear V_u2
  have V_u2 : Arv Z h153 u2 k151 .int (3 : Int32) [(.int p4), (.int (0 : Int32)), (.int (0 : Int32))] (.int (0 : Int32)) := V153
  replace E_u0 := E_u0.wr W153
  replace V_u0 := V_u0.other W153 ne_u0_u2
  replace E_u1 := E_u1.wr W153
  replace V_u1 := V_u1.other W153 ne_u1_u2
  replace E_u2 := E_u2.wr W153
  have Z154 := Nat.le_trans Z152 (Keep.of_wr W153).1
  have N153 := Fr.snoc X153 N149 g_u2
  refine own_st st153 ?_
  show own_Go p e s below _ _ _ T153 (mkF m 93 #[.val (.long q0), .second, .val (.int p1), .val (.int p2), .val (.int p3), .val (.int p4), .val (.int qq0), .val (.int qq1), .val (.int qq2), .val (.int mm), .val (.ref u0), .val (.ref u1), .unset, .unset, .unset, .unset, .unset] [(.ref u2)])
  refine own_st (fun _ k => XS.dup X153.here hx rfl (hb hby at_93) rfl rfl k) ?_
  show own_Go p e s below _ _ _ T153 (mkF m 94 #[.val (.long q0), .second, .val (.int p1), .val (.int p2), .val (.int p3), .val (.int p4), .val (.int qq0), .val (.int qq1), .val (.int qq2), .val (.int mm), .val (.ref u0), .val (.ref u1), .unset, .unset, .unset, .unset, .unset] [(.ref u2), (.ref u2)])
  refine own_st (fun _ k => XS.iconst X153.here hx rfl (hb hby at_94) k) ?_
  show own_Go p e s below _ _ _ T153 (mkF m 95 #[.val (.long q0), .second, .val (.int p1), .val (.int p2), .val (.int p3), .val (.int p4), .val (.int qq0), .val (.int qq1), .val (.int qq2), .val (.int mm), .val (.ref u0), .val (.ref u1), .unset, .unset, .unset, .unset, .unset] [(.int (1 : Int32)), (.ref u2), (.ref u2)])
  refine own_st (fun _ k => XS.iload X153.here hx rfl (hb hby at_95) rfl k) ?_
  show own_Go p e s below _ _ _ T153 (mkF m 97 #[.val (.long q0), .second, .val (.int p1), .val (.int p2), .val (.int p3), .val (.int p4), .val (.int qq0), .val (.int qq1), .val (.int qq2), .val (.int mm), .val (.ref u0), .val (.ref u1), .unset, .unset, .unset, .unset, .unset] [(.int p4), (.int (1 : Int32)), (.ref u2), (.ref u2)])
  obtain ⟨T155, h155, X155, e155, W155, V155, st155⟩ := own_stI X153 hx hZ e153 V_u2 (j := (1 : Int32)) ⟨by decide, by decide⟩ (Nat.le_of_ble_eq_true rfl) (g := (mkF m 97 #[.val (.long q0), .second, .val (.int p1), .val (.int p2), .val (.int p3), .val (.int p4), .val (.int qq0), .val (.int qq1), .val (.int qq2), .val (.int mm), .val (.ref u0), .val (.ref u1), .unset, .unset, .unset, .unset, .unset] [(.int p4), (.int (1 : Int32)), (.ref u2), (.ref u2)])) rfl rfl (hb hby at_97)
  clear V_u2
  have V_u2 : Arv Z h155 u2 k151 .int (3 : Int32) [(.int p4), (.int p4), (.int (0 : Int32))] (.int (0 : Int32)) := V155
  replace E_u0 := E_u0.wr W155
  replace V_u0 := V_u0.other W155 ne_u0_u2
  replace E_u1 := E_u1.wr W155
  replace V_u1 := V_u1.other W155 ne_u1_u2
  replace E_u2 := E_u2.wr W155
  have Z156 := Nat.le_trans Z154 (Keep.of_wr W155).1
  have N155 := Fr.snoc X155 N153 g_u2
  refine own_st st155 ?_
  show own_Go p e s below _ _ _ T155 (mkF m 98 #[.val (.long q0), .second, .val (.int p1), .val (.int p2), .val (.int p3), .val (.int p4), .val (.int qq0), .val (.int qq1), .val (.int qq2), .val (.int mm), .val (.ref u0), .val (.ref u1), .unset, .unset, .unset, .unset, .unset] [(.ref u2)])
  refine own_st (fun _ k => XS.dup X155.here hx rfl (hb hby at_98) rfl rfl k) ?_
  show own_Go p e s below _ _ _ T155 (mkF m 99 #[.val (.long q0), .second, .val (.int p1), .val (.int p2), .val (.int p3), .val (.int p4), .val (.int qq0), .val (.int qq1), .val (.int qq2), .val (.int mm), .val (.ref u0), .val (.ref u1), .unset, .unset, .unset, .unset, .unset] [(.ref u2), (.ref u2)])
  refine own_st (fun _ k => XS.iconst X155.here hx rfl (hb hby at_99) k) ?_
  show own_Go p e s below _ _ _ T155 (mkF m 100 #[.val (.long q0), .second, .val (.int p1), .val (.int p2), .val (.int p3), .val (.int p4), .val (.int qq0), .val (.int qq1), .val (.int qq2), .val (.int mm), .val (.ref u0), .val (.ref u1), .unset, .unset, .unset, .unset, .unset] [(.int (2 : Int32)), (.ref u2), (.ref u2)])
  refine own_st (fun _ k => XS.iload X155.here hx rfl (hb hby at_100) rfl k) ?_
  show own_Go p e s below _ _ _ T155 (mkF m 102 #[.val (.long q0), .second, .val (.int p1), .val (.int p2), .val (.int p3), .val (.int p4), .val (.int qq0), .val (.int qq1), .val (.int qq2), .val (.int mm), .val (.ref u0), .val (.ref u1), .unset, .unset, .unset, .unset, .unset] [(.int p4), (.int (2 : Int32)), (.ref u2), (.ref u2)])
  obtain ⟨T157, h157, X157, e157, W157, V157, st157⟩ := own_stI X155 hx hZ e155 V_u2 (j := (2 : Int32)) ⟨by decide, by decide⟩ (Nat.le_of_ble_eq_true rfl) (g := (mkF m 102 #[.val (.long q0), .second, .val (.int p1), .val (.int p2), .val (.int p3), .val (.int p4), .val (.int qq0), .val (.int qq1), .val (.int qq2), .val (.int mm), .val (.ref u0), .val (.ref u1), .unset, .unset, .unset, .unset, .unset] [(.int p4), (.int (2 : Int32)), (.ref u2), (.ref u2)])) rfl rfl (hb hby at_102)
  clear V_u2
  have V_u2 : Arv Z h157 u2 k151 .int (3 : Int32) [(.int p4), (.int p4), (.int p4)] (.int (0 : Int32)) := V157
  replace E_u0 := E_u0.wr W157
  replace V_u0 := V_u0.other W157 ne_u0_u2
  replace E_u1 := E_u1.wr W157
  replace V_u1 := V_u1.other W157 ne_u1_u2
  replace E_u2 := E_u2.wr W157
  have Z158 := Nat.le_trans Z156 (Keep.of_wr W157).1
  have N157 := Fr.snoc X157 N155 g_u2
  refine own_st st157 ?_
  show own_Go p e s below _ _ _ T157 (mkF m 103 #[.val (.long q0), .second, .val (.int p1), .val (.int p2), .val (.int p3), .val (.int p4), .val (.int qq0), .val (.int qq1), .val (.int qq2), .val (.int mm), .val (.ref u0), .val (.ref u1), .unset, .unset, .unset, .unset, .unset] [(.ref u2)])
  refine own_st (fun _ k => XS.astore X157.here hx rfl (hb hby at_103) rfl rfl (l' := #[.val (.long q0), .second, .val (.int p1), .val (.int p2), .val (.int p3), .val (.int p4), .val (.int qq0), .val (.int qq1), .val (.int qq2), .val (.int mm), .val (.ref u0), .val (.ref u1), .val (.ref u2), .unset, .unset, .unset, .unset]) rfl k) ?_
  show own_Go p e s below _ _ _ T157 (mkF m 105 #[.val (.long q0), .second, .val (.int p1), .val (.int p2), .val (.int p3), .val (.int p4), .val (.int qq0), .val (.int qq1), .val (.int qq2), .val (.int mm), .val (.ref u0), .val (.ref u1), .val (.ref u2), .unset, .unset, .unset, .unset] [])
  refine own_st (fun _ k => XS.iload X157.here hx rfl (hb hby at_105) rfl k) ?_
  show own_Go p e s below _ _ _ T157 (mkF m 107 #[.val (.long q0), .second, .val (.int p1), .val (.int p2), .val (.int p3), .val (.int p4), .val (.int qq0), .val (.int qq1), .val (.int qq2), .val (.int mm), .val (.ref u0), .val (.ref u1), .val (.ref u2), .unset, .unset, .unset, .unset] [(.int mm)])
  rcases hm with rfl | rfl | rfl | rfl
  · show own_Go p e s below _ _ _ T157 (mkF m 107 #[.val (.long q0), .second, .val (.int p1), .val (.int p2), .val (.int p3), .val (.int p4), .val (.int qq0), .val (.int qq1), .val (.int qq2), .val (.int (0 : Int32)), .val (.ref u0), .val (.ref u1), .val (.ref u2), .unset, .unset, .unset, .unset] [(.int (0 : Int32))])
    refine own_st (fun _ k => XS.ifNo X157.here hx rfl (hb hby at_107) rfl (by decide) k) ?_
    show own_Go p e s below _ _ _ T157 (mkF m 110 #[.val (.long q0), .second, .val (.int p1), .val (.int p2), .val (.int p3), .val (.int p4), .val (.int qq0), .val (.int qq1), .val (.int qq2), .val (.int (0 : Int32)), .val (.ref u0), .val (.ref u1), .val (.ref u2), .unset, .unset, .unset, .unset] [])
    obtain ⟨T159, h159, X159, e159, E159, A159, D159, -, st159⟩ := newO X157 hx hZ hown (hw _ (List.mem_of_getElem? (i := 3) rfl)) (hw _ (List.mem_of_getElem? (i := 4) rfl)) (hw _ (List.mem_of_getElem? (i := 5) rfl)) e157 (g := (mkF m 110 #[.val (.long q0), .second, .val (.int p1), .val (.int p2), .val (.int p3), .val (.int p4), .val (.int qq0), .val (.int qq1), .val (.int qq2), .val (.int (0 : Int32)), .val (.ref u0), .val (.ref u1), .val (.ref u2), .unset, .unset, .unset, .unset] [])) rfl (hb hby at_110) (by decide) (by decide)
    obtain ⟨bt, g159⟩ : ∃ z, z = h157.size := ⟨_, rfl⟩
    rw [← g159] at A159 D159 st159
    have g_bt : n0 ≤ bt := Nat.le_trans Z158 (Nat.le_of_eq g159.symm)
    have ne_u0_bt : u0 ≠ bt := Nat.ne_of_lt (Nat.lt_of_lt_of_le E_u0.lt (Nat.le_of_eq g159.symm))
    have ne_bt_u0 := Ne.symm ne_u0_bt
    have ne_u1_bt : u1 ≠ bt := Nat.ne_of_lt (Nat.lt_of_lt_of_le E_u1.lt (Nat.le_of_eq g159.symm))
    have ne_bt_u1 := Ne.symm ne_u1_bt
    have ne_u2_bt : u2 ≠ bt := Nat.ne_of_lt (Nat.lt_of_lt_of_le E_u2.lt (Nat.le_of_eq g159.symm))
    have ne_bt_u2 := Ne.symm ne_u2_bt
    replace E_u0 := E_u0.ext E159
    replace V_u0 := V_u0.ext E159
    replace E_u1 := E_u1.ext E159
    replace V_u1 := V_u1.ext E159
    replace E_u2 := E_u2.ext E159
    replace V_u2 := V_u2.ext E159
    have Z160 := Nat.le_trans Z158 E159.1
    have E_bt := A159
    have F_partOf_bt : Fld Z h159 bt "com/example/hush5/hush5/search/TupleClasses" "partOf" "[I" .null := D159 (Or.inr (hw _ (List.mem_of_getElem? (i := 13) rfl))) (ty := (.array .int)) (by decide)
    have F_classOfPart_bt : Fld Z h159 bt "com/example/hush5/hush5/search/TupleClasses" "classOfPart" "[I" .null := D159 (Or.inr (hw _ (List.mem_of_getElem? (i := 15) rfl))) (ty := (.array .int)) (by decide)
    have F_target_bt : Fld Z h159 bt "com/example/hush5/hush5/search/TupleClasses" "target" "[I" .null := D159 (Or.inr (hw _ (List.mem_of_getElem? (i := 17) rfl))) (ty := (.array .int)) (by decide)
    have F_classOf_bt : Fld Z h159 bt "com/example/hush5/hush5/search/TupleClasses" "classOf" "[I" .null := D159 (Or.inl (hw _ (List.mem_of_getElem? (i := 24) rfl))) (ty := (.array .int)) (by decide)
    refine own_st st159 ?_
    show own_Go p e s below _ _ _ T159 (mkF m 113 #[.val (.long q0), .second, .val (.int p1), .val (.int p2), .val (.int p3), .val (.int p4), .val (.int qq0), .val (.int qq1), .val (.int qq2), .val (.int (0 : Int32)), .val (.ref u0), .val (.ref u1), .val (.ref u2), .unset, .unset, .unset, .unset] [(.ref bt)])
    refine own_st (fun _ k => XS.dup X159.here hx rfl (hb hby at_113) rfl rfl k) ?_
    show own_Go p e s below _ _ _ T159 (mkF m 114 #[.val (.long q0), .second, .val (.int p1), .val (.int p2), .val (.int p3), .val (.int p4), .val (.int qq0), .val (.int qq1), .val (.int qq2), .val (.int (0 : Int32)), .val (.ref u0), .val (.ref u1), .val (.ref u2), .unset, .unset, .unset, .unset] [(.ref bt), (.ref bt)])
    refine own_st (fun _ k => XS.aload X159.here hx rfl (hb hby at_114) rfl rfl k) ?_
    show own_Go p e s below _ _ _ T159 (mkF m 116 #[.val (.long q0), .second, .val (.int p1), .val (.int p2), .val (.int p3), .val (.int p4), .val (.int qq0), .val (.int qq1), .val (.int qq2), .val (.int (0 : Int32)), .val (.ref u0), .val (.ref u1), .val (.ref u2), .unset, .unset, .unset, .unset] [(.ref u0), (.ref bt), (.ref bt)])
    refine own_st (fun _ k => XS.aconstNull X159.here hx rfl (hb hby at_116) k) ?_
    show own_Go p e s below _ _ _ T159 (mkF m 117 #[.val (.long q0), .second, .val (.int p1), .val (.int p2), .val (.int p3), .val (.int p4), .val (.int qq0), .val (.int qq1), .val (.int qq2), .val (.int (0 : Int32)), .val (.ref u0), .val (.ref u1), .val (.ref u2), .unset, .unset, .unset, .unset] [.null, (.ref u0), (.ref bt), (.ref bt)])
    refine own_st (fun _ k => XS.aconstNull X159.here hx rfl (hb hby at_117) k) ?_
    show own_Go p e s below _ _ _ T159 (mkF m 118 #[.val (.long q0), .second, .val (.int p1), .val (.int p2), .val (.int p3), .val (.int p4), .val (.int qq0), .val (.int qq1), .val (.int qq2), .val (.int (0 : Int32)), .val (.ref u0), .val (.ref u1), .val (.ref u2), .unset, .unset, .unset, .unset] [.null, .null, (.ref u0), (.ref bt), (.ref bt)])
    refine own_callN X159 hx hZ (y := (⟨"com/example/hush5/hush5/search/TupleClasses", "<init>", "([I[I[I)V"⟩ : MethodName)) rfl hown (hw _ (List.mem_of_getElem? (i := 6) rfl)) (hw _ (List.mem_of_getElem? (i := 7) rfl)) (hw _ (List.mem_of_getElem? (i := 5) rfl)) (hw _ (List.mem_of_getElem? (i := 8) rfl)) (by decide) e159 (rm1_0 l Z a0 hw [] bt u0 h159 n0 Z160 E_bt F_partOf_bt F_classOfPart_bt F_target_bt F_classOf_bt g_bt) 1 (by decide) (by decide) (g := (mkF m 118 #[.val (.long q0), .second, .val (.int p1), .val (.int p2), .val (.int p3), .val (.int p4), .val (.int qq0), .val (.int qq1), .val (.int qq2), .val (.int (0 : Int32)), .val (.ref u0), .val (.ref u1), .val (.ref u2), .unset, .unset, .unset, .unset] [.null, .null, (.ref u0), (.ref bt), (.ref bt)])) rfl (by rw [hml]; rfl) (a := bt) (argsL := [(.ref u0), .null, .null]) (rest := [(.ref bt)]) pd0 rfl rfl rfl (by show 2 * 0 + _ ≤ _; exact Nat.le_of_eq rfl) (hb hby at_118) (by decide) (by decide) ?_
    intro T161 v161 L161 X161 hQ161
    obtain ⟨rfl, N161q, K161q, y161_0, y161_1, y161_2, y161_3, y161_4⟩ := hQ161
    have N161 := Fr.app N157 N161q
    replace E_u0 := E_u0.keep K161q
    replace V_u0 := V_u0.keep K161q (ninS ne_u0_bt nin0)
    replace E_u1 := E_u1.keep K161q
    replace V_u1 := V_u1.keep K161q (ninS ne_u1_bt nin0)
    replace E_u2 := E_u2.keep K161q
    replace V_u2 := V_u2.keep K161q (ninS ne_u2_bt nin0)
    replace E_bt := E_bt.keep K161q
    clear F_partOf_bt
    clear F_classOfPart_bt
    clear F_target_bt
    clear F_classOf_bt
    have Z162 := Nat.le_trans Z160 K161q.1
    have E_bt := y161_0
    have F_partOf_bt := y161_1
    have F_classOfPart_bt := y161_2
    have F_target_bt := y161_3
    have F_classOf_bt := y161_4
    show own_Go p e s below _ _ _ T161 (mkF m 121 #[.val (.long q0), .second, .val (.int p1), .val (.int p2), .val (.int p3), .val (.int p4), .val (.int qq0), .val (.int qq1), .val (.int qq2), .val (.int (0 : Int32)), .val (.ref u0), .val (.ref u1), .val (.ref u2), .unset, .unset, .unset, .unset] [(.ref bt)])
    refine own_st (fun _ k => XS.astore X161.here hx rfl (hb hby at_121) rfl rfl (l' := #[.val (.long q0), .second, .val (.int p1), .val (.int p2), .val (.int p3), .val (.int p4), .val (.int qq0), .val (.int qq1), .val (.int qq2), .val (.int (0 : Int32)), .val (.ref u0), .val (.ref u1), .val (.ref u2), .val (.ref bt), .unset, .unset, .unset]) rfl k) ?_
    show own_Go p e s below _ _ _ T161 (mkF m 123 #[.val (.long q0), .second, .val (.int p1), .val (.int p2), .val (.int p3), .val (.int p4), .val (.int qq0), .val (.int qq1), .val (.int qq2), .val (.int (0 : Int32)), .val (.ref u0), .val (.ref u1), .val (.ref u2), .val (.ref bt), .unset, .unset, .unset] [])
    refine own_st (fun _ k => XS.goto X161.here hx rfl (pc0 := 123) (pc' := 188) rfl (hb hby at_123) (by decide) (by decide) k) ?_
    show own_Go p e s below _ _ _ T161 (mkF m 188 #[.val (.long q0), .second, .val (.int p1), .val (.int p2), .val (.int p3), .val (.int p4), .val (.int qq0), .val (.int qq1), .val (.int qq2), .val (.int (0 : Int32)), .val (.ref u0), .val (.ref u1), .val (.ref u2), .val (.ref bt), .unset, .unset, .unset] [])
    refine own_st (fun _ k => XS.aload X161.here hx rfl (hb hby at_188) rfl rfl k) ?_
    show own_Go p e s below _ _ _ T161 (mkF m 190 #[.val (.long q0), .second, .val (.int p1), .val (.int p2), .val (.int p3), .val (.int p4), .val (.int qq0), .val (.int qq1), .val (.int qq2), .val (.int (0 : Int32)), .val (.ref u0), .val (.ref u1), .val (.ref u2), .val (.ref bt), .unset, .unset, .unset] [(.ref bt)])
    refine own_callV X161 hx hZ (y := (⟨"com/example/hush5/hush5/search/TupleClasses", "classOf", "()[I"⟩ : MethodName)) hown (hw _ (List.mem_of_getElem? (i := 18) rfl)) (hw _ (List.mem_of_getElem? (i := 19) rfl)) (hw _ (List.mem_of_getElem? (i := 21) rfl)) (hw _ (List.mem_of_getElem? (i := 20) rfl)) (hw _ (List.mem_of_getElem? (i := 5) rfl)) (hw _ (List.mem_of_getElem? (i := 22) rfl)) (by decide) rfl (rm3_0 l Z a0 hw [] bt u0 T161.heap n0 Z162 E_bt F_partOf_bt F_classOfPart_bt F_target_bt F_classOf_bt g_bt) 0 (by decide) (by decide) E_bt (g := (mkF m 190 #[.val (.long q0), .second, .val (.int p1), .val (.int p2), .val (.int p3), .val (.int p4), .val (.int qq0), .val (.int qq1), .val (.int qq2), .val (.int (0 : Int32)), .val (.ref u0), .val (.ref u1), .val (.ref u2), .val (.ref bt), .unset, .unset, .unset] [(.ref bt)])) rfl (by rw [hml]; rfl) (argsL := []) (rest := []) pd1 rfl rfl rfl (by show 2 * 0 + _ ≤ _; exact Nat.le_of_eq rfl) (hb hby at_190) (by decide) (by decide) ?_
    intro T163 v163 L163 X163 hQ163
    obtain ⟨rfl, N163q, K163q, y163_0, y163_1⟩ := hQ163
    have N163 := Fr.app N161 N163q
    replace E_u0 := E_u0.keep K163q
    replace V_u0 := V_u0.keep K163q (ninS ne_u0_bt nin0)
    replace E_u1 := E_u1.keep K163q
    replace V_u1 := V_u1.keep K163q (ninS ne_u1_bt nin0)
    replace E_u2 := E_u2.keep K163q
    replace V_u2 := V_u2.keep K163q (ninS ne_u2_bt nin0)
    replace E_bt := E_bt.keep K163q
    clear F_partOf_bt
    clear F_classOfPart_bt
    clear F_target_bt
    clear F_classOf_bt
    have Z164 := Nat.le_trans Z162 K163q.1
    have E_bt := y163_0
    have F_classOf_bt := y163_1
    show own_Go p e s below _ _ _ T163 (mkF m 193 #[.val (.long q0), .second, .val (.int p1), .val (.int p2), .val (.int p3), .val (.int p4), .val (.int qq0), .val (.int qq1), .val (.int qq2), .val (.int (0 : Int32)), .val (.ref u0), .val (.ref u1), .val (.ref u2), .val (.ref bt), .unset, .unset, .unset] [(.ref u0)])
    refine own_st (fun _ k => XS.astore X163.here hx rfl (hb hby at_193) rfl rfl (l' := #[.val (.long q0), .second, .val (.int p1), .val (.int p2), .val (.int p3), .val (.int p4), .val (.int qq0), .val (.int qq1), .val (.int qq2), .val (.int (0 : Int32)), .val (.ref u0), .val (.ref u1), .val (.ref u2), .val (.ref bt), .val (.ref u0), .unset, .unset]) rfl k) ?_
    show own_Go p e s below _ _ _ T163 (mkF m 195 #[.val (.long q0), .second, .val (.int p1), .val (.int p2), .val (.int p3), .val (.int p4), .val (.int qq0), .val (.int qq1), .val (.int qq2), .val (.int (0 : Int32)), .val (.ref u0), .val (.ref u1), .val (.ref u2), .val (.ref bt), .val (.ref u0), .unset, .unset] [])
    refine own_st (fun _ k => XS.aload X163.here hx rfl (hb hby at_195) rfl rfl k) ?_
    show own_Go p e s below _ _ _ T163 (mkF m 197 #[.val (.long q0), .second, .val (.int p1), .val (.int p2), .val (.int p3), .val (.int p4), .val (.int qq0), .val (.int qq1), .val (.int qq2), .val (.int (0 : Int32)), .val (.ref u0), .val (.ref u1), .val (.ref u2), .val (.ref bt), .val (.ref u0), .unset, .unset] [(.ref bt)])
    refine own_callV X163 hx hZ (y := (⟨"com/example/hush5/hush5/search/TupleClasses", "classOf", "()[I"⟩ : MethodName)) hown (hw _ (List.mem_of_getElem? (i := 18) rfl)) (hw _ (List.mem_of_getElem? (i := 19) rfl)) (hw _ (List.mem_of_getElem? (i := 21) rfl)) (hw _ (List.mem_of_getElem? (i := 20) rfl)) (hw _ (List.mem_of_getElem? (i := 5) rfl)) (hw _ (List.mem_of_getElem? (i := 22) rfl)) (by decide) rfl (rm3_c l Z a0 hw [] bt u0 T163.heap n0 Z164 F_classOf_bt) 0 (by decide) (by decide) E_bt (g := (mkF m 197 #[.val (.long q0), .second, .val (.int p1), .val (.int p2), .val (.int p3), .val (.int p4), .val (.int qq0), .val (.int qq1), .val (.int qq2), .val (.int (0 : Int32)), .val (.ref u0), .val (.ref u1), .val (.ref u2), .val (.ref bt), .val (.ref u0), .unset, .unset] [(.ref bt)])) rfl (by rw [hml]; rfl) (argsL := []) (rest := []) pd1 rfl rfl rfl (by show 2 * 0 + _ ≤ _; exact Nat.le_of_eq rfl) (hb hby at_197) (by decide) (by decide) ?_
    intro T165 v165 L165 X165 hQ165
    obtain ⟨rfl, N165q, e165⟩ := hQ165
    have N165 := Fr.app N163 N165q
    show own_Go p e s below _ _ _ T165 (mkF m 200 #[.val (.long q0), .second, .val (.int p1), .val (.int p2), .val (.int p3), .val (.int p4), .val (.int qq0), .val (.int qq1), .val (.int qq2), .val (.int (0 : Int32)), .val (.ref u0), .val (.ref u1), .val (.ref u2), .val (.ref bt), .val (.ref u0), .unset, .unset] [(.ref u0)])
    refine own_st (fun _ k => XS.astore X165.here hx rfl (hb hby at_200) rfl rfl (l' := #[.val (.long q0), .second, .val (.int p1), .val (.int p2), .val (.int p3), .val (.int p4), .val (.int qq0), .val (.int qq1), .val (.int qq2), .val (.int (0 : Int32)), .val (.ref u0), .val (.ref u1), .val (.ref u2), .val (.ref bt), .val (.ref u0), .val (.ref u0), .unset]) rfl k) ?_
    show own_Go p e s below _ _ _ T165 (mkF m 202 #[.val (.long q0), .second, .val (.int p1), .val (.int p2), .val (.int p3), .val (.int p4), .val (.int qq0), .val (.int qq1), .val (.int qq2), .val (.int (0 : Int32)), .val (.ref u0), .val (.ref u1), .val (.ref u2), .val (.ref bt), .val (.ref u0), .val (.ref u0), .unset] [])
    refine own_st (fun _ k => XS.aload X165.here hx rfl (hb hby at_202) rfl rfl k) ?_
    show own_Go p e s below _ _ _ T165 (mkF m 204 #[.val (.long q0), .second, .val (.int p1), .val (.int p2), .val (.int p3), .val (.int p4), .val (.int qq0), .val (.int qq1), .val (.int qq2), .val (.int (0 : Int32)), .val (.ref u0), .val (.ref u1), .val (.ref u2), .val (.ref bt), .val (.ref u0), .val (.ref u0), .unset] [(.ref u0)])
    refine own_st (fun _ k => XS.ifnullNo X165.here hx rfl (hb hby at_204) rfl k) ?_
    show own_Go p e s below _ _ _ T165 (mkF m 207 #[.val (.long q0), .second, .val (.int p1), .val (.int p2), .val (.int p3), .val (.int p4), .val (.int qq0), .val (.int qq1), .val (.int qq2), .val (.int (0 : Int32)), .val (.ref u0), .val (.ref u1), .val (.ref u2), .val (.ref bt), .val (.ref u0), .val (.ref u0), .unset] [])
    refine own_st (fun _ k => XS.aload X165.here hx rfl (hb hby at_207) rfl rfl k) ?_
    show own_Go p e s below _ _ _ T165 (mkF m 209 #[.val (.long q0), .second, .val (.int p1), .val (.int p2), .val (.int p3), .val (.int p4), .val (.int qq0), .val (.int qq1), .val (.int qq2), .val (.int (0 : Int32)), .val (.ref u0), .val (.ref u1), .val (.ref u2), .val (.ref bt), .val (.ref u0), .val (.ref u0), .unset] [(.ref u0)])
    refine own_st (fun _ k => XS.aload X165.here hx rfl (hb hby at_209) rfl rfl k) ?_
    show own_Go p e s below _ _ _ T165 (mkF m 211 #[.val (.long q0), .second, .val (.int p1), .val (.int p2), .val (.int p3), .val (.int p4), .val (.int qq0), .val (.int qq1), .val (.int qq2), .val (.int (0 : Int32)), .val (.ref u0), .val (.ref u1), .val (.ref u2), .val (.ref bt), .val (.ref u0), .val (.ref u0), .unset] [(.ref u0), (.ref u0)])
    refine own_st (fun _ k => Jvm.RoadKit.acmp (g := (mkF m 211 #[.val (.long q0), .second, .val (.int p1), .val (.int p2), .val (.int p3), .val (.int p4), .val (.int qq0), .val (.int qq1), .val (.int qq2), .val (.int (0 : Int32)), .val (.ref u0), .val (.ref u1), .val (.ref u2), .val (.ref bt), .val (.ref u0), .val (.ref u0), .unset] [(.ref u0), (.ref u0)])) X165 hx rfl rfl rfl (pc0 := 211) (pc' := 214) (same := true) rfl (hb hby at_211) rfl (decide_eq_true rfl) (by decide) (by decide) k) ?_
    show own_Go p e s below _ _ _ T165 (mkF m 214 #[.val (.long q0), .second, .val (.int p1), .val (.int p2), .val (.int p3), .val (.int p4), .val (.int qq0), .val (.int qq1), .val (.int qq2), .val (.int (0 : Int32)), .val (.ref u0), .val (.ref u1), .val (.ref u2), .val (.ref bt), .val (.ref u0), .val (.ref u0), .unset] [])
    refine own_st (fun _ k => XS.aload X165.here hx rfl (hb hby at_214) rfl rfl k) ?_
    show own_Go p e s below _ _ _ T165 (mkF m 216 #[.val (.long q0), .second, .val (.int p1), .val (.int p2), .val (.int p3), .val (.int p4), .val (.int qq0), .val (.int qq1), .val (.int qq2), .val (.int (0 : Int32)), .val (.ref u0), .val (.ref u1), .val (.ref u2), .val (.ref bt), .val (.ref u0), .val (.ref u0), .unset] [(.ref u0)])
    refine own_st (own_len X165 hx hZ e165 V_u0 (g := (mkF m 216 #[.val (.long q0), .second, .val (.int p1), .val (.int p2), .val (.int p3), .val (.int p4), .val (.int qq0), .val (.int qq1), .val (.int qq2), .val (.int (0 : Int32)), .val (.ref u0), .val (.ref u1), .val (.ref u2), .val (.ref bt), .val (.ref u0), .val (.ref u0), .unset] [(.ref u0)])) rfl rfl (hb hby at_216)) ?_
    show own_Go p e s below _ _ _ T165 (mkF m 217 #[.val (.long q0), .second, .val (.int p1), .val (.int p2), .val (.int p3), .val (.int p4), .val (.int qq0), .val (.int qq1), .val (.int qq2), .val (.int (0 : Int32)), .val (.ref u0), .val (.ref u1), .val (.ref u2), .val (.ref bt), .val (.ref u0), .val (.ref u0), .unset] [(.int (3 : Int32))])
    refine own_st (fun _ k => XS.iconst X165.here hx rfl (hb hby at_217) k) ?_
    show own_Go p e s below _ _ _ T165 (mkF m 218 #[.val (.long q0), .second, .val (.int p1), .val (.int p2), .val (.int p3), .val (.int p4), .val (.int qq0), .val (.int qq1), .val (.int qq2), .val (.int (0 : Int32)), .val (.ref u0), .val (.ref u1), .val (.ref u2), .val (.ref bt), .val (.ref u0), .val (.ref u0), .unset] [(.int (3 : Int32)), (.int (3 : Int32))])
    refine own_st (fun _ k => XS.icmpYes X165.here hx rfl (pc0 := 218) (pc' := 223) rfl (hb hby at_218) rfl (by decide) (by decide) (by decide) k) ?_
    show own_Go p e s below _ _ _ T165 (mkF m 223 #[.val (.long q0), .second, .val (.int p1), .val (.int p2), .val (.int p3), .val (.int p4), .val (.int qq0), .val (.int qq1), .val (.int qq2), .val (.int (0 : Int32)), .val (.ref u0), .val (.ref u1), .val (.ref u2), .val (.ref bt), .val (.ref u0), .val (.ref u0), .unset] [])
    refine own_st (fun _ k => XS.aload X165.here hx rfl (hb hby at_223) rfl rfl k) ?_
    show own_Go p e s below _ _ _ T165 (mkF m 225 #[.val (.long q0), .second, .val (.int p1), .val (.int p2), .val (.int p3), .val (.int p4), .val (.int qq0), .val (.int qq1), .val (.int qq2), .val (.int (0 : Int32)), .val (.ref u0), .val (.ref u1), .val (.ref u2), .val (.ref bt), .val (.ref u0), .val (.ref u0), .unset] [(.ref u1)])
    refine own_st (fun _ k => XS.iconst X165.here hx rfl (hb hby at_225) k) ?_
    show own_Go p e s below _ _ _ T165 (mkF m 226 #[.val (.long q0), .second, .val (.int p1), .val (.int p2), .val (.int p3), .val (.int p4), .val (.int qq0), .val (.int qq1), .val (.int qq2), .val (.int (0 : Int32)), .val (.ref u0), .val (.ref u1), .val (.ref u2), .val (.ref bt), .val (.ref u0), .val (.ref u0), .unset] [(.int (0 : Int32)), (.ref u1)])
    refine own_st (own_ldI X165 hx hZ e165 V_u1 (j := (0 : Int32)) (x := p1) ⟨by decide, by decide⟩ rfl (g := (mkF m 226 #[.val (.long q0), .second, .val (.int p1), .val (.int p2), .val (.int p3), .val (.int p4), .val (.int qq0), .val (.int qq1), .val (.int qq2), .val (.int (0 : Int32)), .val (.ref u0), .val (.ref u1), .val (.ref u2), .val (.ref bt), .val (.ref u0), .val (.ref u0), .unset] [(.int (0 : Int32)), (.ref u1)])) rfl rfl (hb hby at_226)) ?_
    show own_Go p e s below _ _ _ T165 (mkF m 227 #[.val (.long q0), .second, .val (.int p1), .val (.int p2), .val (.int p3), .val (.int p4), .val (.int qq0), .val (.int qq1), .val (.int qq2), .val (.int (0 : Int32)), .val (.ref u0), .val (.ref u1), .val (.ref u2), .val (.ref bt), .val (.ref u0), .val (.ref u0), .unset] [(.int p1)])
    refine own_st (fun _ k => XS.iloadN X165.here hx rfl (hb hby at_227) rfl k) ?_
    show own_Go p e s below _ _ _ T165 (mkF m 228 #[.val (.long q0), .second, .val (.int p1), .val (.int p2), .val (.int p3), .val (.int p4), .val (.int qq0), .val (.int qq1), .val (.int qq2), .val (.int (0 : Int32)), .val (.ref u0), .val (.ref u1), .val (.ref u2), .val (.ref bt), .val (.ref u0), .val (.ref u0), .unset] [(.int p1), (.int p1)])
    refine own_st (fun _ k => XS.icmpNo X165.here hx rfl (hb hby at_228) rfl (teq (rfl : p1 = p1)).2 k) ?_
    show own_Go p e s below _ _ _ T165 (mkF m 231 #[.val (.long q0), .second, .val (.int p1), .val (.int p2), .val (.int p3), .val (.int p4), .val (.int qq0), .val (.int qq1), .val (.int qq2), .val (.int (0 : Int32)), .val (.ref u0), .val (.ref u1), .val (.ref u2), .val (.ref bt), .val (.ref u0), .val (.ref u0), .unset] [])
    refine own_st (fun _ k => XS.aload X165.here hx rfl (hb hby at_231) rfl rfl k) ?_
    show own_Go p e s below _ _ _ T165 (mkF m 233 #[.val (.long q0), .second, .val (.int p1), .val (.int p2), .val (.int p3), .val (.int p4), .val (.int qq0), .val (.int qq1), .val (.int qq2), .val (.int (0 : Int32)), .val (.ref u0), .val (.ref u1), .val (.ref u2), .val (.ref bt), .val (.ref u0), .val (.ref u0), .unset] [(.ref u1)])
    refine own_st (fun _ k => XS.iconst X165.here hx rfl (hb hby at_233) k) ?_
    show own_Go p e s below _ _ _ T165 (mkF m 234 #[.val (.long q0), .second, .val (.int p1), .val (.int p2), .val (.int p3), .val (.int p4), .val (.int qq0), .val (.int qq1), .val (.int qq2), .val (.int (0 : Int32)), .val (.ref u0), .val (.ref u1), .val (.ref u2), .val (.ref bt), .val (.ref u0), .val (.ref u0), .unset] [(.int (1 : Int32)), (.ref u1)])
    refine own_st (own_ldI X165 hx hZ e165 V_u1 (j := (1 : Int32)) (x := p2) ⟨by decide, by decide⟩ rfl (g := (mkF m 234 #[.val (.long q0), .second, .val (.int p1), .val (.int p2), .val (.int p3), .val (.int p4), .val (.int qq0), .val (.int qq1), .val (.int qq2), .val (.int (0 : Int32)), .val (.ref u0), .val (.ref u1), .val (.ref u2), .val (.ref bt), .val (.ref u0), .val (.ref u0), .unset] [(.int (1 : Int32)), (.ref u1)])) rfl rfl (hb hby at_234)) ?_
    show own_Go p e s below _ _ _ T165 (mkF m 235 #[.val (.long q0), .second, .val (.int p1), .val (.int p2), .val (.int p3), .val (.int p4), .val (.int qq0), .val (.int qq1), .val (.int qq2), .val (.int (0 : Int32)), .val (.ref u0), .val (.ref u1), .val (.ref u2), .val (.ref bt), .val (.ref u0), .val (.ref u0), .unset] [(.int p2)])
    refine own_st (fun _ k => XS.iloadN X165.here hx rfl (hb hby at_235) rfl k) ?_
    show own_Go p e s below _ _ _ T165 (mkF m 236 #[.val (.long q0), .second, .val (.int p1), .val (.int p2), .val (.int p3), .val (.int p4), .val (.int qq0), .val (.int qq1), .val (.int qq2), .val (.int (0 : Int32)), .val (.ref u0), .val (.ref u1), .val (.ref u2), .val (.ref bt), .val (.ref u0), .val (.ref u0), .unset] [(.int p2), (.int p2)])
    refine own_st (fun _ k => XS.icmpNo X165.here hx rfl (hb hby at_236) rfl (teq (rfl : p2 = p2)).2 k) ?_
    show own_Go p e s below _ _ _ T165 (mkF m 239 #[.val (.long q0), .second, .val (.int p1), .val (.int p2), .val (.int p3), .val (.int p4), .val (.int qq0), .val (.int qq1), .val (.int qq2), .val (.int (0 : Int32)), .val (.ref u0), .val (.ref u1), .val (.ref u2), .val (.ref bt), .val (.ref u0), .val (.ref u0), .unset] [])
    refine own_st (fun _ k => XS.aload X165.here hx rfl (hb hby at_239) rfl rfl k) ?_
    show own_Go p e s below _ _ _ T165 (mkF m 241 #[.val (.long q0), .second, .val (.int p1), .val (.int p2), .val (.int p3), .val (.int p4), .val (.int qq0), .val (.int qq1), .val (.int qq2), .val (.int (0 : Int32)), .val (.ref u0), .val (.ref u1), .val (.ref u2), .val (.ref bt), .val (.ref u0), .val (.ref u0), .unset] [(.ref u1)])
    refine own_st (fun _ k => XS.iconst X165.here hx rfl (hb hby at_241) k) ?_
    show own_Go p e s below _ _ _ T165 (mkF m 242 #[.val (.long q0), .second, .val (.int p1), .val (.int p2), .val (.int p3), .val (.int p4), .val (.int qq0), .val (.int qq1), .val (.int qq2), .val (.int (0 : Int32)), .val (.ref u0), .val (.ref u1), .val (.ref u2), .val (.ref bt), .val (.ref u0), .val (.ref u0), .unset] [(.int (2 : Int32)), (.ref u1)])
    refine own_st (own_ldI X165 hx hZ e165 V_u1 (j := (2 : Int32)) (x := p3) ⟨by decide, by decide⟩ rfl (g := (mkF m 242 #[.val (.long q0), .second, .val (.int p1), .val (.int p2), .val (.int p3), .val (.int p4), .val (.int qq0), .val (.int qq1), .val (.int qq2), .val (.int (0 : Int32)), .val (.ref u0), .val (.ref u1), .val (.ref u2), .val (.ref bt), .val (.ref u0), .val (.ref u0), .unset] [(.int (2 : Int32)), (.ref u1)])) rfl rfl (hb hby at_242)) ?_
    show own_Go p e s below _ _ _ T165 (mkF m 243 #[.val (.long q0), .second, .val (.int p1), .val (.int p2), .val (.int p3), .val (.int p4), .val (.int qq0), .val (.int qq1), .val (.int qq2), .val (.int (0 : Int32)), .val (.ref u0), .val (.ref u1), .val (.ref u2), .val (.ref bt), .val (.ref u0), .val (.ref u0), .unset] [(.int p3)])
    refine own_st (fun _ k => XS.iload X165.here hx rfl (hb hby at_243) rfl k) ?_
    show own_Go p e s below _ _ _ T165 (mkF m 245 #[.val (.long q0), .second, .val (.int p1), .val (.int p2), .val (.int p3), .val (.int p4), .val (.int qq0), .val (.int qq1), .val (.int qq2), .val (.int (0 : Int32)), .val (.ref u0), .val (.ref u1), .val (.ref u2), .val (.ref bt), .val (.ref u0), .val (.ref u0), .unset] [(.int p3), (.int p3)])
    refine own_st (fun _ k => XS.icmpYes X165.here hx rfl (pc0 := 245) (pc' := 250) rfl (hb hby at_245) rfl (teq (rfl : p3 = p3)).1 (by decide) (by decide) k) ?_
    show own_Go p e s below _ _ _ T165 (mkF m 250 #[.val (.long q0), .second, .val (.int p1), .val (.int p2), .val (.int p3), .val (.int p4), .val (.int qq0), .val (.int qq1), .val (.int qq2), .val (.int (0 : Int32)), .val (.ref u0), .val (.ref u1), .val (.ref u2), .val (.ref bt), .val (.ref u0), .val (.ref u0), .unset] [])
    refine own_st (fun _ k => XS.iload X165.here hx rfl (hb hby at_250) rfl k) ?_
    show own_Go p e s below _ _ _ T165 (mkF m 252 #[.val (.long q0), .second, .val (.int p1), .val (.int p2), .val (.int p3), .val (.int p4), .val (.int qq0), .val (.int qq1), .val (.int qq2), .val (.int (0 : Int32)), .val (.ref u0), .val (.ref u1), .val (.ref u2), .val (.ref bt), .val (.ref u0), .val (.ref u0), .unset] [(.int (0 : Int32))])
    refine own_st (fun _ k => XS.ifNo X165.here hx rfl (hb hby at_252) rfl (by decide) k) ?_
    show own_Go p e s below _ _ _ T165 (mkF m 255 #[.val (.long q0), .second, .val (.int p1), .val (.int p2), .val (.int p3), .val (.int p4), .val (.int qq0), .val (.int qq1), .val (.int qq2), .val (.int (0 : Int32)), .val (.ref u0), .val (.ref u1), .val (.ref u2), .val (.ref bt), .val (.ref u0), .val (.ref u0), .unset] [])
    refine own_st (fun _ k => XS.aload X165.here hx rfl (hb hby at_255) rfl rfl k) ?_
    show own_Go p e s below _ _ _ T165 (mkF m 257 #[.val (.long q0), .second, .val (.int p1), .val (.int p2), .val (.int p3), .val (.int p4), .val (.int qq0), .val (.int qq1), .val (.int qq2), .val (.int (0 : Int32)), .val (.ref u0), .val (.ref u1), .val (.ref u2), .val (.ref bt), .val (.ref u0), .val (.ref u0), .unset] [(.ref u0)])
    refine own_st (fun _ k => XS.aload X165.here hx rfl (hb hby at_257) rfl rfl k) ?_
    show own_Go p e s below _ _ _ T165 (mkF m 259 #[.val (.long q0), .second, .val (.int p1), .val (.int p2), .val (.int p3), .val (.int p4), .val (.int qq0), .val (.int qq1), .val (.int qq2), .val (.int (0 : Int32)), .val (.ref u0), .val (.ref u1), .val (.ref u2), .val (.ref bt), .val (.ref u0), .val (.ref u0), .unset] [(.ref u0), (.ref u0)])
    refine own_st (fun _ k => Jvm.RoadKit.acmp (g := (mkF m 259 #[.val (.long q0), .second, .val (.int p1), .val (.int p2), .val (.int p3), .val (.int p4), .val (.int qq0), .val (.int qq1), .val (.int qq2), .val (.int (0 : Int32)), .val (.ref u0), .val (.ref u1), .val (.ref u2), .val (.ref bt), .val (.ref u0), .val (.ref u0), .unset] [(.ref u0), (.ref u0)])) X165 hx rfl rfl rfl (pc0 := 259) (pc' := 262) (same := true) rfl (hb hby at_259) rfl (decide_eq_true rfl) (by decide) (by decide) k) ?_
    show own_Go p e s below _ _ _ T165 (mkF m 262 #[.val (.long q0), .second, .val (.int p1), .val (.int p2), .val (.int p3), .val (.int p4), .val (.int qq0), .val (.int qq1), .val (.int qq2), .val (.int (0 : Int32)), .val (.ref u0), .val (.ref u1), .val (.ref u2), .val (.ref bt), .val (.ref u0), .val (.ref u0), .unset] [])
    refine own_st (fun _ k => XS.aload X165.here hx rfl (hb hby at_262) rfl rfl k) ?_
    show own_Go p e s below _ _ _ T165 (mkF m 264 #[.val (.long q0), .second, .val (.int p1), .val (.int p2), .val (.int p3), .val (.int p4), .val (.int qq0), .val (.int qq1), .val (.int qq2), .val (.int (0 : Int32)), .val (.ref u0), .val (.ref u1), .val (.ref u2), .val (.ref bt), .val (.ref u0), .val (.ref u0), .unset] [(.ref u0)])
    refine own_st (fun _ k => XS.iconst X165.here hx rfl (hb hby at_264) k) ?_
    show own_Go p e s below _ _ _ T165 (mkF m 265 #[.val (.long q0), .second, .val (.int p1), .val (.int p2), .val (.int p3), .val (.int p4), .val (.int qq0), .val (.int qq1), .val (.int qq2), .val (.int (0 : Int32)), .val (.ref u0), .val (.ref u1), .val (.ref u2), .val (.ref bt), .val (.ref u0), .val (.ref u0), .unset] [(.int (0 : Int32)), (.ref u0)])
    refine own_st (own_ldI X165 hx hZ e165 V_u0 (j := (0 : Int32)) (x := qq0) ⟨by decide, by decide⟩ rfl (g := (mkF m 265 #[.val (.long q0), .second, .val (.int p1), .val (.int p2), .val (.int p3), .val (.int p4), .val (.int qq0), .val (.int qq1), .val (.int qq2), .val (.int (0 : Int32)), .val (.ref u0), .val (.ref u1), .val (.ref u2), .val (.ref bt), .val (.ref u0), .val (.ref u0), .unset] [(.int (0 : Int32)), (.ref u0)])) rfl rfl (hb hby at_265)) ?_
    show own_Go p e s below _ _ _ T165 (mkF m 266 #[.val (.long q0), .second, .val (.int p1), .val (.int p2), .val (.int p3), .val (.int p4), .val (.int qq0), .val (.int qq1), .val (.int qq2), .val (.int (0 : Int32)), .val (.ref u0), .val (.ref u1), .val (.ref u2), .val (.ref bt), .val (.ref u0), .val (.ref u0), .unset] [(.int qq0)])
    refine own_st (fun _ k => XS.iload X165.here hx rfl (hb hby at_266) rfl k) ?_
    show own_Go p e s below _ _ _ T165 (mkF m 268 #[.val (.long q0), .second, .val (.int p1), .val (.int p2), .val (.int p3), .val (.int p4), .val (.int qq0), .val (.int qq1), .val (.int qq2), .val (.int (0 : Int32)), .val (.ref u0), .val (.ref u1), .val (.ref u2), .val (.ref bt), .val (.ref u0), .val (.ref u0), .unset] [(.int qq0), (.int qq0)])
    refine own_st (fun _ k => XS.icmpNo X165.here hx rfl (hb hby at_268) rfl (teq (rfl : qq0 = qq0)).2 k) ?_
    show own_Go p e s below _ _ _ T165 (mkF m 271 #[.val (.long q0), .second, .val (.int p1), .val (.int p2), .val (.int p3), .val (.int p4), .val (.int qq0), .val (.int qq1), .val (.int qq2), .val (.int (0 : Int32)), .val (.ref u0), .val (.ref u1), .val (.ref u2), .val (.ref bt), .val (.ref u0), .val (.ref u0), .unset] [])
    refine own_st (fun _ k => XS.aload X165.here hx rfl (hb hby at_271) rfl rfl k) ?_
    show own_Go p e s below _ _ _ T165 (mkF m 273 #[.val (.long q0), .second, .val (.int p1), .val (.int p2), .val (.int p3), .val (.int p4), .val (.int qq0), .val (.int qq1), .val (.int qq2), .val (.int (0 : Int32)), .val (.ref u0), .val (.ref u1), .val (.ref u2), .val (.ref bt), .val (.ref u0), .val (.ref u0), .unset] [(.ref u0)])
    refine own_st (fun _ k => XS.iconst X165.here hx rfl (hb hby at_273) k) ?_
    show own_Go p e s below _ _ _ T165 (mkF m 274 #[.val (.long q0), .second, .val (.int p1), .val (.int p2), .val (.int p3), .val (.int p4), .val (.int qq0), .val (.int qq1), .val (.int qq2), .val (.int (0 : Int32)), .val (.ref u0), .val (.ref u1), .val (.ref u2), .val (.ref bt), .val (.ref u0), .val (.ref u0), .unset] [(.int (1 : Int32)), (.ref u0)])
    refine own_st (own_ldI X165 hx hZ e165 V_u0 (j := (1 : Int32)) (x := qq1) ⟨by decide, by decide⟩ rfl (g := (mkF m 274 #[.val (.long q0), .second, .val (.int p1), .val (.int p2), .val (.int p3), .val (.int p4), .val (.int qq0), .val (.int qq1), .val (.int qq2), .val (.int (0 : Int32)), .val (.ref u0), .val (.ref u1), .val (.ref u2), .val (.ref bt), .val (.ref u0), .val (.ref u0), .unset] [(.int (1 : Int32)), (.ref u0)])) rfl rfl (hb hby at_274)) ?_
    show own_Go p e s below _ _ _ T165 (mkF m 275 #[.val (.long q0), .second, .val (.int p1), .val (.int p2), .val (.int p3), .val (.int p4), .val (.int qq0), .val (.int qq1), .val (.int qq2), .val (.int (0 : Int32)), .val (.ref u0), .val (.ref u1), .val (.ref u2), .val (.ref bt), .val (.ref u0), .val (.ref u0), .unset] [(.int qq1)])
    refine own_st (fun _ k => XS.iload X165.here hx rfl (hb hby at_275) rfl k) ?_
    show own_Go p e s below _ _ _ T165 (mkF m 277 #[.val (.long q0), .second, .val (.int p1), .val (.int p2), .val (.int p3), .val (.int p4), .val (.int qq0), .val (.int qq1), .val (.int qq2), .val (.int (0 : Int32)), .val (.ref u0), .val (.ref u1), .val (.ref u2), .val (.ref bt), .val (.ref u0), .val (.ref u0), .unset] [(.int qq1), (.int qq1)])
    refine own_st (fun _ k => XS.icmpNo X165.here hx rfl (hb hby at_277) rfl (teq (rfl : qq1 = qq1)).2 k) ?_
    show own_Go p e s below _ _ _ T165 (mkF m 280 #[.val (.long q0), .second, .val (.int p1), .val (.int p2), .val (.int p3), .val (.int p4), .val (.int qq0), .val (.int qq1), .val (.int qq2), .val (.int (0 : Int32)), .val (.ref u0), .val (.ref u1), .val (.ref u2), .val (.ref bt), .val (.ref u0), .val (.ref u0), .unset] [])
    refine own_st (fun _ k => XS.aload X165.here hx rfl (hb hby at_280) rfl rfl k) ?_
    show own_Go p e s below _ _ _ T165 (mkF m 282 #[.val (.long q0), .second, .val (.int p1), .val (.int p2), .val (.int p3), .val (.int p4), .val (.int qq0), .val (.int qq1), .val (.int qq2), .val (.int (0 : Int32)), .val (.ref u0), .val (.ref u1), .val (.ref u2), .val (.ref bt), .val (.ref u0), .val (.ref u0), .unset] [(.ref u0)])
    refine own_st (fun _ k => XS.iconst X165.here hx rfl (hb hby at_282) k) ?_
    show own_Go p e s below _ _ _ T165 (mkF m 283 #[.val (.long q0), .second, .val (.int p1), .val (.int p2), .val (.int p3), .val (.int p4), .val (.int qq0), .val (.int qq1), .val (.int qq2), .val (.int (0 : Int32)), .val (.ref u0), .val (.ref u1), .val (.ref u2), .val (.ref bt), .val (.ref u0), .val (.ref u0), .unset] [(.int (2 : Int32)), (.ref u0)])
    refine own_st (own_ldI X165 hx hZ e165 V_u0 (j := (2 : Int32)) (x := qq2) ⟨by decide, by decide⟩ rfl (g := (mkF m 283 #[.val (.long q0), .second, .val (.int p1), .val (.int p2), .val (.int p3), .val (.int p4), .val (.int qq0), .val (.int qq1), .val (.int qq2), .val (.int (0 : Int32)), .val (.ref u0), .val (.ref u1), .val (.ref u2), .val (.ref bt), .val (.ref u0), .val (.ref u0), .unset] [(.int (2 : Int32)), (.ref u0)])) rfl rfl (hb hby at_283)) ?_
    show own_Go p e s below _ _ _ T165 (mkF m 284 #[.val (.long q0), .second, .val (.int p1), .val (.int p2), .val (.int p3), .val (.int p4), .val (.int qq0), .val (.int qq1), .val (.int qq2), .val (.int (0 : Int32)), .val (.ref u0), .val (.ref u1), .val (.ref u2), .val (.ref bt), .val (.ref u0), .val (.ref u0), .unset] [(.int qq2)])
    refine own_st (fun _ k => XS.iload X165.here hx rfl (hb hby at_284) rfl k) ?_
    show own_Go p e s below _ _ _ T165 (mkF m 286 #[.val (.long q0), .second, .val (.int p1), .val (.int p2), .val (.int p3), .val (.int p4), .val (.int qq0), .val (.int qq1), .val (.int qq2), .val (.int (0 : Int32)), .val (.ref u0), .val (.ref u1), .val (.ref u2), .val (.ref bt), .val (.ref u0), .val (.ref u0), .unset] [(.int qq2), (.int qq2)])
    refine own_st (fun _ k => XS.icmpNo X165.here hx rfl (hb hby at_286) rfl (teq (rfl : qq2 = qq2)).2 k) ?_
    show own_Go p e s below _ _ _ T165 (mkF m 289 #[.val (.long q0), .second, .val (.int p1), .val (.int p2), .val (.int p3), .val (.int p4), .val (.int qq0), .val (.int qq1), .val (.int qq2), .val (.int (0 : Int32)), .val (.ref u0), .val (.ref u1), .val (.ref u2), .val (.ref bt), .val (.ref u0), .val (.ref u0), .unset] [])
    refine own_st (fun _ k => XS.iconst X165.here hx rfl (hb hby at_289) k) ?_
    show own_Go p e s below _ _ _ T165 (mkF m 290 #[.val (.long q0), .second, .val (.int p1), .val (.int p2), .val (.int p3), .val (.int p4), .val (.int qq0), .val (.int qq1), .val (.int qq2), .val (.int (0 : Int32)), .val (.ref u0), .val (.ref u1), .val (.ref u2), .val (.ref bt), .val (.ref u0), .val (.ref u0), .unset] [(.int (1 : Int32))])
    refine own_st (fun _ k => XS.goto X165.here hx rfl (pc0 := 290) (pc' := 294) rfl (hb hby at_290) (by decide) (by decide) k) ?_
    show own_Go p e s below _ _ _ T165 (mkF m 294 #[.val (.long q0), .second, .val (.int p1), .val (.int p2), .val (.int p3), .val (.int p4), .val (.int qq0), .val (.int qq1), .val (.int qq2), .val (.int (0 : Int32)), .val (.ref u0), .val (.ref u1), .val (.ref u2), .val (.ref bt), .val (.ref u0), .val (.ref u0), .unset] [(.int (1 : Int32))])
    exact own_retN X165 hx hlk (t := .boolean) hret (by simp) (hb hby at_294) (z' := (1 : Int32)) rfl (by decide) (by decide) ⟨rfl, N165⟩
  · show own_Go p e s below _ _ _ T157 (mkF m 107 #[.val (.long q0), .second, .val (.int p1), .val (.int p2), .val (.int p3), .val (.int p4), .val (.int qq0), .val (.int qq1), .val (.int qq2), .val (.int (1 : Int32)), .val (.ref u0), .val (.ref u1), .val (.ref u2), .unset, .unset, .unset, .unset] [(.int (1 : Int32))])
    refine own_st (fun _ k => XS.ifYes X157.here hx rfl (pc0 := 107) (pc' := 126) rfl (hb hby at_107) rfl (by decide) (by decide) (by decide) k) ?_
    show own_Go p e s below _ _ _ T157 (mkF m 126 #[.val (.long q0), .second, .val (.int p1), .val (.int p2), .val (.int p3), .val (.int p4), .val (.int qq0), .val (.int qq1), .val (.int qq2), .val (.int (1 : Int32)), .val (.ref u0), .val (.ref u1), .val (.ref u2), .unset, .unset, .unset, .unset] [])
    refine own_st (fun _ k => XS.iload X157.here hx rfl (hb hby at_126) rfl k) ?_
    show own_Go p e s below _ _ _ T157 (mkF m 128 #[.val (.long q0), .second, .val (.int p1), .val (.int p2), .val (.int p3), .val (.int p4), .val (.int qq0), .val (.int qq1), .val (.int qq2), .val (.int (1 : Int32)), .val (.ref u0), .val (.ref u1), .val (.ref u2), .unset, .unset, .unset, .unset] [(.int (1 : Int32))])
    refine own_st (fun _ k => XS.iconst X157.here hx rfl (hb hby at_128) k) ?_
    show own_Go p e s below _ _ _ T157 (mkF m 129 #[.val (.long q0), .second, .val (.int p1), .val (.int p2), .val (.int p3), .val (.int p4), .val (.int qq0), .val (.int qq1), .val (.int qq2), .val (.int (1 : Int32)), .val (.ref u0), .val (.ref u1), .val (.ref u2), .unset, .unset, .unset, .unset] [(.int (1 : Int32)), (.int (1 : Int32))])
    refine own_st (fun _ k => XS.icmpNo X157.here hx rfl (hb hby at_129) rfl (by decide) k) ?_
    show own_Go p e s below _ _ _ T157 (mkF m 132 #[.val (.long q0), .second, .val (.int p1), .val (.int p2), .val (.int p3), .val (.int p4), .val (.int qq0), .val (.int qq1), .val (.int qq2), .val (.int (1 : Int32)), .val (.ref u0), .val (.ref u1), .val (.ref u2), .unset, .unset, .unset, .unset] [])
    obtain ⟨T166, h166, X166, e166, E166, A166, D166, -, st166⟩ := newO X157 hx hZ hown (hw _ (List.mem_of_getElem? (i := 3) rfl)) (hw _ (List.mem_of_getElem? (i := 4) rfl)) (hw _ (List.mem_of_getElem? (i := 5) rfl)) e157 (g := (mkF m 132 #[.val (.long q0), .second, .val (.int p1), .val (.int p2), .val (.int p3), .val (.int p4), .val (.int qq0), .val (.int qq1), .val (.int qq2), .val (.int (1 : Int32)), .val (.ref u0), .val (.ref u1), .val (.ref u2), .unset, .unset, .unset, .unset] [])) rfl (hb hby at_132) (by decide) (by decide)
    obtain ⟨bt, g166⟩ : ∃ z, z = h157.size := ⟨_, rfl⟩
    rw [← g166] at A166 D166 st166
    have g_bt : n0 ≤ bt := Nat.le_trans Z158 (Nat.le_of_eq g166.symm)
    have ne_u0_bt : u0 ≠ bt := Nat.ne_of_lt (Nat.lt_of_lt_of_le E_u0.lt (Nat.le_of_eq g166.symm))
    have ne_bt_u0 := Ne.symm ne_u0_bt
    have ne_u1_bt : u1 ≠ bt := Nat.ne_of_lt (Nat.lt_of_lt_of_le E_u1.lt (Nat.le_of_eq g166.symm))
    have ne_bt_u1 := Ne.symm ne_u1_bt
    have ne_u2_bt : u2 ≠ bt := Nat.ne_of_lt (Nat.lt_of_lt_of_le E_u2.lt (Nat.le_of_eq g166.symm))
    have ne_bt_u2 := Ne.symm ne_u2_bt
    replace E_u0 := E_u0.ext E166
    replace V_u0 := V_u0.ext E166
    replace E_u1 := E_u1.ext E166
    replace V_u1 := V_u1.ext E166
    replace E_u2 := E_u2.ext E166
    replace V_u2 := V_u2.ext E166
    have Z167 := Nat.le_trans Z158 E166.1
    have E_bt := A166
    have F_partOf_bt : Fld Z h166 bt "com/example/hush5/hush5/search/TupleClasses" "partOf" "[I" .null := D166 (Or.inr (hw _ (List.mem_of_getElem? (i := 13) rfl))) (ty := (.array .int)) (by decide)
    have F_classOfPart_bt : Fld Z h166 bt "com/example/hush5/hush5/search/TupleClasses" "classOfPart" "[I" .null := D166 (Or.inr (hw _ (List.mem_of_getElem? (i := 15) rfl))) (ty := (.array .int)) (by decide)
    have F_target_bt : Fld Z h166 bt "com/example/hush5/hush5/search/TupleClasses" "target" "[I" .null := D166 (Or.inr (hw _ (List.mem_of_getElem? (i := 17) rfl))) (ty := (.array .int)) (by decide)
    have F_classOf_bt : Fld Z h166 bt "com/example/hush5/hush5/search/TupleClasses" "classOf" "[I" .null := D166 (Or.inl (hw _ (List.mem_of_getElem? (i := 24) rfl))) (ty := (.array .int)) (by decide)
    refine own_st st166 ?_
    show own_Go p e s below _ _ _ T166 (mkF m 135 #[.val (.long q0), .second, .val (.int p1), .val (.int p2), .val (.int p3), .val (.int p4), .val (.int qq0), .val (.int qq1), .val (.int qq2), .val (.int (1 : Int32)), .val (.ref u0), .val (.ref u1), .val (.ref u2), .unset, .unset, .unset, .unset] [(.ref bt)])
    refine own_st (fun _ k => XS.dup X166.here hx rfl (hb hby at_135) rfl rfl k) ?_
    show own_Go p e s below _ _ _ T166 (mkF m 136 #[.val (.long q0), .second, .val (.int p1), .val (.int p2), .val (.int p3), .val (.int p4), .val (.int qq0), .val (.int qq1), .val (.int qq2), .val (.int (1 : Int32)), .val (.ref u0), .val (.ref u1), .val (.ref u2), .unset, .unset, .unset, .unset] [(.ref bt), (.ref bt)])
    refine own_st (fun _ k => XS.aload X166.here hx rfl (hb hby at_136) rfl rfl k) ?_
    show own_Go p e s below _ _ _ T166 (mkF m 138 #[.val (.long q0), .second, .val (.int p1), .val (.int p2), .val (.int p3), .val (.int p4), .val (.int qq0), .val (.int qq1), .val (.int qq2), .val (.int (1 : Int32)), .val (.ref u0), .val (.ref u1), .val (.ref u2), .unset, .unset, .unset, .unset] [(.ref u0), (.ref bt), (.ref bt)])
    refine own_st (fun _ k => XS.aload X166.here hx rfl (hb hby at_138) rfl rfl k) ?_
    show own_Go p e s below _ _ _ T166 (mkF m 140 #[.val (.long q0), .second, .val (.int p1), .val (.int p2), .val (.int p3), .val (.int p4), .val (.int qq0), .val (.int qq1), .val (.int qq2), .val (.int (1 : Int32)), .val (.ref u0), .val (.ref u1), .val (.ref u2), .unset, .unset, .unset, .unset] [(.ref u1), (.ref u0), (.ref bt), (.ref bt)])
    refine own_st (fun _ k => XS.aconstNull X166.here hx rfl (hb hby at_140) k) ?_
    show own_Go p e s below _ _ _ T166 (mkF m 141 #[.val (.long q0), .second, .val (.int p1), .val (.int p2), .val (.int p3), .val (.int p4), .val (.int qq0), .val (.int qq1), .val (.int qq2), .val (.int (1 : Int32)), .val (.ref u0), .val (.ref u1), .val (.ref u2), .unset, .unset, .unset, .unset] [.null, (.ref u1), (.ref u0), (.ref bt), (.ref bt)])
    refine own_callN X166 hx hZ (y := (⟨"com/example/hush5/hush5/search/TupleClasses", "<init>", "([I[I[I)V"⟩ : MethodName)) rfl hown (hw _ (List.mem_of_getElem? (i := 6) rfl)) (hw _ (List.mem_of_getElem? (i := 7) rfl)) (hw _ (List.mem_of_getElem? (i := 5) rfl)) (hw _ (List.mem_of_getElem? (i := 8) rfl)) (by decide) e166 (rm1_1 l Z a0 hw [] bt u0 u1 h166 n0 Z167 E_bt F_partOf_bt F_classOfPart_bt F_target_bt F_classOf_bt g_bt) 1 (by decide) (by decide) (g := (mkF m 141 #[.val (.long q0), .second, .val (.int p1), .val (.int p2), .val (.int p3), .val (.int p4), .val (.int qq0), .val (.int qq1), .val (.int qq2), .val (.int (1 : Int32)), .val (.ref u0), .val (.ref u1), .val (.ref u2), .unset, .unset, .unset, .unset] [.null, (.ref u1), (.ref u0), (.ref bt), (.ref bt)])) rfl (by rw [hml]; rfl) (a := bt) (argsL := [(.ref u0), (.ref u1), .null]) (rest := [(.ref bt)]) pd0 rfl rfl rfl (by show 2 * 0 + _ ≤ _; exact Nat.le_of_eq rfl) (hb hby at_141) (by decide) (by decide) ?_
    intro T168 v168 L168 X168 hQ168
    obtain ⟨rfl, N168q, K168q, y168_0, y168_1, y168_2, y168_3, y168_4⟩ := hQ168
    have N168 := Fr.app N157 N168q
    replace E_u0 := E_u0.keep K168q
    replace V_u0 := V_u0.keep K168q (ninS ne_u0_bt nin0)
    replace E_u1 := E_u1.keep K168q
    replace V_u1 := V_u1.keep K168q (ninS ne_u1_bt nin0)
    replace E_u2 := E_u2.keep K168q
    replace V_u2 := V_u2.keep K168q (ninS ne_u2_bt nin0)
    replace E_bt := E_bt.keep K168q
    clear F_partOf_bt
    clear F_classOfPart_bt
    clear F_target_bt
    clear F_classOf_bt
    have Z169 := Nat.le_trans Z167 K168q.1
    have E_bt := y168_0
    have F_partOf_bt := y168_1
    have F_classOfPart_bt := y168_2
    have F_target_bt := y168_3
    have F_classOf_bt := y168_4
    show own_Go p e s below _ _ _ T168 (mkF m 144 #[.val (.long q0), .second, .val (.int p1), .val (.int p2), .val (.int p3), .val (.int p4), .val (.int qq0), .val (.int qq1), .val (.int qq2), .val (.int (1 : Int32)), .val (.ref u0), .val (.ref u1), .val (.ref u2), .unset, .unset, .unset, .unset] [(.ref bt)])
    refine own_st (fun _ k => XS.astore X168.here hx rfl (hb hby at_144) rfl rfl (l' := #[.val (.long q0), .second, .val (.int p1), .val (.int p2), .val (.int p3), .val (.int p4), .val (.int qq0), .val (.int qq1), .val (.int qq2), .val (.int (1 : Int32)), .val (.ref u0), .val (.ref u1), .val (.ref u2), .val (.ref bt), .unset, .unset, .unset]) rfl k) ?_
    show own_Go p e s below _ _ _ T168 (mkF m 146 #[.val (.long q0), .second, .val (.int p1), .val (.int p2), .val (.int p3), .val (.int p4), .val (.int qq0), .val (.int qq1), .val (.int qq2), .val (.int (1 : Int32)), .val (.ref u0), .val (.ref u1), .val (.ref u2), .val (.ref bt), .unset, .unset, .unset] [])
    refine own_st (fun _ k => XS.goto X168.here hx rfl (pc0 := 146) (pc' := 188) rfl (hb hby at_146) (by decide) (by decide) k) ?_
    show own_Go p e s below _ _ _ T168 (mkF m 188 #[.val (.long q0), .second, .val (.int p1), .val (.int p2), .val (.int p3), .val (.int p4), .val (.int qq0), .val (.int qq1), .val (.int qq2), .val (.int (1 : Int32)), .val (.ref u0), .val (.ref u1), .val (.ref u2), .val (.ref bt), .unset, .unset, .unset] [])
    refine own_st (fun _ k => XS.aload X168.here hx rfl (hb hby at_188) rfl rfl k) ?_
    show own_Go p e s below _ _ _ T168 (mkF m 190 #[.val (.long q0), .second, .val (.int p1), .val (.int p2), .val (.int p3), .val (.int p4), .val (.int qq0), .val (.int qq1), .val (.int qq2), .val (.int (1 : Int32)), .val (.ref u0), .val (.ref u1), .val (.ref u2), .val (.ref bt), .unset, .unset, .unset] [(.ref bt)])
    refine own_callV X168 hx hZ (y := (⟨"com/example/hush5/hush5/search/TupleClasses", "classOf", "()[I"⟩ : MethodName)) hown (hw _ (List.mem_of_getElem? (i := 18) rfl)) (hw _ (List.mem_of_getElem? (i := 19) rfl)) (hw _ (List.mem_of_getElem? (i := 21) rfl)) (hw _ (List.mem_of_getElem? (i := 20) rfl)) (hw _ (List.mem_of_getElem? (i := 5) rfl)) (hw _ (List.mem_of_getElem? (i := 22) rfl)) (by decide) rfl (rm3_1 l Z a0 hw [] bt u0 u1 k135 k143 qq0 qq1 qq2 p1 p2 p3 T168.heap n0 Z169 E_bt F_partOf_bt F_classOfPart_bt F_target_bt F_classOf_bt g_bt V_u0 V_u1 ne_bt_u0 ne_u0_bt ne_bt_u1 ne_u1_bt hq0 hq1 hq2) 0 (by decide) (by decide) E_bt (g := (mkF m 190 #[.val (.long q0), .second, .val (.int p1), .val (.int p2), .val (.int p3), .val (.int p4), .val (.int qq0), .val (.int qq1), .val (.int qq2), .val (.int (1 : Int32)), .val (.ref u0), .val (.ref u1), .val (.ref u2), .val (.ref bt), .unset, .unset, .unset] [(.ref bt)])) rfl (by rw [hml]; rfl) (argsL := []) (rest := []) pd1 rfl rfl rfl (by show 2 * 0 + _ ≤ _; exact Nat.le_of_eq rfl) (hb hby at_190) (by decide) (by decide) ?_
    intro T170 v170 L170 X170 hQ170
    obtain ⟨dd, kd, rfl, N170q, K170q, sf_dd, y170_0, y170_1, y170_2⟩ := hQ170
    have N170 := Fr.app N168 N170q
    have g_dd := Nat.le_trans Z169 sf_dd
    have ne_bt_dd : bt ≠ dd := Nat.ne_of_lt (Nat.lt_of_lt_of_le E_bt.lt sf_dd)
    have ne_dd_bt := Ne.symm ne_bt_dd
    have ne_u0_dd : u0 ≠ dd := Nat.ne_of_lt (Nat.lt_of_lt_of_le E_u0.lt sf_dd)
    have ne_dd_u0 := Ne.symm ne_u0_dd
    have ne_u1_dd : u1 ≠ dd := Nat.ne_of_lt (Nat.lt_of_lt_of_le E_u1.lt sf_dd)
    have ne_dd_u1 := Ne.symm ne_u1_dd
    have ne_u2_dd : u2 ≠ dd := Nat.ne_of_lt (Nat.lt_of_lt_of_le E_u2.lt sf_dd)
    have ne_dd_u2 := Ne.symm ne_u2_dd
    replace E_u0 := E_u0.keep K170q
    replace V_u0 := V_u0.keep K170q (ninS ne_u0_bt nin0)
    replace E_u1 := E_u1.keep K170q
    replace V_u1 := V_u1.keep K170q (ninS ne_u1_bt nin0)
    replace E_u2 := E_u2.keep K170q
    replace V_u2 := V_u2.keep K170q (ninS ne_u2_bt nin0)
    replace E_bt := E_bt.keep K170q
    clear F_partOf_bt
    clear F_classOfPart_bt
    clear F_target_bt
    clear F_classOf_bt
    have Z171 := Nat.le_trans Z169 K170q.1
    have E_bt := y170_0
    have F_classOf_bt := y170_1
    have V_dd := y170_2
    show own_Go p e s below _ _ _ T170 (mkF m 193 #[.val (.long q0), .second, .val (.int p1), .val (.int p2), .val (.int p3), .val (.int p4), .val (.int qq0), .val (.int qq1), .val (.int qq2), .val (.int (1 : Int32)), .val (.ref u0), .val (.ref u1), .val (.ref u2), .val (.ref bt), .unset, .unset, .unset] [(.ref dd)])
    refine own_st (fun _ k => XS.astore X170.here hx rfl (hb hby at_193) rfl rfl (l' := #[.val (.long q0), .second, .val (.int p1), .val (.int p2), .val (.int p3), .val (.int p4), .val (.int qq0), .val (.int qq1), .val (.int qq2), .val (.int (1 : Int32)), .val (.ref u0), .val (.ref u1), .val (.ref u2), .val (.ref bt), .val (.ref dd), .unset, .unset]) rfl k) ?_
    show own_Go p e s below _ _ _ T170 (mkF m 195 #[.val (.long q0), .second, .val (.int p1), .val (.int p2), .val (.int p3), .val (.int p4), .val (.int qq0), .val (.int qq1), .val (.int qq2), .val (.int (1 : Int32)), .val (.ref u0), .val (.ref u1), .val (.ref u2), .val (.ref bt), .val (.ref dd), .unset, .unset] [])
    refine own_st (fun _ k => XS.aload X170.here hx rfl (hb hby at_195) rfl rfl k) ?_
    show own_Go p e s below _ _ _ T170 (mkF m 197 #[.val (.long q0), .second, .val (.int p1), .val (.int p2), .val (.int p3), .val (.int p4), .val (.int qq0), .val (.int qq1), .val (.int qq2), .val (.int (1 : Int32)), .val (.ref u0), .val (.ref u1), .val (.ref u2), .val (.ref bt), .val (.ref dd), .unset, .unset] [(.ref bt)])
    refine own_callV X170 hx hZ (y := (⟨"com/example/hush5/hush5/search/TupleClasses", "classOf", "()[I"⟩ : MethodName)) hown (hw _ (List.mem_of_getElem? (i := 18) rfl)) (hw _ (List.mem_of_getElem? (i := 19) rfl)) (hw _ (List.mem_of_getElem? (i := 21) rfl)) (hw _ (List.mem_of_getElem? (i := 20) rfl)) (hw _ (List.mem_of_getElem? (i := 5) rfl)) (hw _ (List.mem_of_getElem? (i := 22) rfl)) (by decide) rfl (rm3_c l Z a0 hw [] bt dd T170.heap n0 Z171 F_classOf_bt) 0 (by decide) (by decide) E_bt (g := (mkF m 197 #[.val (.long q0), .second, .val (.int p1), .val (.int p2), .val (.int p3), .val (.int p4), .val (.int qq0), .val (.int qq1), .val (.int qq2), .val (.int (1 : Int32)), .val (.ref u0), .val (.ref u1), .val (.ref u2), .val (.ref bt), .val (.ref dd), .unset, .unset] [(.ref bt)])) rfl (by rw [hml]; rfl) (argsL := []) (rest := []) pd1 rfl rfl rfl (by show 2 * 0 + _ ≤ _; exact Nat.le_of_eq rfl) (hb hby at_197) (by decide) (by decide) ?_
    intro T172 v172 L172 X172 hQ172
    obtain ⟨rfl, N172q, e172⟩ := hQ172
    have N172 := Fr.app N170 N172q
    show own_Go p e s below _ _ _ T172 (mkF m 200 #[.val (.long q0), .second, .val (.int p1), .val (.int p2), .val (.int p3), .val (.int p4), .val (.int qq0), .val (.int qq1), .val (.int qq2), .val (.int (1 : Int32)), .val (.ref u0), .val (.ref u1), .val (.ref u2), .val (.ref bt), .val (.ref dd), .unset, .unset] [(.ref dd)])
    refine own_st (fun _ k => XS.astore X172.here hx rfl (hb hby at_200) rfl rfl (l' := #[.val (.long q0), .second, .val (.int p1), .val (.int p2), .val (.int p3), .val (.int p4), .val (.int qq0), .val (.int qq1), .val (.int qq2), .val (.int (1 : Int32)), .val (.ref u0), .val (.ref u1), .val (.ref u2), .val (.ref bt), .val (.ref dd), .val (.ref dd), .unset]) rfl k) ?_
    show own_Go p e s below _ _ _ T172 (mkF m 202 #[.val (.long q0), .second, .val (.int p1), .val (.int p2), .val (.int p3), .val (.int p4), .val (.int qq0), .val (.int qq1), .val (.int qq2), .val (.int (1 : Int32)), .val (.ref u0), .val (.ref u1), .val (.ref u2), .val (.ref bt), .val (.ref dd), .val (.ref dd), .unset] [])
    refine own_st (fun _ k => XS.aload X172.here hx rfl (hb hby at_202) rfl rfl k) ?_
    show own_Go p e s below _ _ _ T172 (mkF m 204 #[.val (.long q0), .second, .val (.int p1), .val (.int p2), .val (.int p3), .val (.int p4), .val (.int qq0), .val (.int qq1), .val (.int qq2), .val (.int (1 : Int32)), .val (.ref u0), .val (.ref u1), .val (.ref u2), .val (.ref bt), .val (.ref dd), .val (.ref dd), .unset] [(.ref dd)])
    refine own_st (fun _ k => XS.ifnullNo X172.here hx rfl (hb hby at_204) rfl k) ?_
    show own_Go p e s below _ _ _ T172 (mkF m 207 #[.val (.long q0), .second, .val (.int p1), .val (.int p2), .val (.int p3), .val (.int p4), .val (.int qq0), .val (.int qq1), .val (.int qq2), .val (.int (1 : Int32)), .val (.ref u0), .val (.ref u1), .val (.ref u2), .val (.ref bt), .val (.ref dd), .val (.ref dd), .unset] [])
    refine own_st (fun _ k => XS.aload X172.here hx rfl (hb hby at_207) rfl rfl k) ?_
    show own_Go p e s below _ _ _ T172 (mkF m 209 #[.val (.long q0), .second, .val (.int p1), .val (.int p2), .val (.int p3), .val (.int p4), .val (.int qq0), .val (.int qq1), .val (.int qq2), .val (.int (1 : Int32)), .val (.ref u0), .val (.ref u1), .val (.ref u2), .val (.ref bt), .val (.ref dd), .val (.ref dd), .unset] [(.ref dd)])
    refine own_st (fun _ k => XS.aload X172.here hx rfl (hb hby at_209) rfl rfl k) ?_
    show own_Go p e s below _ _ _ T172 (mkF m 211 #[.val (.long q0), .second, .val (.int p1), .val (.int p2), .val (.int p3), .val (.int p4), .val (.int qq0), .val (.int qq1), .val (.int qq2), .val (.int (1 : Int32)), .val (.ref u0), .val (.ref u1), .val (.ref u2), .val (.ref bt), .val (.ref dd), .val (.ref dd), .unset] [(.ref dd), (.ref dd)])
    refine own_st (fun _ k => Jvm.RoadKit.acmp (g := (mkF m 211 #[.val (.long q0), .second, .val (.int p1), .val (.int p2), .val (.int p3), .val (.int p4), .val (.int qq0), .val (.int qq1), .val (.int qq2), .val (.int (1 : Int32)), .val (.ref u0), .val (.ref u1), .val (.ref u2), .val (.ref bt), .val (.ref dd), .val (.ref dd), .unset] [(.ref dd), (.ref dd)])) X172 hx rfl rfl rfl (pc0 := 211) (pc' := 214) (same := true) rfl (hb hby at_211) rfl (decide_eq_true rfl) (by decide) (by decide) k) ?_
    show own_Go p e s below _ _ _ T172 (mkF m 214 #[.val (.long q0), .second, .val (.int p1), .val (.int p2), .val (.int p3), .val (.int p4), .val (.int qq0), .val (.int qq1), .val (.int qq2), .val (.int (1 : Int32)), .val (.ref u0), .val (.ref u1), .val (.ref u2), .val (.ref bt), .val (.ref dd), .val (.ref dd), .unset] [])
    refine own_st (fun _ k => XS.aload X172.here hx rfl (hb hby at_214) rfl rfl k) ?_
    show own_Go p e s below _ _ _ T172 (mkF m 216 #[.val (.long q0), .second, .val (.int p1), .val (.int p2), .val (.int p3), .val (.int p4), .val (.int qq0), .val (.int qq1), .val (.int qq2), .val (.int (1 : Int32)), .val (.ref u0), .val (.ref u1), .val (.ref u2), .val (.ref bt), .val (.ref dd), .val (.ref dd), .unset] [(.ref dd)])
    refine own_st (own_len X172 hx hZ e172 V_dd (g := (mkF m 216 #[.val (.long q0), .second, .val (.int p1), .val (.int p2), .val (.int p3), .val (.int p4), .val (.int qq0), .val (.int qq1), .val (.int qq2), .val (.int (1 : Int32)), .val (.ref u0), .val (.ref u1), .val (.ref u2), .val (.ref bt), .val (.ref dd), .val (.ref dd), .unset] [(.ref dd)])) rfl rfl (hb hby at_216)) ?_
    show own_Go p e s below _ _ _ T172 (mkF m 217 #[.val (.long q0), .second, .val (.int p1), .val (.int p2), .val (.int p3), .val (.int p4), .val (.int qq0), .val (.int qq1), .val (.int qq2), .val (.int (1 : Int32)), .val (.ref u0), .val (.ref u1), .val (.ref u2), .val (.ref bt), .val (.ref dd), .val (.ref dd), .unset] [(.int (3 : Int32))])
    refine own_st (fun _ k => XS.iconst X172.here hx rfl (hb hby at_217) k) ?_
    show own_Go p e s below _ _ _ T172 (mkF m 218 #[.val (.long q0), .second, .val (.int p1), .val (.int p2), .val (.int p3), .val (.int p4), .val (.int qq0), .val (.int qq1), .val (.int qq2), .val (.int (1 : Int32)), .val (.ref u0), .val (.ref u1), .val (.ref u2), .val (.ref bt), .val (.ref dd), .val (.ref dd), .unset] [(.int (3 : Int32)), (.int (3 : Int32))])
    refine own_st (fun _ k => XS.icmpYes X172.here hx rfl (pc0 := 218) (pc' := 223) rfl (hb hby at_218) rfl (by decide) (by decide) (by decide) k) ?_
    show own_Go p e s below _ _ _ T172 (mkF m 223 #[.val (.long q0), .second, .val (.int p1), .val (.int p2), .val (.int p3), .val (.int p4), .val (.int qq0), .val (.int qq1), .val (.int qq2), .val (.int (1 : Int32)), .val (.ref u0), .val (.ref u1), .val (.ref u2), .val (.ref bt), .val (.ref dd), .val (.ref dd), .unset] [])
    refine own_st (fun _ k => XS.aload X172.here hx rfl (hb hby at_223) rfl rfl k) ?_
    show own_Go p e s below _ _ _ T172 (mkF m 225 #[.val (.long q0), .second, .val (.int p1), .val (.int p2), .val (.int p3), .val (.int p4), .val (.int qq0), .val (.int qq1), .val (.int qq2), .val (.int (1 : Int32)), .val (.ref u0), .val (.ref u1), .val (.ref u2), .val (.ref bt), .val (.ref dd), .val (.ref dd), .unset] [(.ref u1)])
    refine own_st (fun _ k => XS.iconst X172.here hx rfl (hb hby at_225) k) ?_
    show own_Go p e s below _ _ _ T172 (mkF m 226 #[.val (.long q0), .second, .val (.int p1), .val (.int p2), .val (.int p3), .val (.int p4), .val (.int qq0), .val (.int qq1), .val (.int qq2), .val (.int (1 : Int32)), .val (.ref u0), .val (.ref u1), .val (.ref u2), .val (.ref bt), .val (.ref dd), .val (.ref dd), .unset] [(.int (0 : Int32)), (.ref u1)])
    refine own_st (own_ldI X172 hx hZ e172 V_u1 (j := (0 : Int32)) (x := p1) ⟨by decide, by decide⟩ rfl (g := (mkF m 226 #[.val (.long q0), .second, .val (.int p1), .val (.int p2), .val (.int p3), .val (.int p4), .val (.int qq0), .val (.int qq1), .val (.int qq2), .val (.int (1 : Int32)), .val (.ref u0), .val (.ref u1), .val (.ref u2), .val (.ref bt), .val (.ref dd), .val (.ref dd), .unset] [(.int (0 : Int32)), (.ref u1)])) rfl rfl (hb hby at_226)) ?_
    show own_Go p e s below _ _ _ T172 (mkF m 227 #[.val (.long q0), .second, .val (.int p1), .val (.int p2), .val (.int p3), .val (.int p4), .val (.int qq0), .val (.int qq1), .val (.int qq2), .val (.int (1 : Int32)), .val (.ref u0), .val (.ref u1), .val (.ref u2), .val (.ref bt), .val (.ref dd), .val (.ref dd), .unset] [(.int p1)])
    refine own_st (fun _ k => XS.iloadN X172.here hx rfl (hb hby at_227) rfl k) ?_
    show own_Go p e s below _ _ _ T172 (mkF m 228 #[.val (.long q0), .second, .val (.int p1), .val (.int p2), .val (.int p3), .val (.int p4), .val (.int qq0), .val (.int qq1), .val (.int qq2), .val (.int (1 : Int32)), .val (.ref u0), .val (.ref u1), .val (.ref u2), .val (.ref bt), .val (.ref dd), .val (.ref dd), .unset] [(.int p1), (.int p1)])
    refine own_st (fun _ k => XS.icmpNo X172.here hx rfl (hb hby at_228) rfl (teq (rfl : p1 = p1)).2 k) ?_
    show own_Go p e s below _ _ _ T172 (mkF m 231 #[.val (.long q0), .second, .val (.int p1), .val (.int p2), .val (.int p3), .val (.int p4), .val (.int qq0), .val (.int qq1), .val (.int qq2), .val (.int (1 : Int32)), .val (.ref u0), .val (.ref u1), .val (.ref u2), .val (.ref bt), .val (.ref dd), .val (.ref dd), .unset] [])
    refine own_st (fun _ k => XS.aload X172.here hx rfl (hb hby at_231) rfl rfl k) ?_
    show own_Go p e s below _ _ _ T172 (mkF m 233 #[.val (.long q0), .second, .val (.int p1), .val (.int p2), .val (.int p3), .val (.int p4), .val (.int qq0), .val (.int qq1), .val (.int qq2), .val (.int (1 : Int32)), .val (.ref u0), .val (.ref u1), .val (.ref u2), .val (.ref bt), .val (.ref dd), .val (.ref dd), .unset] [(.ref u1)])
    refine own_st (fun _ k => XS.iconst X172.here hx rfl (hb hby at_233) k) ?_
    show own_Go p e s below _ _ _ T172 (mkF m 234 #[.val (.long q0), .second, .val (.int p1), .val (.int p2), .val (.int p3), .val (.int p4), .val (.int qq0), .val (.int qq1), .val (.int qq2), .val (.int (1 : Int32)), .val (.ref u0), .val (.ref u1), .val (.ref u2), .val (.ref bt), .val (.ref dd), .val (.ref dd), .unset] [(.int (1 : Int32)), (.ref u1)])
    refine own_st (own_ldI X172 hx hZ e172 V_u1 (j := (1 : Int32)) (x := p2) ⟨by decide, by decide⟩ rfl (g := (mkF m 234 #[.val (.long q0), .second, .val (.int p1), .val (.int p2), .val (.int p3), .val (.int p4), .val (.int qq0), .val (.int qq1), .val (.int qq2), .val (.int (1 : Int32)), .val (.ref u0), .val (.ref u1), .val (.ref u2), .val (.ref bt), .val (.ref dd), .val (.ref dd), .unset] [(.int (1 : Int32)), (.ref u1)])) rfl rfl (hb hby at_234)) ?_
    show own_Go p e s below _ _ _ T172 (mkF m 235 #[.val (.long q0), .second, .val (.int p1), .val (.int p2), .val (.int p3), .val (.int p4), .val (.int qq0), .val (.int qq1), .val (.int qq2), .val (.int (1 : Int32)), .val (.ref u0), .val (.ref u1), .val (.ref u2), .val (.ref bt), .val (.ref dd), .val (.ref dd), .unset] [(.int p2)])
    refine own_st (fun _ k => XS.iloadN X172.here hx rfl (hb hby at_235) rfl k) ?_
    show own_Go p e s below _ _ _ T172 (mkF m 236 #[.val (.long q0), .second, .val (.int p1), .val (.int p2), .val (.int p3), .val (.int p4), .val (.int qq0), .val (.int qq1), .val (.int qq2), .val (.int (1 : Int32)), .val (.ref u0), .val (.ref u1), .val (.ref u2), .val (.ref bt), .val (.ref dd), .val (.ref dd), .unset] [(.int p2), (.int p2)])
    refine own_st (fun _ k => XS.icmpNo X172.here hx rfl (hb hby at_236) rfl (teq (rfl : p2 = p2)).2 k) ?_
    show own_Go p e s below _ _ _ T172 (mkF m 239 #[.val (.long q0), .second, .val (.int p1), .val (.int p2), .val (.int p3), .val (.int p4), .val (.int qq0), .val (.int qq1), .val (.int qq2), .val (.int (1 : Int32)), .val (.ref u0), .val (.ref u1), .val (.ref u2), .val (.ref bt), .val (.ref dd), .val (.ref dd), .unset] [])
    refine own_st (fun _ k => XS.aload X172.here hx rfl (hb hby at_239) rfl rfl k) ?_
    show own_Go p e s below _ _ _ T172 (mkF m 241 #[.val (.long q0), .second, .val (.int p1), .val (.int p2), .val (.int p3), .val (.int p4), .val (.int qq0), .val (.int qq1), .val (.int qq2), .val (.int (1 : Int32)), .val (.ref u0), .val (.ref u1), .val (.ref u2), .val (.ref bt), .val (.ref dd), .val (.ref dd), .unset] [(.ref u1)])
    refine own_st (fun _ k => XS.iconst X172.here hx rfl (hb hby at_241) k) ?_
    show own_Go p e s below _ _ _ T172 (mkF m 242 #[.val (.long q0), .second, .val (.int p1), .val (.int p2), .val (.int p3), .val (.int p4), .val (.int qq0), .val (.int qq1), .val (.int qq2), .val (.int (1 : Int32)), .val (.ref u0), .val (.ref u1), .val (.ref u2), .val (.ref bt), .val (.ref dd), .val (.ref dd), .unset] [(.int (2 : Int32)), (.ref u1)])
    refine own_st (own_ldI X172 hx hZ e172 V_u1 (j := (2 : Int32)) (x := p3) ⟨by decide, by decide⟩ rfl (g := (mkF m 242 #[.val (.long q0), .second, .val (.int p1), .val (.int p2), .val (.int p3), .val (.int p4), .val (.int qq0), .val (.int qq1), .val (.int qq2), .val (.int (1 : Int32)), .val (.ref u0), .val (.ref u1), .val (.ref u2), .val (.ref bt), .val (.ref dd), .val (.ref dd), .unset] [(.int (2 : Int32)), (.ref u1)])) rfl rfl (hb hby at_242)) ?_
    show own_Go p e s below _ _ _ T172 (mkF m 243 #[.val (.long q0), .second, .val (.int p1), .val (.int p2), .val (.int p3), .val (.int p4), .val (.int qq0), .val (.int qq1), .val (.int qq2), .val (.int (1 : Int32)), .val (.ref u0), .val (.ref u1), .val (.ref u2), .val (.ref bt), .val (.ref dd), .val (.ref dd), .unset] [(.int p3)])
    refine own_st (fun _ k => XS.iload X172.here hx rfl (hb hby at_243) rfl k) ?_
    show own_Go p e s below _ _ _ T172 (mkF m 245 #[.val (.long q0), .second, .val (.int p1), .val (.int p2), .val (.int p3), .val (.int p4), .val (.int qq0), .val (.int qq1), .val (.int qq2), .val (.int (1 : Int32)), .val (.ref u0), .val (.ref u1), .val (.ref u2), .val (.ref bt), .val (.ref dd), .val (.ref dd), .unset] [(.int p3), (.int p3)])
    refine own_st (fun _ k => XS.icmpYes X172.here hx rfl (pc0 := 245) (pc' := 250) rfl (hb hby at_245) rfl (teq (rfl : p3 = p3)).1 (by decide) (by decide) k) ?_
    show own_Go p e s below _ _ _ T172 (mkF m 250 #[.val (.long q0), .second, .val (.int p1), .val (.int p2), .val (.int p3), .val (.int p4), .val (.int qq0), .val (.int qq1), .val (.int qq2), .val (.int (1 : Int32)), .val (.ref u0), .val (.ref u1), .val (.ref u2), .val (.ref bt), .val (.ref dd), .val (.ref dd), .unset] [])
    refine own_st (fun _ k => XS.iload X172.here hx rfl (hb hby at_250) rfl k) ?_
    show own_Go p e s below _ _ _ T172 (mkF m 252 #[.val (.long q0), .second, .val (.int p1), .val (.int p2), .val (.int p3), .val (.int p4), .val (.int qq0), .val (.int qq1), .val (.int qq2), .val (.int (1 : Int32)), .val (.ref u0), .val (.ref u1), .val (.ref u2), .val (.ref bt), .val (.ref dd), .val (.ref dd), .unset] [(.int (1 : Int32))])
    refine own_st (fun _ k => XS.ifYes X172.here hx rfl (pc0 := 252) (pc' := 295) rfl (hb hby at_252) rfl (by decide) (by decide) (by decide) k) ?_
    show own_Go p e s below _ _ _ T172 (mkF m 295 #[.val (.long q0), .second, .val (.int p1), .val (.int p2), .val (.int p3), .val (.int p4), .val (.int qq0), .val (.int qq1), .val (.int qq2), .val (.int (1 : Int32)), .val (.ref u0), .val (.ref u1), .val (.ref u2), .val (.ref bt), .val (.ref dd), .val (.ref dd), .unset] [])
    refine own_st (fun _ k => XS.iload X172.here hx rfl (hb hby at_295) rfl k) ?_
    show own_Go p e s below _ _ _ T172 (mkF m 297 #[.val (.long q0), .second, .val (.int p1), .val (.int p2), .val (.int p3), .val (.int p4), .val (.int qq0), .val (.int qq1), .val (.int qq2), .val (.int (1 : Int32)), .val (.ref u0), .val (.ref u1), .val (.ref u2), .val (.ref bt), .val (.ref dd), .val (.ref dd), .unset] [(.int (1 : Int32))])
    refine own_st (fun _ k => XS.iconst X172.here hx rfl (hb hby at_297) k) ?_
    show own_Go p e s below _ _ _ T172 (mkF m 298 #[.val (.long q0), .second, .val (.int p1), .val (.int p2), .val (.int p3), .val (.int p4), .val (.int qq0), .val (.int qq1), .val (.int qq2), .val (.int (1 : Int32)), .val (.ref u0), .val (.ref u1), .val (.ref u2), .val (.ref bt), .val (.ref dd), .val (.ref dd), .unset] [(.int (1 : Int32)), (.int (1 : Int32))])
    refine own_st (fun _ k => XS.icmpNo X172.here hx rfl (hb hby at_298) rfl (by decide) k) ?_
    show own_Go p e s below _ _ _ T172 (mkF m 301 #[.val (.long q0), .second, .val (.int p1), .val (.int p2), .val (.int p3), .val (.int p4), .val (.int qq0), .val (.int qq1), .val (.int qq2), .val (.int (1 : Int32)), .val (.ref u0), .val (.ref u1), .val (.ref u2), .val (.ref bt), .val (.ref dd), .val (.ref dd), .unset] [])
    refine own_st (fun _ k => XS.aload X172.here hx rfl (hb hby at_301) rfl rfl k) ?_
    show own_Go p e s below _ _ _ T172 (mkF m 303 #[.val (.long q0), .second, .val (.int p1), .val (.int p2), .val (.int p3), .val (.int p4), .val (.int qq0), .val (.int qq1), .val (.int qq2), .val (.int (1 : Int32)), .val (.ref u0), .val (.ref u1), .val (.ref u2), .val (.ref bt), .val (.ref dd), .val (.ref dd), .unset] [(.ref dd)])
    refine own_st (fun _ k => XS.aload X172.here hx rfl (hb hby at_303) rfl rfl k) ?_
    show own_Go p e s below _ _ _ T172 (mkF m 305 #[.val (.long q0), .second, .val (.int p1), .val (.int p2), .val (.int p3), .val (.int p4), .val (.int qq0), .val (.int qq1), .val (.int qq2), .val (.int (1 : Int32)), .val (.ref u0), .val (.ref u1), .val (.ref u2), .val (.ref bt), .val (.ref dd), .val (.ref dd), .unset] [(.ref u0), (.ref dd)])
    refine own_st (fun _ k => Jvm.RoadKit.acmp (g := (mkF m 305 #[.val (.long q0), .second, .val (.int p1), .val (.int p2), .val (.int p3), .val (.int p4), .val (.int qq0), .val (.int qq1), .val (.int qq2), .val (.int (1 : Int32)), .val (.ref u0), .val (.ref u1), .val (.ref u2), .val (.ref bt), .val (.ref dd), .val (.ref dd), .unset] [(.ref u0), (.ref dd)])) X172 hx rfl rfl rfl (pc0 := 305) (pc' := 308) (same := false) rfl (hb hby at_305) rfl (decide_eq_false fun q => ne_dd_u0 (Value.ref.inj q)) (by decide) (by decide) k) ?_
    show own_Go p e s below _ _ _ T172 (mkF m 308 #[.val (.long q0), .second, .val (.int p1), .val (.int p2), .val (.int p3), .val (.int p4), .val (.int qq0), .val (.int qq1), .val (.int qq2), .val (.int (1 : Int32)), .val (.ref u0), .val (.ref u1), .val (.ref u2), .val (.ref bt), .val (.ref dd), .val (.ref dd), .unset] [])
    refine own_st (fun _ k => XS.aload X172.here hx rfl (hb hby at_308) rfl rfl k) ?_
    show own_Go p e s below _ _ _ T172 (mkF m 310 #[.val (.long q0), .second, .val (.int p1), .val (.int p2), .val (.int p3), .val (.int p4), .val (.int qq0), .val (.int qq1), .val (.int qq2), .val (.int (1 : Int32)), .val (.ref u0), .val (.ref u1), .val (.ref u2), .val (.ref bt), .val (.ref dd), .val (.ref dd), .unset] [(.ref dd)])
    refine own_st (fun _ k => XS.aload X172.here hx rfl (hb hby at_310) rfl rfl k) ?_
    show own_Go p e s below _ _ _ T172 (mkF m 312 #[.val (.long q0), .second, .val (.int p1), .val (.int p2), .val (.int p3), .val (.int p4), .val (.int qq0), .val (.int qq1), .val (.int qq2), .val (.int (1 : Int32)), .val (.ref u0), .val (.ref u1), .val (.ref u2), .val (.ref bt), .val (.ref dd), .val (.ref dd), .unset] [(.ref u1), (.ref dd)])
    refine own_st (fun _ k => Jvm.RoadKit.acmp (g := (mkF m 312 #[.val (.long q0), .second, .val (.int p1), .val (.int p2), .val (.int p3), .val (.int p4), .val (.int qq0), .val (.int qq1), .val (.int qq2), .val (.int (1 : Int32)), .val (.ref u0), .val (.ref u1), .val (.ref u2), .val (.ref bt), .val (.ref dd), .val (.ref dd), .unset] [(.ref u1), (.ref dd)])) X172 hx rfl rfl rfl (pc0 := 312) (pc' := 315) (same := false) rfl (hb hby at_312) rfl (decide_eq_false fun q => ne_dd_u1 (Value.ref.inj q)) (by decide) (by decide) k) ?_
    show own_Go p e s below _ _ _ T172 (mkF m 315 #[.val (.long q0), .second, .val (.int p1), .val (.int p2), .val (.int p3), .val (.int p4), .val (.int qq0), .val (.int qq1), .val (.int qq2), .val (.int (1 : Int32)), .val (.ref u0), .val (.ref u1), .val (.ref u2), .val (.ref bt), .val (.ref dd), .val (.ref dd), .unset] [])
    refine own_st (fun _ k => XS.aload X172.here hx rfl (hb hby at_315) rfl rfl k) ?_
    show own_Go p e s below _ _ _ T172 (mkF m 317 #[.val (.long q0), .second, .val (.int p1), .val (.int p2), .val (.int p3), .val (.int p4), .val (.int qq0), .val (.int qq1), .val (.int qq2), .val (.int (1 : Int32)), .val (.ref u0), .val (.ref u1), .val (.ref u2), .val (.ref bt), .val (.ref dd), .val (.ref dd), .unset] [(.ref dd)])
    refine own_st (fun _ k => XS.aload X172.here hx rfl (hb hby at_317) rfl rfl k) ?_
    show own_Go p e s below _ _ _ T172 (mkF m 319 #[.val (.long q0), .second, .val (.int p1), .val (.int p2), .val (.int p3), .val (.int p4), .val (.int qq0), .val (.int qq1), .val (.int qq2), .val (.int (1 : Int32)), .val (.ref u0), .val (.ref u1), .val (.ref u2), .val (.ref bt), .val (.ref dd), .val (.ref dd), .unset] [(.ref u2), (.ref dd)])
    refine own_st (fun _ k => Jvm.RoadKit.acmp (g := (mkF m 319 #[.val (.long q0), .second, .val (.int p1), .val (.int p2), .val (.int p3), .val (.int p4), .val (.int qq0), .val (.int qq1), .val (.int qq2), .val (.int (1 : Int32)), .val (.ref u0), .val (.ref u1), .val (.ref u2), .val (.ref bt), .val (.ref dd), .val (.ref dd), .unset] [(.ref u2), (.ref dd)])) X172 hx rfl rfl rfl (pc0 := 319) (pc' := 322) (same := false) rfl (hb hby at_319) rfl (decide_eq_false fun q => ne_dd_u2 (Value.ref.inj q)) (by decide) (by decide) k) ?_
    show own_Go p e s below _ _ _ T172 (mkF m 322 #[.val (.long q0), .second, .val (.int p1), .val (.int p2), .val (.int p3), .val (.int p4), .val (.int qq0), .val (.int qq1), .val (.int qq2), .val (.int (1 : Int32)), .val (.ref u0), .val (.ref u1), .val (.ref u2), .val (.ref bt), .val (.ref dd), .val (.ref dd), .unset] [])
    refine own_st (fun _ k => XS.aload X172.here hx rfl (hb hby at_322) rfl rfl k) ?_
    show own_Go p e s below _ _ _ T172 (mkF m 324 #[.val (.long q0), .second, .val (.int p1), .val (.int p2), .val (.int p3), .val (.int p4), .val (.int qq0), .val (.int qq1), .val (.int qq2), .val (.int (1 : Int32)), .val (.ref u0), .val (.ref u1), .val (.ref u2), .val (.ref bt), .val (.ref dd), .val (.ref dd), .unset] [(.ref u0)])
    refine own_st (fun _ k => XS.iconst X172.here hx rfl (hb hby at_324) k) ?_
    show own_Go p e s below _ _ _ T172 (mkF m 325 #[.val (.long q0), .second, .val (.int p1), .val (.int p2), .val (.int p3), .val (.int p4), .val (.int qq0), .val (.int qq1), .val (.int qq2), .val (.int (1 : Int32)), .val (.ref u0), .val (.ref u1), .val (.ref u2), .val (.ref bt), .val (.ref dd), .val (.ref dd), .unset] [(.int (0 : Int32)), (.ref u0)])
    refine own_st (own_ldI X172 hx hZ e172 V_u0 (j := (0 : Int32)) (x := qq0) ⟨by decide, by decide⟩ rfl (g := (mkF m 325 #[.val (.long q0), .second, .val (.int p1), .val (.int p2), .val (.int p3), .val (.int p4), .val (.int qq0), .val (.int qq1), .val (.int qq2), .val (.int (1 : Int32)), .val (.ref u0), .val (.ref u1), .val (.ref u2), .val (.ref bt), .val (.ref dd), .val (.ref dd), .unset] [(.int (0 : Int32)), (.ref u0)])) rfl rfl (hb hby at_325)) ?_
    show own_Go p e s below _ _ _ T172 (mkF m 326 #[.val (.long q0), .second, .val (.int p1), .val (.int p2), .val (.int p3), .val (.int p4), .val (.int qq0), .val (.int qq1), .val (.int qq2), .val (.int (1 : Int32)), .val (.ref u0), .val (.ref u1), .val (.ref u2), .val (.ref bt), .val (.ref dd), .val (.ref dd), .unset] [(.int qq0)])
    refine own_st (fun _ k => XS.iload X172.here hx rfl (hb hby at_326) rfl k) ?_
    show own_Go p e s below _ _ _ T172 (mkF m 328 #[.val (.long q0), .second, .val (.int p1), .val (.int p2), .val (.int p3), .val (.int p4), .val (.int qq0), .val (.int qq1), .val (.int qq2), .val (.int (1 : Int32)), .val (.ref u0), .val (.ref u1), .val (.ref u2), .val (.ref bt), .val (.ref dd), .val (.ref dd), .unset] [(.int qq0), (.int qq0)])
    refine own_st (fun _ k => XS.icmpNo X172.here hx rfl (hb hby at_328) rfl (teq (rfl : qq0 = qq0)).2 k) ?_
    show own_Go p e s below _ _ _ T172 (mkF m 331 #[.val (.long q0), .second, .val (.int p1), .val (.int p2), .val (.int p3), .val (.int p4), .val (.int qq0), .val (.int qq1), .val (.int qq2), .val (.int (1 : Int32)), .val (.ref u0), .val (.ref u1), .val (.ref u2), .val (.ref bt), .val (.ref dd), .val (.ref dd), .unset] [])
    refine own_st (fun _ k => XS.aload X172.here hx rfl (hb hby at_331) rfl rfl k) ?_
    show own_Go p e s below _ _ _ T172 (mkF m 333 #[.val (.long q0), .second, .val (.int p1), .val (.int p2), .val (.int p3), .val (.int p4), .val (.int qq0), .val (.int qq1), .val (.int qq2), .val (.int (1 : Int32)), .val (.ref u0), .val (.ref u1), .val (.ref u2), .val (.ref bt), .val (.ref dd), .val (.ref dd), .unset] [(.ref u0)])
    refine own_st (fun _ k => XS.iconst X172.here hx rfl (hb hby at_333) k) ?_
    show own_Go p e s below _ _ _ T172 (mkF m 334 #[.val (.long q0), .second, .val (.int p1), .val (.int p2), .val (.int p3), .val (.int p4), .val (.int qq0), .val (.int qq1), .val (.int qq2), .val (.int (1 : Int32)), .val (.ref u0), .val (.ref u1), .val (.ref u2), .val (.ref bt), .val (.ref dd), .val (.ref dd), .unset] [(.int (1 : Int32)), (.ref u0)])
    refine own_st (own_ldI X172 hx hZ e172 V_u0 (j := (1 : Int32)) (x := qq1) ⟨by decide, by decide⟩ rfl (g := (mkF m 334 #[.val (.long q0), .second, .val (.int p1), .val (.int p2), .val (.int p3), .val (.int p4), .val (.int qq0), .val (.int qq1), .val (.int qq2), .val (.int (1 : Int32)), .val (.ref u0), .val (.ref u1), .val (.ref u2), .val (.ref bt), .val (.ref dd), .val (.ref dd), .unset] [(.int (1 : Int32)), (.ref u0)])) rfl rfl (hb hby at_334)) ?_
    show own_Go p e s below _ _ _ T172 (mkF m 335 #[.val (.long q0), .second, .val (.int p1), .val (.int p2), .val (.int p3), .val (.int p4), .val (.int qq0), .val (.int qq1), .val (.int qq2), .val (.int (1 : Int32)), .val (.ref u0), .val (.ref u1), .val (.ref u2), .val (.ref bt), .val (.ref dd), .val (.ref dd), .unset] [(.int qq1)])
    refine own_st (fun _ k => XS.iload X172.here hx rfl (hb hby at_335) rfl k) ?_
    show own_Go p e s below _ _ _ T172 (mkF m 337 #[.val (.long q0), .second, .val (.int p1), .val (.int p2), .val (.int p3), .val (.int p4), .val (.int qq0), .val (.int qq1), .val (.int qq2), .val (.int (1 : Int32)), .val (.ref u0), .val (.ref u1), .val (.ref u2), .val (.ref bt), .val (.ref dd), .val (.ref dd), .unset] [(.int qq1), (.int qq1)])
    refine own_st (fun _ k => XS.icmpNo X172.here hx rfl (hb hby at_337) rfl (teq (rfl : qq1 = qq1)).2 k) ?_
    show own_Go p e s below _ _ _ T172 (mkF m 340 #[.val (.long q0), .second, .val (.int p1), .val (.int p2), .val (.int p3), .val (.int p4), .val (.int qq0), .val (.int qq1), .val (.int qq2), .val (.int (1 : Int32)), .val (.ref u0), .val (.ref u1), .val (.ref u2), .val (.ref bt), .val (.ref dd), .val (.ref dd), .unset] [])
    refine own_st (fun _ k => XS.aload X172.here hx rfl (hb hby at_340) rfl rfl k) ?_
    show own_Go p e s below _ _ _ T172 (mkF m 342 #[.val (.long q0), .second, .val (.int p1), .val (.int p2), .val (.int p3), .val (.int p4), .val (.int qq0), .val (.int qq1), .val (.int qq2), .val (.int (1 : Int32)), .val (.ref u0), .val (.ref u1), .val (.ref u2), .val (.ref bt), .val (.ref dd), .val (.ref dd), .unset] [(.ref u0)])
    refine own_st (fun _ k => XS.iconst X172.here hx rfl (hb hby at_342) k) ?_
    show own_Go p e s below _ _ _ T172 (mkF m 343 #[.val (.long q0), .second, .val (.int p1), .val (.int p2), .val (.int p3), .val (.int p4), .val (.int qq0), .val (.int qq1), .val (.int qq2), .val (.int (1 : Int32)), .val (.ref u0), .val (.ref u1), .val (.ref u2), .val (.ref bt), .val (.ref dd), .val (.ref dd), .unset] [(.int (2 : Int32)), (.ref u0)])
    refine own_st (own_ldI X172 hx hZ e172 V_u0 (j := (2 : Int32)) (x := qq2) ⟨by decide, by decide⟩ rfl (g := (mkF m 343 #[.val (.long q0), .second, .val (.int p1), .val (.int p2), .val (.int p3), .val (.int p4), .val (.int qq0), .val (.int qq1), .val (.int qq2), .val (.int (1 : Int32)), .val (.ref u0), .val (.ref u1), .val (.ref u2), .val (.ref bt), .val (.ref dd), .val (.ref dd), .unset] [(.int (2 : Int32)), (.ref u0)])) rfl rfl (hb hby at_343)) ?_
    show own_Go p e s below _ _ _ T172 (mkF m 344 #[.val (.long q0), .second, .val (.int p1), .val (.int p2), .val (.int p3), .val (.int p4), .val (.int qq0), .val (.int qq1), .val (.int qq2), .val (.int (1 : Int32)), .val (.ref u0), .val (.ref u1), .val (.ref u2), .val (.ref bt), .val (.ref dd), .val (.ref dd), .unset] [(.int qq2)])
    refine own_st (fun _ k => XS.iload X172.here hx rfl (hb hby at_344) rfl k) ?_
    show own_Go p e s below _ _ _ T172 (mkF m 346 #[.val (.long q0), .second, .val (.int p1), .val (.int p2), .val (.int p3), .val (.int p4), .val (.int qq0), .val (.int qq1), .val (.int qq2), .val (.int (1 : Int32)), .val (.ref u0), .val (.ref u1), .val (.ref u2), .val (.ref bt), .val (.ref dd), .val (.ref dd), .unset] [(.int qq2), (.int qq2)])
    refine own_st (fun _ k => XS.icmpNo X172.here hx rfl (hb hby at_346) rfl (teq (rfl : qq2 = qq2)).2 k) ?_
    show own_Go p e s below _ _ _ T172 (mkF m 349 #[.val (.long q0), .second, .val (.int p1), .val (.int p2), .val (.int p3), .val (.int p4), .val (.int qq0), .val (.int qq1), .val (.int qq2), .val (.int (1 : Int32)), .val (.ref u0), .val (.ref u1), .val (.ref u2), .val (.ref bt), .val (.ref dd), .val (.ref dd), .unset] [])
    refine own_st (fun _ k => XS.iconst X172.here hx rfl (hb hby at_349) k) ?_
    show own_Go p e s below _ _ _ T172 (mkF m 350 #[.val (.long q0), .second, .val (.int p1), .val (.int p2), .val (.int p3), .val (.int p4), .val (.int qq0), .val (.int qq1), .val (.int qq2), .val (.int (1 : Int32)), .val (.ref u0), .val (.ref u1), .val (.ref u2), .val (.ref bt), .val (.ref dd), .val (.ref dd), .unset] [(.int (1 : Int32))])
    refine own_st (fun _ k => XS.goto X172.here hx rfl (pc0 := 350) (pc' := 354) rfl (hb hby at_350) (by decide) (by decide) k) ?_
    show own_Go p e s below _ _ _ T172 (mkF m 354 #[.val (.long q0), .second, .val (.int p1), .val (.int p2), .val (.int p3), .val (.int p4), .val (.int qq0), .val (.int qq1), .val (.int qq2), .val (.int (1 : Int32)), .val (.ref u0), .val (.ref u1), .val (.ref u2), .val (.ref bt), .val (.ref dd), .val (.ref dd), .unset] [(.int (1 : Int32))])
    refine own_st (fun _ k => XS.istore X172.here hx rfl (hb hby at_354) rfl (l' := #[.val (.long q0), .second, .val (.int p1), .val (.int p2), .val (.int p3), .val (.int p4), .val (.int qq0), .val (.int qq1), .val (.int qq2), .val (.int (1 : Int32)), .val (.ref u0), .val (.ref u1), .val (.ref u2), .val (.ref bt), .val (.ref dd), .val (.ref dd), .val (.int (1 : Int32))]) rfl k) ?_
    show own_Go p e s below _ _ _ T172 (mkF m 356 #[.val (.long q0), .second, .val (.int p1), .val (.int p2), .val (.int p3), .val (.int p4), .val (.int qq0), .val (.int qq1), .val (.int qq2), .val (.int (1 : Int32)), .val (.ref u0), .val (.ref u1), .val (.ref u2), .val (.ref bt), .val (.ref dd), .val (.ref dd), .val (.int (1 : Int32))] [])
    refine own_st (fun _ k => XS.goto X172.here hx rfl (pc0 := 356) (pc' := 423) rfl (hb hby at_356) (by decide) (by decide) k) ?_
    show own_Go p e s below _ _ _ T172 (mkF m 423 #[.val (.long q0), .second, .val (.int p1), .val (.int p2), .val (.int p3), .val (.int p4), .val (.int qq0), .val (.int qq1), .val (.int qq2), .val (.int (1 : Int32)), .val (.ref u0), .val (.ref u1), .val (.ref u2), .val (.ref bt), .val (.ref dd), .val (.ref dd), .val (.int (1 : Int32))] [])
    refine own_st (fun _ k => XS.iload X172.here hx rfl (hb hby at_423) rfl k) ?_
    show own_Go p e s below _ _ _ T172 (mkF m 425 #[.val (.long q0), .second, .val (.int p1), .val (.int p2), .val (.int p3), .val (.int p4), .val (.int qq0), .val (.int qq1), .val (.int qq2), .val (.int (1 : Int32)), .val (.ref u0), .val (.ref u1), .val (.ref u2), .val (.ref bt), .val (.ref dd), .val (.ref dd), .val (.int (1 : Int32))] [(.int (1 : Int32))])
    refine own_st (fun _ k => XS.ifNo X172.here hx rfl (hb hby at_425) rfl (by decide) k) ?_
    show own_Go p e s below _ _ _ T172 (mkF m 428 #[.val (.long q0), .second, .val (.int p1), .val (.int p2), .val (.int p3), .val (.int p4), .val (.int qq0), .val (.int qq1), .val (.int qq2), .val (.int (1 : Int32)), .val (.ref u0), .val (.ref u1), .val (.ref u2), .val (.ref bt), .val (.ref dd), .val (.ref dd), .val (.int (1 : Int32))] [])
    refine own_st (fun _ k => XS.aload X172.here hx rfl (hb hby at_428) rfl rfl k) ?_
    show own_Go p e s below _ _ _ T172 (mkF m 430 #[.val (.long q0), .second, .val (.int p1), .val (.int p2), .val (.int p3), .val (.int p4), .val (.int qq0), .val (.int qq1), .val (.int qq2), .val (.int (1 : Int32)), .val (.ref u0), .val (.ref u1), .val (.ref u2), .val (.ref bt), .val (.ref dd), .val (.ref dd), .val (.int (1 : Int32))] [(.ref dd)])
    refine own_st (fun _ k => XS.iconst X172.here hx rfl (hb hby at_430) k) ?_
    show own_Go p e s below _ _ _ T172 (mkF m 431 #[.val (.long q0), .second, .val (.int p1), .val (.int p2), .val (.int p3), .val (.int p4), .val (.int qq0), .val (.int qq1), .val (.int qq2), .val (.int (1 : Int32)), .val (.ref u0), .val (.ref u1), .val (.ref u2), .val (.ref bt), .val (.ref dd), .val (.ref dd), .val (.int (1 : Int32))] [(.int (0 : Int32)), (.ref dd)])
    refine own_st (own_ldI X172 hx hZ e172 V_dd (j := (0 : Int32)) (x := (own_pick qq0 p1 p2 p3)) ⟨by decide, by decide⟩ rfl (g := (mkF m 431 #[.val (.long q0), .second, .val (.int p1), .val (.int p2), .val (.int p3), .val (.int p4), .val (.int qq0), .val (.int qq1), .val (.int qq2), .val (.int (1 : Int32)), .val (.ref u0), .val (.ref u1), .val (.ref u2), .val (.ref bt), .val (.ref dd), .val (.ref dd), .val (.int (1 : Int32))] [(.int (0 : Int32)), (.ref dd)])) rfl rfl (hb hby at_431)) ?_
    show own_Go p e s below _ _ _ T172 (mkF m 432 #[.val (.long q0), .second, .val (.int p1), .val (.int p2), .val (.int p3), .val (.int p4), .val (.int qq0), .val (.int qq1), .val (.int qq2), .val (.int (1 : Int32)), .val (.ref u0), .val (.ref u1), .val (.ref u2), .val (.ref bt), .val (.ref dd), .val (.ref dd), .val (.int (1 : Int32))] [(.int (own_pick qq0 p1 p2 p3))])
    refine own_st (fun _ k => XS.iload X172.here hx rfl (hb hby at_432) rfl k) ?_
    show own_Go p e s below _ _ _ T172 (mkF m 434 #[.val (.long q0), .second, .val (.int p1), .val (.int p2), .val (.int p3), .val (.int p4), .val (.int qq0), .val (.int qq1), .val (.int qq2), .val (.int (1 : Int32)), .val (.ref u0), .val (.ref u1), .val (.ref u2), .val (.ref bt), .val (.ref dd), .val (.ref dd), .val (.int (1 : Int32))] [(.int qq0), (.int (own_pick qq0 p1 p2 p3))])
    refine own_st (fun _ k => XS.iloadN X172.here hx rfl (hb hby at_434) rfl k) ?_
    show own_Go p e s below _ _ _ T172 (mkF m 435 #[.val (.long q0), .second, .val (.int p1), .val (.int p2), .val (.int p3), .val (.int p4), .val (.int qq0), .val (.int qq1), .val (.int qq2), .val (.int (1 : Int32)), .val (.ref u0), .val (.ref u1), .val (.ref u2), .val (.ref bt), .val (.ref dd), .val (.ref dd), .val (.int (1 : Int32))] [(.int p1), (.int qq0), (.int (own_pick qq0 p1 p2 p3))])
    refine own_st (fun _ k => XS.iloadN X172.here hx rfl (hb hby at_435) rfl k) ?_
    show own_Go p e s below _ _ _ T172 (mkF m 436 #[.val (.long q0), .second, .val (.int p1), .val (.int p2), .val (.int p3), .val (.int p4), .val (.int qq0), .val (.int qq1), .val (.int qq2), .val (.int (1 : Int32)), .val (.ref u0), .val (.ref u1), .val (.ref u2), .val (.ref bt), .val (.ref dd), .val (.ref dd), .val (.int (1 : Int32))] [(.int p2), (.int p1), (.int qq0), (.int (own_pick qq0 p1 p2 p3))])
    refine own_st (fun _ k => XS.iload X172.here hx rfl (hb hby at_436) rfl k) ?_
    show own_Go p e s below _ _ _ T172 (mkF m 438 #[.val (.long q0), .second, .val (.int p1), .val (.int p2), .val (.int p3), .val (.int p4), .val (.int qq0), .val (.int qq1), .val (.int qq2), .val (.int (1 : Int32)), .val (.ref u0), .val (.ref u1), .val (.ref u2), .val (.ref bt), .val (.ref dd), .val (.ref dd), .val (.int (1 : Int32))] [(.int p3), (.int p2), (.int p1), (.int qq0), (.int (own_pick qq0 p1 p2 p3))])
    refine own_callS X172 hx hZ (y := (⟨"com/example/hush5/hush5/search/TupleClassesClassOfPinLaw", "pick", "(IIII)I"⟩ : MethodName)) hown (hw _ (List.mem_of_getElem? (i := 25) rfl)) (hw _ (List.mem_of_getElem? (i := 26) rfl)) (hw _ (List.mem_of_getElem? (i := 27) rfl)) (hw _ (List.mem_of_getElem? (i := 28) rfl)) (by decide) e172 (rm4 l Z a0 hw [] qq0 p1 p2 p3 T170.heap n0 Z171) 1 (by decide) (by decide) (g := (mkF m 438 #[.val (.long q0), .second, .val (.int p1), .val (.int p2), .val (.int p3), .val (.int p4), .val (.int qq0), .val (.int qq1), .val (.int qq2), .val (.int (1 : Int32)), .val (.ref u0), .val (.ref u1), .val (.ref u2), .val (.ref bt), .val (.ref dd), .val (.ref dd), .val (.int (1 : Int32))] [(.int p3), (.int p2), (.int p1), (.int qq0), (.int (own_pick qq0 p1 p2 p3))])) rfl (by rw [hml]; rfl) (argsL := [(.int qq0), (.int p1), (.int p2), (.int p3)]) (rest := [(.int (own_pick qq0 p1 p2 p3))]) pd2 rfl rfl rfl (by show 2 * 0 + _ ≤ _; exact Nat.le_of_eq rfl) (hb hby at_438) (by decide) (by decide) ?_
    intro T173 v173 L173 X173 hQ173
    obtain ⟨rfl, N173q, e173⟩ := hQ173
    have N173 := Fr.app N172 N173q
    show own_Go p e s below _ _ _ T173 (mkF m 441 #[.val (.long q0), .second, .val (.int p1), .val (.int p2), .val (.int p3), .val (.int p4), .val (.int qq0), .val (.int qq1), .val (.int qq2), .val (.int (1 : Int32)), .val (.ref u0), .val (.ref u1), .val (.ref u2), .val (.ref bt), .val (.ref dd), .val (.ref dd), .val (.int (1 : Int32))] [(.int (own_pick qq0 p1 p2 p3)), (.int (own_pick qq0 p1 p2 p3))])
    refine own_st (fun _ k => XS.icmpNo X173.here hx rfl (hb hby at_441) rfl (teq (rfl : (own_pick qq0 p1 p2 p3) = (own_pick qq0 p1 p2 p3))).2 k) ?_
    show own_Go p e s below _ _ _ T173 (mkF m 444 #[.val (.long q0), .second, .val (.int p1), .val (.int p2), .val (.int p3), .val (.int p4), .val (.int qq0), .val (.int qq1), .val (.int qq2), .val (.int (1 : Int32)), .val (.ref u0), .val (.ref u1), .val (.ref u2), .val (.ref bt), .val (.ref dd), .val (.ref dd), .val (.int (1 : Int32))] [])
    refine own_st (fun _ k => XS.aload X173.here hx rfl (hb hby at_444) rfl rfl k) ?_
    show own_Go p e s below _ _ _ T173 (mkF m 446 #[.val (.long q0), .second, .val (.int p1), .val (.int p2), .val (.int p3), .val (.int p4), .val (.int qq0), .val (.int qq1), .val (.int qq2), .val (.int (1 : Int32)), .val (.ref u0), .val (.ref u1), .val (.ref u2), .val (.ref bt), .val (.ref dd), .val (.ref dd), .val (.int (1 : Int32))] [(.ref dd)])
    refine own_st (fun _ k => XS.iconst X173.here hx rfl (hb hby at_446) k) ?_
    show own_Go p e s below _ _ _ T173 (mkF m 447 #[.val (.long q0), .second, .val (.int p1), .val (.int p2), .val (.int p3), .val (.int p4), .val (.int qq0), .val (.int qq1), .val (.int qq2), .val (.int (1 : Int32)), .val (.ref u0), .val (.ref u1), .val (.ref u2), .val (.ref bt), .val (.ref dd), .val (.ref dd), .val (.int (1 : Int32))] [(.int (1 : Int32)), (.ref dd)])
    refine own_st (own_ldI X173 hx hZ e173 V_dd (j := (1 : Int32)) (x := (own_pick qq1 p1 p2 p3)) ⟨by decide, by decide⟩ rfl (g := (mkF m 447 #[.val (.long q0), .second, .val (.int p1), .val (.int p2), .val (.int p3), .val (.int p4), .val (.int qq0), .val (.int qq1), .val (.int qq2), .val (.int (1 : Int32)), .val (.ref u0), .val (.ref u1), .val (.ref u2), .val (.ref bt), .val (.ref dd), .val (.ref dd), .val (.int (1 : Int32))] [(.int (1 : Int32)), (.ref dd)])) rfl rfl (hb hby at_447)) ?_
    show own_Go p e s below _ _ _ T173 (mkF m 448 #[.val (.long q0), .second, .val (.int p1), .val (.int p2), .val (.int p3), .val (.int p4), .val (.int qq0), .val (.int qq1), .val (.int qq2), .val (.int (1 : Int32)), .val (.ref u0), .val (.ref u1), .val (.ref u2), .val (.ref bt), .val (.ref dd), .val (.ref dd), .val (.int (1 : Int32))] [(.int (own_pick qq1 p1 p2 p3))])
    refine own_st (fun _ k => XS.iload X173.here hx rfl (hb hby at_448) rfl k) ?_
    show own_Go p e s below _ _ _ T173 (mkF m 450 #[.val (.long q0), .second, .val (.int p1), .val (.int p2), .val (.int p3), .val (.int p4), .val (.int qq0), .val (.int qq1), .val (.int qq2), .val (.int (1 : Int32)), .val (.ref u0), .val (.ref u1), .val (.ref u2), .val (.ref bt), .val (.ref dd), .val (.ref dd), .val (.int (1 : Int32))] [(.int qq1), (.int (own_pick qq1 p1 p2 p3))])
    refine own_st (fun _ k => XS.iloadN X173.here hx rfl (hb hby at_450) rfl k) ?_
    show own_Go p e s below _ _ _ T173 (mkF m 451 #[.val (.long q0), .second, .val (.int p1), .val (.int p2), .val (.int p3), .val (.int p4), .val (.int qq0), .val (.int qq1), .val (.int qq2), .val (.int (1 : Int32)), .val (.ref u0), .val (.ref u1), .val (.ref u2), .val (.ref bt), .val (.ref dd), .val (.ref dd), .val (.int (1 : Int32))] [(.int p1), (.int qq1), (.int (own_pick qq1 p1 p2 p3))])
    refine own_st (fun _ k => XS.iloadN X173.here hx rfl (hb hby at_451) rfl k) ?_
    show own_Go p e s below _ _ _ T173 (mkF m 452 #[.val (.long q0), .second, .val (.int p1), .val (.int p2), .val (.int p3), .val (.int p4), .val (.int qq0), .val (.int qq1), .val (.int qq2), .val (.int (1 : Int32)), .val (.ref u0), .val (.ref u1), .val (.ref u2), .val (.ref bt), .val (.ref dd), .val (.ref dd), .val (.int (1 : Int32))] [(.int p2), (.int p1), (.int qq1), (.int (own_pick qq1 p1 p2 p3))])
    refine own_st (fun _ k => XS.iload X173.here hx rfl (hb hby at_452) rfl k) ?_
    show own_Go p e s below _ _ _ T173 (mkF m 454 #[.val (.long q0), .second, .val (.int p1), .val (.int p2), .val (.int p3), .val (.int p4), .val (.int qq0), .val (.int qq1), .val (.int qq2), .val (.int (1 : Int32)), .val (.ref u0), .val (.ref u1), .val (.ref u2), .val (.ref bt), .val (.ref dd), .val (.ref dd), .val (.int (1 : Int32))] [(.int p3), (.int p2), (.int p1), (.int qq1), (.int (own_pick qq1 p1 p2 p3))])
    refine own_callS X173 hx hZ (y := (⟨"com/example/hush5/hush5/search/TupleClassesClassOfPinLaw", "pick", "(IIII)I"⟩ : MethodName)) hown (hw _ (List.mem_of_getElem? (i := 25) rfl)) (hw _ (List.mem_of_getElem? (i := 26) rfl)) (hw _ (List.mem_of_getElem? (i := 27) rfl)) (hw _ (List.mem_of_getElem? (i := 28) rfl)) (by decide) e173 (rm4 l Z a0 hw [] qq1 p1 p2 p3 T170.heap n0 Z171) 1 (by decide) (by decide) (g := (mkF m 454 #[.val (.long q0), .second, .val (.int p1), .val (.int p2), .val (.int p3), .val (.int p4), .val (.int qq0), .val (.int qq1), .val (.int qq2), .val (.int (1 : Int32)), .val (.ref u0), .val (.ref u1), .val (.ref u2), .val (.ref bt), .val (.ref dd), .val (.ref dd), .val (.int (1 : Int32))] [(.int p3), (.int p2), (.int p1), (.int qq1), (.int (own_pick qq1 p1 p2 p3))])) rfl (by rw [hml]; rfl) (argsL := [(.int qq1), (.int p1), (.int p2), (.int p3)]) (rest := [(.int (own_pick qq1 p1 p2 p3))]) pd2 rfl rfl rfl (by show 2 * 0 + _ ≤ _; exact Nat.le_of_eq rfl) (hb hby at_454) (by decide) (by decide) ?_
    intro T174 v174 L174 X174 hQ174
    obtain ⟨rfl, N174q, e174⟩ := hQ174
    have N174 := Fr.app N173 N174q
    show own_Go p e s below _ _ _ T174 (mkF m 457 #[.val (.long q0), .second, .val (.int p1), .val (.int p2), .val (.int p3), .val (.int p4), .val (.int qq0), .val (.int qq1), .val (.int qq2), .val (.int (1 : Int32)), .val (.ref u0), .val (.ref u1), .val (.ref u2), .val (.ref bt), .val (.ref dd), .val (.ref dd), .val (.int (1 : Int32))] [(.int (own_pick qq1 p1 p2 p3)), (.int (own_pick qq1 p1 p2 p3))])
    refine own_st (fun _ k => XS.icmpNo X174.here hx rfl (hb hby at_457) rfl (teq (rfl : (own_pick qq1 p1 p2 p3) = (own_pick qq1 p1 p2 p3))).2 k) ?_
    show own_Go p e s below _ _ _ T174 (mkF m 460 #[.val (.long q0), .second, .val (.int p1), .val (.int p2), .val (.int p3), .val (.int p4), .val (.int qq0), .val (.int qq1), .val (.int qq2), .val (.int (1 : Int32)), .val (.ref u0), .val (.ref u1), .val (.ref u2), .val (.ref bt), .val (.ref dd), .val (.ref dd), .val (.int (1 : Int32))] [])
    refine own_st (fun _ k => XS.aload X174.here hx rfl (hb hby at_460) rfl rfl k) ?_
    show own_Go p e s below _ _ _ T174 (mkF m 462 #[.val (.long q0), .second, .val (.int p1), .val (.int p2), .val (.int p3), .val (.int p4), .val (.int qq0), .val (.int qq1), .val (.int qq2), .val (.int (1 : Int32)), .val (.ref u0), .val (.ref u1), .val (.ref u2), .val (.ref bt), .val (.ref dd), .val (.ref dd), .val (.int (1 : Int32))] [(.ref dd)])
    refine own_st (fun _ k => XS.iconst X174.here hx rfl (hb hby at_462) k) ?_
    show own_Go p e s below _ _ _ T174 (mkF m 463 #[.val (.long q0), .second, .val (.int p1), .val (.int p2), .val (.int p3), .val (.int p4), .val (.int qq0), .val (.int qq1), .val (.int qq2), .val (.int (1 : Int32)), .val (.ref u0), .val (.ref u1), .val (.ref u2), .val (.ref bt), .val (.ref dd), .val (.ref dd), .val (.int (1 : Int32))] [(.int (2 : Int32)), (.ref dd)])
    refine own_st (own_ldI X174 hx hZ e174 V_dd (j := (2 : Int32)) (x := (own_pick qq2 p1 p2 p3)) ⟨by decide, by decide⟩ rfl (g := (mkF m 463 #[.val (.long q0), .second, .val (.int p1), .val (.int p2), .val (.int p3), .val (.int p4), .val (.int qq0), .val (.int qq1), .val (.int qq2), .val (.int (1 : Int32)), .val (.ref u0), .val (.ref u1), .val (.ref u2), .val (.ref bt), .val (.ref dd), .val (.ref dd), .val (.int (1 : Int32))] [(.int (2 : Int32)), (.ref dd)])) rfl rfl (hb hby at_463)) ?_
    show own_Go p e s below _ _ _ T174 (mkF m 464 #[.val (.long q0), .second, .val (.int p1), .val (.int p2), .val (.int p3), .val (.int p4), .val (.int qq0), .val (.int qq1), .val (.int qq2), .val (.int (1 : Int32)), .val (.ref u0), .val (.ref u1), .val (.ref u2), .val (.ref bt), .val (.ref dd), .val (.ref dd), .val (.int (1 : Int32))] [(.int (own_pick qq2 p1 p2 p3))])
    refine own_st (fun _ k => XS.iload X174.here hx rfl (hb hby at_464) rfl k) ?_
    show own_Go p e s below _ _ _ T174 (mkF m 466 #[.val (.long q0), .second, .val (.int p1), .val (.int p2), .val (.int p3), .val (.int p4), .val (.int qq0), .val (.int qq1), .val (.int qq2), .val (.int (1 : Int32)), .val (.ref u0), .val (.ref u1), .val (.ref u2), .val (.ref bt), .val (.ref dd), .val (.ref dd), .val (.int (1 : Int32))] [(.int qq2), (.int (own_pick qq2 p1 p2 p3))])
    refine own_st (fun _ k => XS.iloadN X174.here hx rfl (hb hby at_466) rfl k) ?_
    show own_Go p e s below _ _ _ T174 (mkF m 467 #[.val (.long q0), .second, .val (.int p1), .val (.int p2), .val (.int p3), .val (.int p4), .val (.int qq0), .val (.int qq1), .val (.int qq2), .val (.int (1 : Int32)), .val (.ref u0), .val (.ref u1), .val (.ref u2), .val (.ref bt), .val (.ref dd), .val (.ref dd), .val (.int (1 : Int32))] [(.int p1), (.int qq2), (.int (own_pick qq2 p1 p2 p3))])
    refine own_st (fun _ k => XS.iloadN X174.here hx rfl (hb hby at_467) rfl k) ?_
    show own_Go p e s below _ _ _ T174 (mkF m 468 #[.val (.long q0), .second, .val (.int p1), .val (.int p2), .val (.int p3), .val (.int p4), .val (.int qq0), .val (.int qq1), .val (.int qq2), .val (.int (1 : Int32)), .val (.ref u0), .val (.ref u1), .val (.ref u2), .val (.ref bt), .val (.ref dd), .val (.ref dd), .val (.int (1 : Int32))] [(.int p2), (.int p1), (.int qq2), (.int (own_pick qq2 p1 p2 p3))])
    refine own_st (fun _ k => XS.iload X174.here hx rfl (hb hby at_468) rfl k) ?_
    show own_Go p e s below _ _ _ T174 (mkF m 470 #[.val (.long q0), .second, .val (.int p1), .val (.int p2), .val (.int p3), .val (.int p4), .val (.int qq0), .val (.int qq1), .val (.int qq2), .val (.int (1 : Int32)), .val (.ref u0), .val (.ref u1), .val (.ref u2), .val (.ref bt), .val (.ref dd), .val (.ref dd), .val (.int (1 : Int32))] [(.int p3), (.int p2), (.int p1), (.int qq2), (.int (own_pick qq2 p1 p2 p3))])
    refine own_callS X174 hx hZ (y := (⟨"com/example/hush5/hush5/search/TupleClassesClassOfPinLaw", "pick", "(IIII)I"⟩ : MethodName)) hown (hw _ (List.mem_of_getElem? (i := 25) rfl)) (hw _ (List.mem_of_getElem? (i := 26) rfl)) (hw _ (List.mem_of_getElem? (i := 27) rfl)) (hw _ (List.mem_of_getElem? (i := 28) rfl)) (by decide) e174 (rm4 l Z a0 hw [] qq2 p1 p2 p3 T170.heap n0 Z171) 1 (by decide) (by decide) (g := (mkF m 470 #[.val (.long q0), .second, .val (.int p1), .val (.int p2), .val (.int p3), .val (.int p4), .val (.int qq0), .val (.int qq1), .val (.int qq2), .val (.int (1 : Int32)), .val (.ref u0), .val (.ref u1), .val (.ref u2), .val (.ref bt), .val (.ref dd), .val (.ref dd), .val (.int (1 : Int32))] [(.int p3), (.int p2), (.int p1), (.int qq2), (.int (own_pick qq2 p1 p2 p3))])) rfl (by rw [hml]; rfl) (argsL := [(.int qq2), (.int p1), (.int p2), (.int p3)]) (rest := [(.int (own_pick qq2 p1 p2 p3))]) pd2 rfl rfl rfl (by show 2 * 0 + _ ≤ _; exact Nat.le_of_eq rfl) (hb hby at_470) (by decide) (by decide) ?_
    intro T175 v175 L175 X175 hQ175
    obtain ⟨rfl, N175q, e175⟩ := hQ175
    have N175 := Fr.app N174 N175q
    show own_Go p e s below _ _ _ T175 (mkF m 473 #[.val (.long q0), .second, .val (.int p1), .val (.int p2), .val (.int p3), .val (.int p4), .val (.int qq0), .val (.int qq1), .val (.int qq2), .val (.int (1 : Int32)), .val (.ref u0), .val (.ref u1), .val (.ref u2), .val (.ref bt), .val (.ref dd), .val (.ref dd), .val (.int (1 : Int32))] [(.int (own_pick qq2 p1 p2 p3)), (.int (own_pick qq2 p1 p2 p3))])
    refine own_st (fun _ k => XS.icmpNo X175.here hx rfl (hb hby at_473) rfl (teq (rfl : (own_pick qq2 p1 p2 p3) = (own_pick qq2 p1 p2 p3))).2 k) ?_
    show own_Go p e s below _ _ _ T175 (mkF m 476 #[.val (.long q0), .second, .val (.int p1), .val (.int p2), .val (.int p3), .val (.int p4), .val (.int qq0), .val (.int qq1), .val (.int qq2), .val (.int (1 : Int32)), .val (.ref u0), .val (.ref u1), .val (.ref u2), .val (.ref bt), .val (.ref dd), .val (.ref dd), .val (.int (1 : Int32))] [])
    refine own_st (fun _ k => XS.iconst X175.here hx rfl (hb hby at_476) k) ?_
    show own_Go p e s below _ _ _ T175 (mkF m 477 #[.val (.long q0), .second, .val (.int p1), .val (.int p2), .val (.int p3), .val (.int p4), .val (.int qq0), .val (.int qq1), .val (.int qq2), .val (.int (1 : Int32)), .val (.ref u0), .val (.ref u1), .val (.ref u2), .val (.ref bt), .val (.ref dd), .val (.ref dd), .val (.int (1 : Int32))] [(.int (1 : Int32))])
    refine own_st (fun _ k => XS.goto X175.here hx rfl (pc0 := 477) (pc' := 481) rfl (hb hby at_477) (by decide) (by decide) k) ?_
    show own_Go p e s below _ _ _ T175 (mkF m 481 #[.val (.long q0), .second, .val (.int p1), .val (.int p2), .val (.int p3), .val (.int p4), .val (.int qq0), .val (.int qq1), .val (.int qq2), .val (.int (1 : Int32)), .val (.ref u0), .val (.ref u1), .val (.ref u2), .val (.ref bt), .val (.ref dd), .val (.ref dd), .val (.int (1 : Int32))] [(.int (1 : Int32))])
    exact own_retN X175 hx hlk (t := .boolean) hret (by simp) (hb hby at_481) (z' := (1 : Int32)) rfl (by decide) (by decide) ⟨rfl, N175⟩
  · show own_Go p e s below _ _ _ T157 (mkF m 107 #[.val (.long q0), .second, .val (.int p1), .val (.int p2), .val (.int p3), .val (.int p4), .val (.int qq0), .val (.int qq1), .val (.int qq2), .val (.int (2 : Int32)), .val (.ref u0), .val (.ref u1), .val (.ref u2), .unset, .unset, .unset, .unset] [(.int (2 : Int32))])
    refine own_st (fun _ k => XS.ifYes X157.here hx rfl (pc0 := 107) (pc' := 126) rfl (hb hby at_107) rfl (by decide) (by decide) (by decide) k) ?_
    show own_Go p e s below _ _ _ T157 (mkF m 126 #[.val (.long q0), .second, .val (.int p1), .val (.int p2), .val (.int p3), .val (.int p4), .val (.int qq0), .val (.int qq1), .val (.int qq2), .val (.int (2 : Int32)), .val (.ref u0), .val (.ref u1), .val (.ref u2), .unset, .unset, .unset, .unset] [])
    refine own_st (fun _ k => XS.iload X157.here hx rfl (hb hby at_126) rfl k) ?_
    show own_Go p e s below _ _ _ T157 (mkF m 128 #[.val (.long q0), .second, .val (.int p1), .val (.int p2), .val (.int p3), .val (.int p4), .val (.int qq0), .val (.int qq1), .val (.int qq2), .val (.int (2 : Int32)), .val (.ref u0), .val (.ref u1), .val (.ref u2), .unset, .unset, .unset, .unset] [(.int (2 : Int32))])
    refine own_st (fun _ k => XS.iconst X157.here hx rfl (hb hby at_128) k) ?_
    show own_Go p e s below _ _ _ T157 (mkF m 129 #[.val (.long q0), .second, .val (.int p1), .val (.int p2), .val (.int p3), .val (.int p4), .val (.int qq0), .val (.int qq1), .val (.int qq2), .val (.int (2 : Int32)), .val (.ref u0), .val (.ref u1), .val (.ref u2), .unset, .unset, .unset, .unset] [(.int (1 : Int32)), (.int (2 : Int32))])
    refine own_st (fun _ k => XS.icmpYes X157.here hx rfl (pc0 := 129) (pc' := 149) rfl (hb hby at_129) rfl (by decide) (by decide) (by decide) k) ?_
    show own_Go p e s below _ _ _ T157 (mkF m 149 #[.val (.long q0), .second, .val (.int p1), .val (.int p2), .val (.int p3), .val (.int p4), .val (.int qq0), .val (.int qq1), .val (.int qq2), .val (.int (2 : Int32)), .val (.ref u0), .val (.ref u1), .val (.ref u2), .unset, .unset, .unset, .unset] [])
    refine own_st (fun _ k => XS.iload X157.here hx rfl (hb hby at_149) rfl k) ?_
    show own_Go p e s below _ _ _ T157 (mkF m 151 #[.val (.long q0), .second, .val (.int p1), .val (.int p2), .val (.int p3), .val (.int p4), .val (.int qq0), .val (.int qq1), .val (.int qq2), .val (.int (2 : Int32)), .val (.ref u0), .val (.ref u1), .val (.ref u2), .unset, .unset, .unset, .unset] [(.int (2 : Int32))])
    refine own_st (fun _ k => XS.iconst X157.here hx rfl (hb hby at_151) k) ?_
    show own_Go p e s below _ _ _ T157 (mkF m 152 #[.val (.long q0), .second, .val (.int p1), .val (.int p2), .val (.int p3), .val (.int p4), .val (.int qq0), .val (.int qq1), .val (.int qq2), .val (.int (2 : Int32)), .val (.ref u0), .val (.ref u1), .val (.ref u2), .unset, .unset, .unset, .unset] [(.int (2 : Int32)), (.int (2 : Int32))])
    refine own_st (fun _ k => XS.icmpNo X157.here hx rfl (hb hby at_152) rfl (by decide) k) ?_
    show own_Go p e s below _ _ _ T157 (mkF m 155 #[.val (.long q0), .second, .val (.int p1), .val (.int p2), .val (.int p3), .val (.int p4), .val (.int qq0), .val (.int qq1), .val (.int qq2), .val (.int (2 : Int32)), .val (.ref u0), .val (.ref u1), .val (.ref u2), .unset, .unset, .unset, .unset] [])
    obtain ⟨T176, h176, X176, e176, E176, A176, D176, -, st176⟩ := newO X157 hx hZ hown (hw _ (List.mem_of_getElem? (i := 3) rfl)) (hw _ (List.mem_of_getElem? (i := 4) rfl)) (hw _ (List.mem_of_getElem? (i := 5) rfl)) e157 (g := (mkF m 155 #[.val (.long q0), .second, .val (.int p1), .val (.int p2), .val (.int p3), .val (.int p4), .val (.int qq0), .val (.int qq1), .val (.int qq2), .val (.int (2 : Int32)), .val (.ref u0), .val (.ref u1), .val (.ref u2), .unset, .unset, .unset, .unset] [])) rfl (hb hby at_155) (by decide) (by decide)
    obtain ⟨bt, g176⟩ : ∃ z, z = h157.size := ⟨_, rfl⟩
    rw [← g176] at A176 D176 st176
    have g_bt : n0 ≤ bt := Nat.le_trans Z158 (Nat.le_of_eq g176.symm)
    have ne_u0_bt : u0 ≠ bt := Nat.ne_of_lt (Nat.lt_of_lt_of_le E_u0.lt (Nat.le_of_eq g176.symm))
    have ne_bt_u0 := Ne.symm ne_u0_bt
    have ne_u1_bt : u1 ≠ bt := Nat.ne_of_lt (Nat.lt_of_lt_of_le E_u1.lt (Nat.le_of_eq g176.symm))
    have ne_bt_u1 := Ne.symm ne_u1_bt
    have ne_u2_bt : u2 ≠ bt := Nat.ne_of_lt (Nat.lt_of_lt_of_le E_u2.lt (Nat.le_of_eq g176.symm))
    have ne_bt_u2 := Ne.symm ne_u2_bt
    replace E_u0 := E_u0.ext E176
    replace V_u0 := V_u0.ext E176
    replace E_u1 := E_u1.ext E176
    replace V_u1 := V_u1.ext E176
    replace E_u2 := E_u2.ext E176
    replace V_u2 := V_u2.ext E176
    have Z177 := Nat.le_trans Z158 E176.1
    have E_bt := A176
    have F_partOf_bt : Fld Z h176 bt "com/example/hush5/hush5/search/TupleClasses" "partOf" "[I" .null := D176 (Or.inr (hw _ (List.mem_of_getElem? (i := 13) rfl))) (ty := (.array .int)) (by decide)
    have F_classOfPart_bt : Fld Z h176 bt "com/example/hush5/hush5/search/TupleClasses" "classOfPart" "[I" .null := D176 (Or.inr (hw _ (List.mem_of_getElem? (i := 15) rfl))) (ty := (.array .int)) (by decide)
    have F_target_bt : Fld Z h176 bt "com/example/hush5/hush5/search/TupleClasses" "target" "[I" .null := D176 (Or.inr (hw _ (List.mem_of_getElem? (i := 17) rfl))) (ty := (.array .int)) (by decide)
    have F_classOf_bt : Fld Z h176 bt "com/example/hush5/hush5/search/TupleClasses" "classOf" "[I" .null := D176 (Or.inl (hw _ (List.mem_of_getElem? (i := 24) rfl))) (ty := (.array .int)) (by decide)
    refine own_st st176 ?_
    show own_Go p e s below _ _ _ T176 (mkF m 158 #[.val (.long q0), .second, .val (.int p1), .val (.int p2), .val (.int p3), .val (.int p4), .val (.int qq0), .val (.int qq1), .val (.int qq2), .val (.int (2 : Int32)), .val (.ref u0), .val (.ref u1), .val (.ref u2), .unset, .unset, .unset, .unset] [(.ref bt)])
    refine own_st (fun _ k => XS.dup X176.here hx rfl (hb hby at_158) rfl rfl k) ?_
    show own_Go p e s below _ _ _ T176 (mkF m 159 #[.val (.long q0), .second, .val (.int p1), .val (.int p2), .val (.int p3), .val (.int p4), .val (.int qq0), .val (.int qq1), .val (.int qq2), .val (.int (2 : Int32)), .val (.ref u0), .val (.ref u1), .val (.ref u2), .unset, .unset, .unset, .unset] [(.ref bt), (.ref bt)])
    refine own_st (fun _ k => XS.aload X176.here hx rfl (hb hby at_159) rfl rfl k) ?_
    show own_Go p e s below _ _ _ T176 (mkF m 161 #[.val (.long q0), .second, .val (.int p1), .val (.int p2), .val (.int p3), .val (.int p4), .val (.int qq0), .val (.int qq1), .val (.int qq2), .val (.int (2 : Int32)), .val (.ref u0), .val (.ref u1), .val (.ref u2), .unset, .unset, .unset, .unset] [(.ref u0), (.ref bt), (.ref bt)])
    refine own_st (fun _ k => XS.aload X176.here hx rfl (hb hby at_161) rfl rfl k) ?_
    show own_Go p e s below _ _ _ T176 (mkF m 163 #[.val (.long q0), .second, .val (.int p1), .val (.int p2), .val (.int p3), .val (.int p4), .val (.int qq0), .val (.int qq1), .val (.int qq2), .val (.int (2 : Int32)), .val (.ref u0), .val (.ref u1), .val (.ref u2), .unset, .unset, .unset, .unset] [(.ref u1), (.ref u0), (.ref bt), (.ref bt)])
    refine own_st (fun _ k => XS.aload X176.here hx rfl (hb hby at_163) rfl rfl k) ?_
    show own_Go p e s below _ _ _ T176 (mkF m 165 #[.val (.long q0), .second, .val (.int p1), .val (.int p2), .val (.int p3), .val (.int p4), .val (.int qq0), .val (.int qq1), .val (.int qq2), .val (.int (2 : Int32)), .val (.ref u0), .val (.ref u1), .val (.ref u2), .unset, .unset, .unset, .unset] [(.ref u2), (.ref u1), (.ref u0), (.ref bt), (.ref bt)])
    refine own_callN X176 hx hZ (y := (⟨"com/example/hush5/hush5/search/TupleClasses", "<init>", "([I[I[I)V"⟩ : MethodName)) rfl hown (hw _ (List.mem_of_getElem? (i := 6) rfl)) (hw _ (List.mem_of_getElem? (i := 7) rfl)) (hw _ (List.mem_of_getElem? (i := 5) rfl)) (hw _ (List.mem_of_getElem? (i := 8) rfl)) (by decide) e176 (rm1_2 l Z a0 hw [] bt u0 u1 u2 h176 n0 Z177 E_bt F_partOf_bt F_classOfPart_bt F_target_bt F_classOf_bt g_bt) 1 (by decide) (by decide) (g := (mkF m 165 #[.val (.long q0), .second, .val (.int p1), .val (.int p2), .val (.int p3), .val (.int p4), .val (.int qq0), .val (.int qq1), .val (.int qq2), .val (.int (2 : Int32)), .val (.ref u0), .val (.ref u1), .val (.ref u2), .unset, .unset, .unset, .unset] [(.ref u2), (.ref u1), (.ref u0), (.ref bt), (.ref bt)])) rfl (by rw [hml]; rfl) (a := bt) (argsL := [(.ref u0), (.ref u1), (.ref u2)]) (rest := [(.ref bt)]) pd0 rfl rfl rfl (by show 2 * 0 + _ ≤ _; exact Nat.le_of_eq rfl) (hb hby at_165) (by decide) (by decide) ?_
    intro T178 v178 L178 X178 hQ178
    obtain ⟨rfl, N178q, K178q, y178_0, y178_1, y178_2, y178_3, y178_4⟩ := hQ178
    have N178 := Fr.app N157 N178q
    replace E_u0 := E_u0.keep K178q
    replace V_u0 := V_u0.keep K178q (ninS ne_u0_bt nin0)
    replace E_u1 := E_u1.keep K178q
    replace V_u1 := V_u1.keep K178q (ninS ne_u1_bt nin0)
    replace E_u2 := E_u2.keep K178q
    replace V_u2 := V_u2.keep K178q (ninS ne_u2_bt nin0)
    replace E_bt := E_bt.keep K178q
    clear F_partOf_bt
    clear F_classOfPart_bt
    clear F_target_bt
    clear F_classOf_bt
    have Z179 := Nat.le_trans Z177 K178q.1
    have E_bt := y178_0
    have F_partOf_bt := y178_1
    have F_classOfPart_bt := y178_2
    have F_target_bt := y178_3
    have F_classOf_bt := y178_4
    show own_Go p e s below _ _ _ T178 (mkF m 168 #[.val (.long q0), .second, .val (.int p1), .val (.int p2), .val (.int p3), .val (.int p4), .val (.int qq0), .val (.int qq1), .val (.int qq2), .val (.int (2 : Int32)), .val (.ref u0), .val (.ref u1), .val (.ref u2), .unset, .unset, .unset, .unset] [(.ref bt)])
    refine own_st (fun _ k => XS.astore X178.here hx rfl (hb hby at_168) rfl rfl (l' := #[.val (.long q0), .second, .val (.int p1), .val (.int p2), .val (.int p3), .val (.int p4), .val (.int qq0), .val (.int qq1), .val (.int qq2), .val (.int (2 : Int32)), .val (.ref u0), .val (.ref u1), .val (.ref u2), .val (.ref bt), .unset, .unset, .unset]) rfl k) ?_
    show own_Go p e s below _ _ _ T178 (mkF m 170 #[.val (.long q0), .second, .val (.int p1), .val (.int p2), .val (.int p3), .val (.int p4), .val (.int qq0), .val (.int qq1), .val (.int qq2), .val (.int (2 : Int32)), .val (.ref u0), .val (.ref u1), .val (.ref u2), .val (.ref bt), .unset, .unset, .unset] [])
    refine own_st (fun _ k => XS.goto X178.here hx rfl (pc0 := 170) (pc' := 188) rfl (hb hby at_170) (by decide) (by decide) k) ?_
    show own_Go p e s below _ _ _ T178 (mkF m 188 #[.val (.long q0), .second, .val (.int p1), .val (.int p2), .val (.int p3), .val (.int p4), .val (.int qq0), .val (.int qq1), .val (.int qq2), .val (.int (2 : Int32)), .val (.ref u0), .val (.ref u1), .val (.ref u2), .val (.ref bt), .unset, .unset, .unset] [])
    refine own_st (fun _ k => XS.aload X178.here hx rfl (hb hby at_188) rfl rfl k) ?_
    show own_Go p e s below _ _ _ T178 (mkF m 190 #[.val (.long q0), .second, .val (.int p1), .val (.int p2), .val (.int p3), .val (.int p4), .val (.int qq0), .val (.int qq1), .val (.int qq2), .val (.int (2 : Int32)), .val (.ref u0), .val (.ref u1), .val (.ref u2), .val (.ref bt), .unset, .unset, .unset] [(.ref bt)])
    refine own_callV X178 hx hZ (y := (⟨"com/example/hush5/hush5/search/TupleClasses", "classOf", "()[I"⟩ : MethodName)) hown (hw _ (List.mem_of_getElem? (i := 18) rfl)) (hw _ (List.mem_of_getElem? (i := 19) rfl)) (hw _ (List.mem_of_getElem? (i := 21) rfl)) (hw _ (List.mem_of_getElem? (i := 20) rfl)) (hw _ (List.mem_of_getElem? (i := 5) rfl)) (hw _ (List.mem_of_getElem? (i := 22) rfl)) (by decide) rfl (rm3_2 l Z a0 hw [] bt u0 u1 u2 k135 k143 k151 p4 p4 p4 qq0 qq1 qq2 p1 p2 p3 T178.heap n0 Z179 E_bt F_partOf_bt F_classOfPart_bt F_target_bt F_classOf_bt g_bt V_u0 V_u1 V_u2 g_u2 ne_bt_u0 ne_u0_bt ne_bt_u1 ne_u1_bt ne_bt_u2 ne_u2_bt ne_u0_u2 ne_u2_u0 ne_u1_u2 ne_u2_u1 hq0 hq1 hq2) 0 (by decide) (by decide) E_bt (g := (mkF m 190 #[.val (.long q0), .second, .val (.int p1), .val (.int p2), .val (.int p3), .val (.int p4), .val (.int qq0), .val (.int qq1), .val (.int qq2), .val (.int (2 : Int32)), .val (.ref u0), .val (.ref u1), .val (.ref u2), .val (.ref bt), .unset, .unset, .unset] [(.ref bt)])) rfl (by rw [hml]; rfl) (argsL := []) (rest := []) pd1 rfl rfl rfl (by show 2 * 0 + _ ≤ _; exact Nat.le_of_eq rfl) (hb hby at_190) (by decide) (by decide) ?_
    intro T180 v180 L180 X180 hQ180
    obtain ⟨rfl, N180q, K180q, y180_0, y180_1, y180_2⟩ := hQ180
    have N180 := Fr.app N178 N180q
    replace E_u0 := E_u0.keep K180q
    replace V_u0 := V_u0.keep K180q (ninS ne_u0_bt (ninS ne_u0_u2 nin0))
    replace E_u1 := E_u1.keep K180q
    replace V_u1 := V_u1.keep K180q (ninS ne_u1_bt (ninS ne_u1_u2 nin0))
    replace E_u2 := E_u2.keep K180q
    clear V_u2
    replace E_bt := E_bt.keep K180q
    clear F_partOf_bt
    clear F_classOfPart_bt
    clear F_target_bt
    clear F_classOf_bt
    have Z181 := Nat.le_trans Z179 K180q.1
    have E_bt := y180_0
    have F_classOf_bt := y180_1
    have V_u2 := y180_2
    show own_Go p e s below _ _ _ T180 (mkF m 193 #[.val (.long q0), .second, .val (.int p1), .val (.int p2), .val (.int p3), .val (.int p4), .val (.int qq0), .val (.int qq1), .val (.int qq2), .val (.int (2 : Int32)), .val (.ref u0), .val (.ref u1), .val (.ref u2), .val (.ref bt), .unset, .unset, .unset] [(.ref u2)])
    refine own_st (fun _ k => XS.astore X180.here hx rfl (hb hby at_193) rfl rfl (l' := #[.val (.long q0), .second, .val (.int p1), .val (.int p2), .val (.int p3), .val (.int p4), .val (.int qq0), .val (.int qq1), .val (.int qq2), .val (.int (2 : Int32)), .val (.ref u0), .val (.ref u1), .val (.ref u2), .val (.ref bt), .val (.ref u2), .unset, .unset]) rfl k) ?_
    show own_Go p e s below _ _ _ T180 (mkF m 195 #[.val (.long q0), .second, .val (.int p1), .val (.int p2), .val (.int p3), .val (.int p4), .val (.int qq0), .val (.int qq1), .val (.int qq2), .val (.int (2 : Int32)), .val (.ref u0), .val (.ref u1), .val (.ref u2), .val (.ref bt), .val (.ref u2), .unset, .unset] [])
    refine own_st (fun _ k => XS.aload X180.here hx rfl (hb hby at_195) rfl rfl k) ?_
    show own_Go p e s below _ _ _ T180 (mkF m 197 #[.val (.long q0), .second, .val (.int p1), .val (.int p2), .val (.int p3), .val (.int p4), .val (.int qq0), .val (.int qq1), .val (.int qq2), .val (.int (2 : Int32)), .val (.ref u0), .val (.ref u1), .val (.ref u2), .val (.ref bt), .val (.ref u2), .unset, .unset] [(.ref bt)])
    refine own_callV X180 hx hZ (y := (⟨"com/example/hush5/hush5/search/TupleClasses", "classOf", "()[I"⟩ : MethodName)) hown (hw _ (List.mem_of_getElem? (i := 18) rfl)) (hw _ (List.mem_of_getElem? (i := 19) rfl)) (hw _ (List.mem_of_getElem? (i := 21) rfl)) (hw _ (List.mem_of_getElem? (i := 20) rfl)) (hw _ (List.mem_of_getElem? (i := 5) rfl)) (hw _ (List.mem_of_getElem? (i := 22) rfl)) (by decide) rfl (rm3_c l Z a0 hw [] bt u2 T180.heap n0 Z181 F_classOf_bt) 0 (by decide) (by decide) E_bt (g := (mkF m 197 #[.val (.long q0), .second, .val (.int p1), .val (.int p2), .val (.int p3), .val (.int p4), .val (.int qq0), .val (.int qq1), .val (.int qq2), .val (.int (2 : Int32)), .val (.ref u0), .val (.ref u1), .val (.ref u2), .val (.ref bt), .val (.ref u2), .unset, .unset] [(.ref bt)])) rfl (by rw [hml]; rfl) (argsL := []) (rest := []) pd1 rfl rfl rfl (by show 2 * 0 + _ ≤ _; exact Nat.le_of_eq rfl) (hb hby at_197) (by decide) (by decide) ?_
    intro T182 v182 L182 X182 hQ182
    obtain ⟨rfl, N182q, e182⟩ := hQ182
    have N182 := Fr.app N180 N182q
    show own_Go p e s below _ _ _ T182 (mkF m 200 #[.val (.long q0), .second, .val (.int p1), .val (.int p2), .val (.int p3), .val (.int p4), .val (.int qq0), .val (.int qq1), .val (.int qq2), .val (.int (2 : Int32)), .val (.ref u0), .val (.ref u1), .val (.ref u2), .val (.ref bt), .val (.ref u2), .unset, .unset] [(.ref u2)])
    refine own_st (fun _ k => XS.astore X182.here hx rfl (hb hby at_200) rfl rfl (l' := #[.val (.long q0), .second, .val (.int p1), .val (.int p2), .val (.int p3), .val (.int p4), .val (.int qq0), .val (.int qq1), .val (.int qq2), .val (.int (2 : Int32)), .val (.ref u0), .val (.ref u1), .val (.ref u2), .val (.ref bt), .val (.ref u2), .val (.ref u2), .unset]) rfl k) ?_
    show own_Go p e s below _ _ _ T182 (mkF m 202 #[.val (.long q0), .second, .val (.int p1), .val (.int p2), .val (.int p3), .val (.int p4), .val (.int qq0), .val (.int qq1), .val (.int qq2), .val (.int (2 : Int32)), .val (.ref u0), .val (.ref u1), .val (.ref u2), .val (.ref bt), .val (.ref u2), .val (.ref u2), .unset] [])
    refine own_st (fun _ k => XS.aload X182.here hx rfl (hb hby at_202) rfl rfl k) ?_
    show own_Go p e s below _ _ _ T182 (mkF m 204 #[.val (.long q0), .second, .val (.int p1), .val (.int p2), .val (.int p3), .val (.int p4), .val (.int qq0), .val (.int qq1), .val (.int qq2), .val (.int (2 : Int32)), .val (.ref u0), .val (.ref u1), .val (.ref u2), .val (.ref bt), .val (.ref u2), .val (.ref u2), .unset] [(.ref u2)])
    refine own_st (fun _ k => XS.ifnullNo X182.here hx rfl (hb hby at_204) rfl k) ?_
    show own_Go p e s below _ _ _ T182 (mkF m 207 #[.val (.long q0), .second, .val (.int p1), .val (.int p2), .val (.int p3), .val (.int p4), .val (.int qq0), .val (.int qq1), .val (.int qq2), .val (.int (2 : Int32)), .val (.ref u0), .val (.ref u1), .val (.ref u2), .val (.ref bt), .val (.ref u2), .val (.ref u2), .unset] [])
    refine own_st (fun _ k => XS.aload X182.here hx rfl (hb hby at_207) rfl rfl k) ?_
    show own_Go p e s below _ _ _ T182 (mkF m 209 #[.val (.long q0), .second, .val (.int p1), .val (.int p2), .val (.int p3), .val (.int p4), .val (.int qq0), .val (.int qq1), .val (.int qq2), .val (.int (2 : Int32)), .val (.ref u0), .val (.ref u1), .val (.ref u2), .val (.ref bt), .val (.ref u2), .val (.ref u2), .unset] [(.ref u2)])
    refine own_st (fun _ k => XS.aload X182.here hx rfl (hb hby at_209) rfl rfl k) ?_
    show own_Go p e s below _ _ _ T182 (mkF m 211 #[.val (.long q0), .second, .val (.int p1), .val (.int p2), .val (.int p3), .val (.int p4), .val (.int qq0), .val (.int qq1), .val (.int qq2), .val (.int (2 : Int32)), .val (.ref u0), .val (.ref u1), .val (.ref u2), .val (.ref bt), .val (.ref u2), .val (.ref u2), .unset] [(.ref u2), (.ref u2)])
    refine own_st (fun _ k => Jvm.RoadKit.acmp (g := (mkF m 211 #[.val (.long q0), .second, .val (.int p1), .val (.int p2), .val (.int p3), .val (.int p4), .val (.int qq0), .val (.int qq1), .val (.int qq2), .val (.int (2 : Int32)), .val (.ref u0), .val (.ref u1), .val (.ref u2), .val (.ref bt), .val (.ref u2), .val (.ref u2), .unset] [(.ref u2), (.ref u2)])) X182 hx rfl rfl rfl (pc0 := 211) (pc' := 214) (same := true) rfl (hb hby at_211) rfl (decide_eq_true rfl) (by decide) (by decide) k) ?_
    show own_Go p e s below _ _ _ T182 (mkF m 214 #[.val (.long q0), .second, .val (.int p1), .val (.int p2), .val (.int p3), .val (.int p4), .val (.int qq0), .val (.int qq1), .val (.int qq2), .val (.int (2 : Int32)), .val (.ref u0), .val (.ref u1), .val (.ref u2), .val (.ref bt), .val (.ref u2), .val (.ref u2), .unset] [])
    refine own_st (fun _ k => XS.aload X182.here hx rfl (hb hby at_214) rfl rfl k) ?_
    show own_Go p e s below _ _ _ T182 (mkF m 216 #[.val (.long q0), .second, .val (.int p1), .val (.int p2), .val (.int p3), .val (.int p4), .val (.int qq0), .val (.int qq1), .val (.int qq2), .val (.int (2 : Int32)), .val (.ref u0), .val (.ref u1), .val (.ref u2), .val (.ref bt), .val (.ref u2), .val (.ref u2), .unset] [(.ref u2)])
    refine own_st (own_len X182 hx hZ e182 V_u2 (g := (mkF m 216 #[.val (.long q0), .second, .val (.int p1), .val (.int p2), .val (.int p3), .val (.int p4), .val (.int qq0), .val (.int qq1), .val (.int qq2), .val (.int (2 : Int32)), .val (.ref u0), .val (.ref u1), .val (.ref u2), .val (.ref bt), .val (.ref u2), .val (.ref u2), .unset] [(.ref u2)])) rfl rfl (hb hby at_216)) ?_
    show own_Go p e s below _ _ _ T182 (mkF m 217 #[.val (.long q0), .second, .val (.int p1), .val (.int p2), .val (.int p3), .val (.int p4), .val (.int qq0), .val (.int qq1), .val (.int qq2), .val (.int (2 : Int32)), .val (.ref u0), .val (.ref u1), .val (.ref u2), .val (.ref bt), .val (.ref u2), .val (.ref u2), .unset] [(.int (3 : Int32))])
    refine own_st (fun _ k => XS.iconst X182.here hx rfl (hb hby at_217) k) ?_
    show own_Go p e s below _ _ _ T182 (mkF m 218 #[.val (.long q0), .second, .val (.int p1), .val (.int p2), .val (.int p3), .val (.int p4), .val (.int qq0), .val (.int qq1), .val (.int qq2), .val (.int (2 : Int32)), .val (.ref u0), .val (.ref u1), .val (.ref u2), .val (.ref bt), .val (.ref u2), .val (.ref u2), .unset] [(.int (3 : Int32)), (.int (3 : Int32))])
    refine own_st (fun _ k => XS.icmpYes X182.here hx rfl (pc0 := 218) (pc' := 223) rfl (hb hby at_218) rfl (by decide) (by decide) (by decide) k) ?_
    show own_Go p e s below _ _ _ T182 (mkF m 223 #[.val (.long q0), .second, .val (.int p1), .val (.int p2), .val (.int p3), .val (.int p4), .val (.int qq0), .val (.int qq1), .val (.int qq2), .val (.int (2 : Int32)), .val (.ref u0), .val (.ref u1), .val (.ref u2), .val (.ref bt), .val (.ref u2), .val (.ref u2), .unset] [])
    refine own_st (fun _ k => XS.aload X182.here hx rfl (hb hby at_223) rfl rfl k) ?_
    show own_Go p e s below _ _ _ T182 (mkF m 225 #[.val (.long q0), .second, .val (.int p1), .val (.int p2), .val (.int p3), .val (.int p4), .val (.int qq0), .val (.int qq1), .val (.int qq2), .val (.int (2 : Int32)), .val (.ref u0), .val (.ref u1), .val (.ref u2), .val (.ref bt), .val (.ref u2), .val (.ref u2), .unset] [(.ref u1)])
    refine own_st (fun _ k => XS.iconst X182.here hx rfl (hb hby at_225) k) ?_
    show own_Go p e s below _ _ _ T182 (mkF m 226 #[.val (.long q0), .second, .val (.int p1), .val (.int p2), .val (.int p3), .val (.int p4), .val (.int qq0), .val (.int qq1), .val (.int qq2), .val (.int (2 : Int32)), .val (.ref u0), .val (.ref u1), .val (.ref u2), .val (.ref bt), .val (.ref u2), .val (.ref u2), .unset] [(.int (0 : Int32)), (.ref u1)])
    refine own_st (own_ldI X182 hx hZ e182 V_u1 (j := (0 : Int32)) (x := p1) ⟨by decide, by decide⟩ rfl (g := (mkF m 226 #[.val (.long q0), .second, .val (.int p1), .val (.int p2), .val (.int p3), .val (.int p4), .val (.int qq0), .val (.int qq1), .val (.int qq2), .val (.int (2 : Int32)), .val (.ref u0), .val (.ref u1), .val (.ref u2), .val (.ref bt), .val (.ref u2), .val (.ref u2), .unset] [(.int (0 : Int32)), (.ref u1)])) rfl rfl (hb hby at_226)) ?_
    show own_Go p e s below _ _ _ T182 (mkF m 227 #[.val (.long q0), .second, .val (.int p1), .val (.int p2), .val (.int p3), .val (.int p4), .val (.int qq0), .val (.int qq1), .val (.int qq2), .val (.int (2 : Int32)), .val (.ref u0), .val (.ref u1), .val (.ref u2), .val (.ref bt), .val (.ref u2), .val (.ref u2), .unset] [(.int p1)])
    refine own_st (fun _ k => XS.iloadN X182.here hx rfl (hb hby at_227) rfl k) ?_
    show own_Go p e s below _ _ _ T182 (mkF m 228 #[.val (.long q0), .second, .val (.int p1), .val (.int p2), .val (.int p3), .val (.int p4), .val (.int qq0), .val (.int qq1), .val (.int qq2), .val (.int (2 : Int32)), .val (.ref u0), .val (.ref u1), .val (.ref u2), .val (.ref bt), .val (.ref u2), .val (.ref u2), .unset] [(.int p1), (.int p1)])
    refine own_st (fun _ k => XS.icmpNo X182.here hx rfl (hb hby at_228) rfl (teq (rfl : p1 = p1)).2 k) ?_
    show own_Go p e s below _ _ _ T182 (mkF m 231 #[.val (.long q0), .second, .val (.int p1), .val (.int p2), .val (.int p3), .val (.int p4), .val (.int qq0), .val (.int qq1), .val (.int qq2), .val (.int (2 : Int32)), .val (.ref u0), .val (.ref u1), .val (.ref u2), .val (.ref bt), .val (.ref u2), .val (.ref u2), .unset] [])
    refine own_st (fun _ k => XS.aload X182.here hx rfl (hb hby at_231) rfl rfl k) ?_
    show own_Go p e s below _ _ _ T182 (mkF m 233 #[.val (.long q0), .second, .val (.int p1), .val (.int p2), .val (.int p3), .val (.int p4), .val (.int qq0), .val (.int qq1), .val (.int qq2), .val (.int (2 : Int32)), .val (.ref u0), .val (.ref u1), .val (.ref u2), .val (.ref bt), .val (.ref u2), .val (.ref u2), .unset] [(.ref u1)])
    refine own_st (fun _ k => XS.iconst X182.here hx rfl (hb hby at_233) k) ?_
    show own_Go p e s below _ _ _ T182 (mkF m 234 #[.val (.long q0), .second, .val (.int p1), .val (.int p2), .val (.int p3), .val (.int p4), .val (.int qq0), .val (.int qq1), .val (.int qq2), .val (.int (2 : Int32)), .val (.ref u0), .val (.ref u1), .val (.ref u2), .val (.ref bt), .val (.ref u2), .val (.ref u2), .unset] [(.int (1 : Int32)), (.ref u1)])
    refine own_st (own_ldI X182 hx hZ e182 V_u1 (j := (1 : Int32)) (x := p2) ⟨by decide, by decide⟩ rfl (g := (mkF m 234 #[.val (.long q0), .second, .val (.int p1), .val (.int p2), .val (.int p3), .val (.int p4), .val (.int qq0), .val (.int qq1), .val (.int qq2), .val (.int (2 : Int32)), .val (.ref u0), .val (.ref u1), .val (.ref u2), .val (.ref bt), .val (.ref u2), .val (.ref u2), .unset] [(.int (1 : Int32)), (.ref u1)])) rfl rfl (hb hby at_234)) ?_
    show own_Go p e s below _ _ _ T182 (mkF m 235 #[.val (.long q0), .second, .val (.int p1), .val (.int p2), .val (.int p3), .val (.int p4), .val (.int qq0), .val (.int qq1), .val (.int qq2), .val (.int (2 : Int32)), .val (.ref u0), .val (.ref u1), .val (.ref u2), .val (.ref bt), .val (.ref u2), .val (.ref u2), .unset] [(.int p2)])
    refine own_st (fun _ k => XS.iloadN X182.here hx rfl (hb hby at_235) rfl k) ?_
    show own_Go p e s below _ _ _ T182 (mkF m 236 #[.val (.long q0), .second, .val (.int p1), .val (.int p2), .val (.int p3), .val (.int p4), .val (.int qq0), .val (.int qq1), .val (.int qq2), .val (.int (2 : Int32)), .val (.ref u0), .val (.ref u1), .val (.ref u2), .val (.ref bt), .val (.ref u2), .val (.ref u2), .unset] [(.int p2), (.int p2)])
    refine own_st (fun _ k => XS.icmpNo X182.here hx rfl (hb hby at_236) rfl (teq (rfl : p2 = p2)).2 k) ?_
    show own_Go p e s below _ _ _ T182 (mkF m 239 #[.val (.long q0), .second, .val (.int p1), .val (.int p2), .val (.int p3), .val (.int p4), .val (.int qq0), .val (.int qq1), .val (.int qq2), .val (.int (2 : Int32)), .val (.ref u0), .val (.ref u1), .val (.ref u2), .val (.ref bt), .val (.ref u2), .val (.ref u2), .unset] [])
    refine own_st (fun _ k => XS.aload X182.here hx rfl (hb hby at_239) rfl rfl k) ?_
    show own_Go p e s below _ _ _ T182 (mkF m 241 #[.val (.long q0), .second, .val (.int p1), .val (.int p2), .val (.int p3), .val (.int p4), .val (.int qq0), .val (.int qq1), .val (.int qq2), .val (.int (2 : Int32)), .val (.ref u0), .val (.ref u1), .val (.ref u2), .val (.ref bt), .val (.ref u2), .val (.ref u2), .unset] [(.ref u1)])
    refine own_st (fun _ k => XS.iconst X182.here hx rfl (hb hby at_241) k) ?_
    show own_Go p e s below _ _ _ T182 (mkF m 242 #[.val (.long q0), .second, .val (.int p1), .val (.int p2), .val (.int p3), .val (.int p4), .val (.int qq0), .val (.int qq1), .val (.int qq2), .val (.int (2 : Int32)), .val (.ref u0), .val (.ref u1), .val (.ref u2), .val (.ref bt), .val (.ref u2), .val (.ref u2), .unset] [(.int (2 : Int32)), (.ref u1)])
    refine own_st (own_ldI X182 hx hZ e182 V_u1 (j := (2 : Int32)) (x := p3) ⟨by decide, by decide⟩ rfl (g := (mkF m 242 #[.val (.long q0), .second, .val (.int p1), .val (.int p2), .val (.int p3), .val (.int p4), .val (.int qq0), .val (.int qq1), .val (.int qq2), .val (.int (2 : Int32)), .val (.ref u0), .val (.ref u1), .val (.ref u2), .val (.ref bt), .val (.ref u2), .val (.ref u2), .unset] [(.int (2 : Int32)), (.ref u1)])) rfl rfl (hb hby at_242)) ?_
    show own_Go p e s below _ _ _ T182 (mkF m 243 #[.val (.long q0), .second, .val (.int p1), .val (.int p2), .val (.int p3), .val (.int p4), .val (.int qq0), .val (.int qq1), .val (.int qq2), .val (.int (2 : Int32)), .val (.ref u0), .val (.ref u1), .val (.ref u2), .val (.ref bt), .val (.ref u2), .val (.ref u2), .unset] [(.int p3)])
    refine own_st (fun _ k => XS.iload X182.here hx rfl (hb hby at_243) rfl k) ?_
    show own_Go p e s below _ _ _ T182 (mkF m 245 #[.val (.long q0), .second, .val (.int p1), .val (.int p2), .val (.int p3), .val (.int p4), .val (.int qq0), .val (.int qq1), .val (.int qq2), .val (.int (2 : Int32)), .val (.ref u0), .val (.ref u1), .val (.ref u2), .val (.ref bt), .val (.ref u2), .val (.ref u2), .unset] [(.int p3), (.int p3)])
    refine own_st (fun _ k => XS.icmpYes X182.here hx rfl (pc0 := 245) (pc' := 250) rfl (hb hby at_245) rfl (teq (rfl : p3 = p3)).1 (by decide) (by decide) k) ?_
    show own_Go p e s below _ _ _ T182 (mkF m 250 #[.val (.long q0), .second, .val (.int p1), .val (.int p2), .val (.int p3), .val (.int p4), .val (.int qq0), .val (.int qq1), .val (.int qq2), .val (.int (2 : Int32)), .val (.ref u0), .val (.ref u1), .val (.ref u2), .val (.ref bt), .val (.ref u2), .val (.ref u2), .unset] [])
    refine own_st (fun _ k => XS.iload X182.here hx rfl (hb hby at_250) rfl k) ?_
    show own_Go p e s below _ _ _ T182 (mkF m 252 #[.val (.long q0), .second, .val (.int p1), .val (.int p2), .val (.int p3), .val (.int p4), .val (.int qq0), .val (.int qq1), .val (.int qq2), .val (.int (2 : Int32)), .val (.ref u0), .val (.ref u1), .val (.ref u2), .val (.ref bt), .val (.ref u2), .val (.ref u2), .unset] [(.int (2 : Int32))])
    refine own_st (fun _ k => XS.ifYes X182.here hx rfl (pc0 := 252) (pc' := 295) rfl (hb hby at_252) rfl (by decide) (by decide) (by decide) k) ?_
    show own_Go p e s below _ _ _ T182 (mkF m 295 #[.val (.long q0), .second, .val (.int p1), .val (.int p2), .val (.int p3), .val (.int p4), .val (.int qq0), .val (.int qq1), .val (.int qq2), .val (.int (2 : Int32)), .val (.ref u0), .val (.ref u1), .val (.ref u2), .val (.ref bt), .val (.ref u2), .val (.ref u2), .unset] [])
    refine own_st (fun _ k => XS.iload X182.here hx rfl (hb hby at_295) rfl k) ?_
    show own_Go p e s below _ _ _ T182 (mkF m 297 #[.val (.long q0), .second, .val (.int p1), .val (.int p2), .val (.int p3), .val (.int p4), .val (.int qq0), .val (.int qq1), .val (.int qq2), .val (.int (2 : Int32)), .val (.ref u0), .val (.ref u1), .val (.ref u2), .val (.ref bt), .val (.ref u2), .val (.ref u2), .unset] [(.int (2 : Int32))])
    refine own_st (fun _ k => XS.iconst X182.here hx rfl (hb hby at_297) k) ?_
    show own_Go p e s below _ _ _ T182 (mkF m 298 #[.val (.long q0), .second, .val (.int p1), .val (.int p2), .val (.int p3), .val (.int p4), .val (.int qq0), .val (.int qq1), .val (.int qq2), .val (.int (2 : Int32)), .val (.ref u0), .val (.ref u1), .val (.ref u2), .val (.ref bt), .val (.ref u2), .val (.ref u2), .unset] [(.int (1 : Int32)), (.int (2 : Int32))])
    refine own_st (fun _ k => XS.icmpYes X182.here hx rfl (pc0 := 298) (pc' := 359) rfl (hb hby at_298) rfl (by decide) (by decide) (by decide) k) ?_
    show own_Go p e s below _ _ _ T182 (mkF m 359 #[.val (.long q0), .second, .val (.int p1), .val (.int p2), .val (.int p3), .val (.int p4), .val (.int qq0), .val (.int qq1), .val (.int qq2), .val (.int (2 : Int32)), .val (.ref u0), .val (.ref u1), .val (.ref u2), .val (.ref bt), .val (.ref u2), .val (.ref u2), .unset] [])
    refine own_st (fun _ k => XS.iload X182.here hx rfl (hb hby at_359) rfl k) ?_
    show own_Go p e s below _ _ _ T182 (mkF m 361 #[.val (.long q0), .second, .val (.int p1), .val (.int p2), .val (.int p3), .val (.int p4), .val (.int qq0), .val (.int qq1), .val (.int qq2), .val (.int (2 : Int32)), .val (.ref u0), .val (.ref u1), .val (.ref u2), .val (.ref bt), .val (.ref u2), .val (.ref u2), .unset] [(.int (2 : Int32))])
    refine own_st (fun _ k => XS.iconst X182.here hx rfl (hb hby at_361) k) ?_
    show own_Go p e s below _ _ _ T182 (mkF m 362 #[.val (.long q0), .second, .val (.int p1), .val (.int p2), .val (.int p3), .val (.int p4), .val (.int qq0), .val (.int qq1), .val (.int qq2), .val (.int (2 : Int32)), .val (.ref u0), .val (.ref u1), .val (.ref u2), .val (.ref bt), .val (.ref u2), .val (.ref u2), .unset] [(.int (2 : Int32)), (.int (2 : Int32))])
    refine own_st (fun _ k => XS.icmpNo X182.here hx rfl (hb hby at_362) rfl (by decide) k) ?_
    show own_Go p e s below _ _ _ T182 (mkF m 365 #[.val (.long q0), .second, .val (.int p1), .val (.int p2), .val (.int p3), .val (.int p4), .val (.int qq0), .val (.int qq1), .val (.int qq2), .val (.int (2 : Int32)), .val (.ref u0), .val (.ref u1), .val (.ref u2), .val (.ref bt), .val (.ref u2), .val (.ref u2), .unset] [])
    refine own_st (fun _ k => XS.aload X182.here hx rfl (hb hby at_365) rfl rfl k) ?_
    show own_Go p e s below _ _ _ T182 (mkF m 367 #[.val (.long q0), .second, .val (.int p1), .val (.int p2), .val (.int p3), .val (.int p4), .val (.int qq0), .val (.int qq1), .val (.int qq2), .val (.int (2 : Int32)), .val (.ref u0), .val (.ref u1), .val (.ref u2), .val (.ref bt), .val (.ref u2), .val (.ref u2), .unset] [(.ref u2)])
    refine own_st (fun _ k => XS.aload X182.here hx rfl (hb hby at_367) rfl rfl k) ?_
    show own_Go p e s below _ _ _ T182 (mkF m 369 #[.val (.long q0), .second, .val (.int p1), .val (.int p2), .val (.int p3), .val (.int p4), .val (.int qq0), .val (.int qq1), .val (.int qq2), .val (.int (2 : Int32)), .val (.ref u0), .val (.ref u1), .val (.ref u2), .val (.ref bt), .val (.ref u2), .val (.ref u2), .unset] [(.ref u2), (.ref u2)])
    refine own_st (fun _ k => Jvm.RoadKit.acmp (g := (mkF m 369 #[.val (.long q0), .second, .val (.int p1), .val (.int p2), .val (.int p3), .val (.int p4), .val (.int qq0), .val (.int qq1), .val (.int qq2), .val (.int (2 : Int32)), .val (.ref u0), .val (.ref u1), .val (.ref u2), .val (.ref bt), .val (.ref u2), .val (.ref u2), .unset] [(.ref u2), (.ref u2)])) X182 hx rfl rfl rfl (pc0 := 369) (pc' := 372) (same := true) rfl (hb hby at_369) rfl (decide_eq_true rfl) (by decide) (by decide) k) ?_
    show own_Go p e s below _ _ _ T182 (mkF m 372 #[.val (.long q0), .second, .val (.int p1), .val (.int p2), .val (.int p3), .val (.int p4), .val (.int qq0), .val (.int qq1), .val (.int qq2), .val (.int (2 : Int32)), .val (.ref u0), .val (.ref u1), .val (.ref u2), .val (.ref bt), .val (.ref u2), .val (.ref u2), .unset] [])
    refine own_st (fun _ k => XS.aload X182.here hx rfl (hb hby at_372) rfl rfl k) ?_
    show own_Go p e s below _ _ _ T182 (mkF m 374 #[.val (.long q0), .second, .val (.int p1), .val (.int p2), .val (.int p3), .val (.int p4), .val (.int qq0), .val (.int qq1), .val (.int qq2), .val (.int (2 : Int32)), .val (.ref u0), .val (.ref u1), .val (.ref u2), .val (.ref bt), .val (.ref u2), .val (.ref u2), .unset] [(.ref u0)])
    refine own_st (fun _ k => XS.iconst X182.here hx rfl (hb hby at_374) k) ?_
    show own_Go p e s below _ _ _ T182 (mkF m 375 #[.val (.long q0), .second, .val (.int p1), .val (.int p2), .val (.int p3), .val (.int p4), .val (.int qq0), .val (.int qq1), .val (.int qq2), .val (.int (2 : Int32)), .val (.ref u0), .val (.ref u1), .val (.ref u2), .val (.ref bt), .val (.ref u2), .val (.ref u2), .unset] [(.int (0 : Int32)), (.ref u0)])
    refine own_st (own_ldI X182 hx hZ e182 V_u0 (j := (0 : Int32)) (x := qq0) ⟨by decide, by decide⟩ rfl (g := (mkF m 375 #[.val (.long q0), .second, .val (.int p1), .val (.int p2), .val (.int p3), .val (.int p4), .val (.int qq0), .val (.int qq1), .val (.int qq2), .val (.int (2 : Int32)), .val (.ref u0), .val (.ref u1), .val (.ref u2), .val (.ref bt), .val (.ref u2), .val (.ref u2), .unset] [(.int (0 : Int32)), (.ref u0)])) rfl rfl (hb hby at_375)) ?_
    show own_Go p e s below _ _ _ T182 (mkF m 376 #[.val (.long q0), .second, .val (.int p1), .val (.int p2), .val (.int p3), .val (.int p4), .val (.int qq0), .val (.int qq1), .val (.int qq2), .val (.int (2 : Int32)), .val (.ref u0), .val (.ref u1), .val (.ref u2), .val (.ref bt), .val (.ref u2), .val (.ref u2), .unset] [(.int qq0)])
    refine own_st (fun _ k => XS.iload X182.here hx rfl (hb hby at_376) rfl k) ?_
    show own_Go p e s below _ _ _ T182 (mkF m 378 #[.val (.long q0), .second, .val (.int p1), .val (.int p2), .val (.int p3), .val (.int p4), .val (.int qq0), .val (.int qq1), .val (.int qq2), .val (.int (2 : Int32)), .val (.ref u0), .val (.ref u1), .val (.ref u2), .val (.ref bt), .val (.ref u2), .val (.ref u2), .unset] [(.int qq0), (.int qq0)])
    refine own_st (fun _ k => XS.icmpNo X182.here hx rfl (hb hby at_378) rfl (teq (rfl : qq0 = qq0)).2 k) ?_
    show own_Go p e s below _ _ _ T182 (mkF m 381 #[.val (.long q0), .second, .val (.int p1), .val (.int p2), .val (.int p3), .val (.int p4), .val (.int qq0), .val (.int qq1), .val (.int qq2), .val (.int (2 : Int32)), .val (.ref u0), .val (.ref u1), .val (.ref u2), .val (.ref bt), .val (.ref u2), .val (.ref u2), .unset] [])
    refine own_st (fun _ k => XS.aload X182.here hx rfl (hb hby at_381) rfl rfl k) ?_
    show own_Go p e s below _ _ _ T182 (mkF m 383 #[.val (.long q0), .second, .val (.int p1), .val (.int p2), .val (.int p3), .val (.int p4), .val (.int qq0), .val (.int qq1), .val (.int qq2), .val (.int (2 : Int32)), .val (.ref u0), .val (.ref u1), .val (.ref u2), .val (.ref bt), .val (.ref u2), .val (.ref u2), .unset] [(.ref u0)])
    refine own_st (fun _ k => XS.iconst X182.here hx rfl (hb hby at_383) k) ?_
    show own_Go p e s below _ _ _ T182 (mkF m 384 #[.val (.long q0), .second, .val (.int p1), .val (.int p2), .val (.int p3), .val (.int p4), .val (.int qq0), .val (.int qq1), .val (.int qq2), .val (.int (2 : Int32)), .val (.ref u0), .val (.ref u1), .val (.ref u2), .val (.ref bt), .val (.ref u2), .val (.ref u2), .unset] [(.int (1 : Int32)), (.ref u0)])
    refine own_st (own_ldI X182 hx hZ e182 V_u0 (j := (1 : Int32)) (x := qq1) ⟨by decide, by decide⟩ rfl (g := (mkF m 384 #[.val (.long q0), .second, .val (.int p1), .val (.int p2), .val (.int p3), .val (.int p4), .val (.int qq0), .val (.int qq1), .val (.int qq2), .val (.int (2 : Int32)), .val (.ref u0), .val (.ref u1), .val (.ref u2), .val (.ref bt), .val (.ref u2), .val (.ref u2), .unset] [(.int (1 : Int32)), (.ref u0)])) rfl rfl (hb hby at_384)) ?_
    show own_Go p e s below _ _ _ T182 (mkF m 385 #[.val (.long q0), .second, .val (.int p1), .val (.int p2), .val (.int p3), .val (.int p4), .val (.int qq0), .val (.int qq1), .val (.int qq2), .val (.int (2 : Int32)), .val (.ref u0), .val (.ref u1), .val (.ref u2), .val (.ref bt), .val (.ref u2), .val (.ref u2), .unset] [(.int qq1)])
    refine own_st (fun _ k => XS.iload X182.here hx rfl (hb hby at_385) rfl k) ?_
    show own_Go p e s below _ _ _ T182 (mkF m 387 #[.val (.long q0), .second, .val (.int p1), .val (.int p2), .val (.int p3), .val (.int p4), .val (.int qq0), .val (.int qq1), .val (.int qq2), .val (.int (2 : Int32)), .val (.ref u0), .val (.ref u1), .val (.ref u2), .val (.ref bt), .val (.ref u2), .val (.ref u2), .unset] [(.int qq1), (.int qq1)])
    refine own_st (fun _ k => XS.icmpNo X182.here hx rfl (hb hby at_387) rfl (teq (rfl : qq1 = qq1)).2 k) ?_
    show own_Go p e s below _ _ _ T182 (mkF m 390 #[.val (.long q0), .second, .val (.int p1), .val (.int p2), .val (.int p3), .val (.int p4), .val (.int qq0), .val (.int qq1), .val (.int qq2), .val (.int (2 : Int32)), .val (.ref u0), .val (.ref u1), .val (.ref u2), .val (.ref bt), .val (.ref u2), .val (.ref u2), .unset] [])
    refine own_st (fun _ k => XS.aload X182.here hx rfl (hb hby at_390) rfl rfl k) ?_
    show own_Go p e s below _ _ _ T182 (mkF m 392 #[.val (.long q0), .second, .val (.int p1), .val (.int p2), .val (.int p3), .val (.int p4), .val (.int qq0), .val (.int qq1), .val (.int qq2), .val (.int (2 : Int32)), .val (.ref u0), .val (.ref u1), .val (.ref u2), .val (.ref bt), .val (.ref u2), .val (.ref u2), .unset] [(.ref u0)])
    refine own_st (fun _ k => XS.iconst X182.here hx rfl (hb hby at_392) k) ?_
    show own_Go p e s below _ _ _ T182 (mkF m 393 #[.val (.long q0), .second, .val (.int p1), .val (.int p2), .val (.int p3), .val (.int p4), .val (.int qq0), .val (.int qq1), .val (.int qq2), .val (.int (2 : Int32)), .val (.ref u0), .val (.ref u1), .val (.ref u2), .val (.ref bt), .val (.ref u2), .val (.ref u2), .unset] [(.int (2 : Int32)), (.ref u0)])
    refine own_st (own_ldI X182 hx hZ e182 V_u0 (j := (2 : Int32)) (x := qq2) ⟨by decide, by decide⟩ rfl (g := (mkF m 393 #[.val (.long q0), .second, .val (.int p1), .val (.int p2), .val (.int p3), .val (.int p4), .val (.int qq0), .val (.int qq1), .val (.int qq2), .val (.int (2 : Int32)), .val (.ref u0), .val (.ref u1), .val (.ref u2), .val (.ref bt), .val (.ref u2), .val (.ref u2), .unset] [(.int (2 : Int32)), (.ref u0)])) rfl rfl (hb hby at_393)) ?_
    show own_Go p e s below _ _ _ T182 (mkF m 394 #[.val (.long q0), .second, .val (.int p1), .val (.int p2), .val (.int p3), .val (.int p4), .val (.int qq0), .val (.int qq1), .val (.int qq2), .val (.int (2 : Int32)), .val (.ref u0), .val (.ref u1), .val (.ref u2), .val (.ref bt), .val (.ref u2), .val (.ref u2), .unset] [(.int qq2)])
    refine own_st (fun _ k => XS.iload X182.here hx rfl (hb hby at_394) rfl k) ?_
    show own_Go p e s below _ _ _ T182 (mkF m 396 #[.val (.long q0), .second, .val (.int p1), .val (.int p2), .val (.int p3), .val (.int p4), .val (.int qq0), .val (.int qq1), .val (.int qq2), .val (.int (2 : Int32)), .val (.ref u0), .val (.ref u1), .val (.ref u2), .val (.ref bt), .val (.ref u2), .val (.ref u2), .unset] [(.int qq2), (.int qq2)])
    refine own_st (fun _ k => XS.icmpNo X182.here hx rfl (hb hby at_396) rfl (teq (rfl : qq2 = qq2)).2 k) ?_
    show own_Go p e s below _ _ _ T182 (mkF m 399 #[.val (.long q0), .second, .val (.int p1), .val (.int p2), .val (.int p3), .val (.int p4), .val (.int qq0), .val (.int qq1), .val (.int qq2), .val (.int (2 : Int32)), .val (.ref u0), .val (.ref u1), .val (.ref u2), .val (.ref bt), .val (.ref u2), .val (.ref u2), .unset] [])
    refine own_st (fun _ k => XS.iconst X182.here hx rfl (hb hby at_399) k) ?_
    show own_Go p e s below _ _ _ T182 (mkF m 400 #[.val (.long q0), .second, .val (.int p1), .val (.int p2), .val (.int p3), .val (.int p4), .val (.int qq0), .val (.int qq1), .val (.int qq2), .val (.int (2 : Int32)), .val (.ref u0), .val (.ref u1), .val (.ref u2), .val (.ref bt), .val (.ref u2), .val (.ref u2), .unset] [(.int (1 : Int32))])
    refine own_st (fun _ k => XS.goto X182.here hx rfl (pc0 := 400) (pc' := 404) rfl (hb hby at_400) (by decide) (by decide) k) ?_
    show own_Go p e s below _ _ _ T182 (mkF m 404 #[.val (.long q0), .second, .val (.int p1), .val (.int p2), .val (.int p3), .val (.int p4), .val (.int qq0), .val (.int qq1), .val (.int qq2), .val (.int (2 : Int32)), .val (.ref u0), .val (.ref u1), .val (.ref u2), .val (.ref bt), .val (.ref u2), .val (.ref u2), .unset] [(.int (1 : Int32))])
    refine own_st (fun _ k => XS.istore X182.here hx rfl (hb hby at_404) rfl (l' := #[.val (.long q0), .second, .val (.int p1), .val (.int p2), .val (.int p3), .val (.int p4), .val (.int qq0), .val (.int qq1), .val (.int qq2), .val (.int (2 : Int32)), .val (.ref u0), .val (.ref u1), .val (.ref u2), .val (.ref bt), .val (.ref u2), .val (.ref u2), .val (.int (1 : Int32))]) rfl k) ?_
    show own_Go p e s below _ _ _ T182 (mkF m 406 #[.val (.long q0), .second, .val (.int p1), .val (.int p2), .val (.int p3), .val (.int p4), .val (.int qq0), .val (.int qq1), .val (.int qq2), .val (.int (2 : Int32)), .val (.ref u0), .val (.ref u1), .val (.ref u2), .val (.ref bt), .val (.ref u2), .val (.ref u2), .val (.int (1 : Int32))] [])
    refine own_st (fun _ k => XS.goto X182.here hx rfl (pc0 := 406) (pc' := 423) rfl (hb hby at_406) (by decide) (by decide) k) ?_
    show own_Go p e s below _ _ _ T182 (mkF m 423 #[.val (.long q0), .second, .val (.int p1), .val (.int p2), .val (.int p3), .val (.int p4), .val (.int qq0), .val (.int qq1), .val (.int qq2), .val (.int (2 : Int32)), .val (.ref u0), .val (.ref u1), .val (.ref u2), .val (.ref bt), .val (.ref u2), .val (.ref u2), .val (.int (1 : Int32))] [])
    refine own_st (fun _ k => XS.iload X182.here hx rfl (hb hby at_423) rfl k) ?_
    show own_Go p e s below _ _ _ T182 (mkF m 425 #[.val (.long q0), .second, .val (.int p1), .val (.int p2), .val (.int p3), .val (.int p4), .val (.int qq0), .val (.int qq1), .val (.int qq2), .val (.int (2 : Int32)), .val (.ref u0), .val (.ref u1), .val (.ref u2), .val (.ref bt), .val (.ref u2), .val (.ref u2), .val (.int (1 : Int32))] [(.int (1 : Int32))])
    refine own_st (fun _ k => XS.ifNo X182.here hx rfl (hb hby at_425) rfl (by decide) k) ?_
    show own_Go p e s below _ _ _ T182 (mkF m 428 #[.val (.long q0), .second, .val (.int p1), .val (.int p2), .val (.int p3), .val (.int p4), .val (.int qq0), .val (.int qq1), .val (.int qq2), .val (.int (2 : Int32)), .val (.ref u0), .val (.ref u1), .val (.ref u2), .val (.ref bt), .val (.ref u2), .val (.ref u2), .val (.int (1 : Int32))] [])
    refine own_st (fun _ k => XS.aload X182.here hx rfl (hb hby at_428) rfl rfl k) ?_
    show own_Go p e s below _ _ _ T182 (mkF m 430 #[.val (.long q0), .second, .val (.int p1), .val (.int p2), .val (.int p3), .val (.int p4), .val (.int qq0), .val (.int qq1), .val (.int qq2), .val (.int (2 : Int32)), .val (.ref u0), .val (.ref u1), .val (.ref u2), .val (.ref bt), .val (.ref u2), .val (.ref u2), .val (.int (1 : Int32))] [(.ref u2)])
    refine own_st (fun _ k => XS.iconst X182.here hx rfl (hb hby at_430) k) ?_
    show own_Go p e s below _ _ _ T182 (mkF m 431 #[.val (.long q0), .second, .val (.int p1), .val (.int p2), .val (.int p3), .val (.int p4), .val (.int qq0), .val (.int qq1), .val (.int qq2), .val (.int (2 : Int32)), .val (.ref u0), .val (.ref u1), .val (.ref u2), .val (.ref bt), .val (.ref u2), .val (.ref u2), .val (.int (1 : Int32))] [(.int (0 : Int32)), (.ref u2)])
    refine own_st (own_ldI X182 hx hZ e182 V_u2 (j := (0 : Int32)) (x := (own_pick qq0 p1 p2 p3)) ⟨by decide, by decide⟩ rfl (g := (mkF m 431 #[.val (.long q0), .second, .val (.int p1), .val (.int p2), .val (.int p3), .val (.int p4), .val (.int qq0), .val (.int qq1), .val (.int qq2), .val (.int (2 : Int32)), .val (.ref u0), .val (.ref u1), .val (.ref u2), .val (.ref bt), .val (.ref u2), .val (.ref u2), .val (.int (1 : Int32))] [(.int (0 : Int32)), (.ref u2)])) rfl rfl (hb hby at_431)) ?_
    show own_Go p e s below _ _ _ T182 (mkF m 432 #[.val (.long q0), .second, .val (.int p1), .val (.int p2), .val (.int p3), .val (.int p4), .val (.int qq0), .val (.int qq1), .val (.int qq2), .val (.int (2 : Int32)), .val (.ref u0), .val (.ref u1), .val (.ref u2), .val (.ref bt), .val (.ref u2), .val (.ref u2), .val (.int (1 : Int32))] [(.int (own_pick qq0 p1 p2 p3))])
    refine own_st (fun _ k => XS.iload X182.here hx rfl (hb hby at_432) rfl k) ?_
    show own_Go p e s below _ _ _ T182 (mkF m 434 #[.val (.long q0), .second, .val (.int p1), .val (.int p2), .val (.int p3), .val (.int p4), .val (.int qq0), .val (.int qq1), .val (.int qq2), .val (.int (2 : Int32)), .val (.ref u0), .val (.ref u1), .val (.ref u2), .val (.ref bt), .val (.ref u2), .val (.ref u2), .val (.int (1 : Int32))] [(.int qq0), (.int (own_pick qq0 p1 p2 p3))])
    refine own_st (fun _ k => XS.iloadN X182.here hx rfl (hb hby at_434) rfl k) ?_
    show own_Go p e s below _ _ _ T182 (mkF m 435 #[.val (.long q0), .second, .val (.int p1), .val (.int p2), .val (.int p3), .val (.int p4), .val (.int qq0), .val (.int qq1), .val (.int qq2), .val (.int (2 : Int32)), .val (.ref u0), .val (.ref u1), .val (.ref u2), .val (.ref bt), .val (.ref u2), .val (.ref u2), .val (.int (1 : Int32))] [(.int p1), (.int qq0), (.int (own_pick qq0 p1 p2 p3))])
    refine own_st (fun _ k => XS.iloadN X182.here hx rfl (hb hby at_435) rfl k) ?_
    show own_Go p e s below _ _ _ T182 (mkF m 436 #[.val (.long q0), .second, .val (.int p1), .val (.int p2), .val (.int p3), .val (.int p4), .val (.int qq0), .val (.int qq1), .val (.int qq2), .val (.int (2 : Int32)), .val (.ref u0), .val (.ref u1), .val (.ref u2), .val (.ref bt), .val (.ref u2), .val (.ref u2), .val (.int (1 : Int32))] [(.int p2), (.int p1), (.int qq0), (.int (own_pick qq0 p1 p2 p3))])
    refine own_st (fun _ k => XS.iload X182.here hx rfl (hb hby at_436) rfl k) ?_
    show own_Go p e s below _ _ _ T182 (mkF m 438 #[.val (.long q0), .second, .val (.int p1), .val (.int p2), .val (.int p3), .val (.int p4), .val (.int qq0), .val (.int qq1), .val (.int qq2), .val (.int (2 : Int32)), .val (.ref u0), .val (.ref u1), .val (.ref u2), .val (.ref bt), .val (.ref u2), .val (.ref u2), .val (.int (1 : Int32))] [(.int p3), (.int p2), (.int p1), (.int qq0), (.int (own_pick qq0 p1 p2 p3))])
    refine own_callS X182 hx hZ (y := (⟨"com/example/hush5/hush5/search/TupleClassesClassOfPinLaw", "pick", "(IIII)I"⟩ : MethodName)) hown (hw _ (List.mem_of_getElem? (i := 25) rfl)) (hw _ (List.mem_of_getElem? (i := 26) rfl)) (hw _ (List.mem_of_getElem? (i := 27) rfl)) (hw _ (List.mem_of_getElem? (i := 28) rfl)) (by decide) e182 (rm4 l Z a0 hw [] qq0 p1 p2 p3 T180.heap n0 Z181) 1 (by decide) (by decide) (g := (mkF m 438 #[.val (.long q0), .second, .val (.int p1), .val (.int p2), .val (.int p3), .val (.int p4), .val (.int qq0), .val (.int qq1), .val (.int qq2), .val (.int (2 : Int32)), .val (.ref u0), .val (.ref u1), .val (.ref u2), .val (.ref bt), .val (.ref u2), .val (.ref u2), .val (.int (1 : Int32))] [(.int p3), (.int p2), (.int p1), (.int qq0), (.int (own_pick qq0 p1 p2 p3))])) rfl (by rw [hml]; rfl) (argsL := [(.int qq0), (.int p1), (.int p2), (.int p3)]) (rest := [(.int (own_pick qq0 p1 p2 p3))]) pd2 rfl rfl rfl (by show 2 * 0 + _ ≤ _; exact Nat.le_of_eq rfl) (hb hby at_438) (by decide) (by decide) ?_
    intro T183 v183 L183 X183 hQ183
    obtain ⟨rfl, N183q, e183⟩ := hQ183
    have N183 := Fr.app N182 N183q
    show own_Go p e s below _ _ _ T183 (mkF m 441 #[.val (.long q0), .second, .val (.int p1), .val (.int p2), .val (.int p3), .val (.int p4), .val (.int qq0), .val (.int qq1), .val (.int qq2), .val (.int (2 : Int32)), .val (.ref u0), .val (.ref u1), .val (.ref u2), .val (.ref bt), .val (.ref u2), .val (.ref u2), .val (.int (1 : Int32))] [(.int (own_pick qq0 p1 p2 p3)), (.int (own_pick qq0 p1 p2 p3))])
    refine own_st (fun _ k => XS.icmpNo X183.here hx rfl (hb hby at_441) rfl (teq (rfl : (own_pick qq0 p1 p2 p3) = (own_pick qq0 p1 p2 p3))).2 k) ?_
    show own_Go p e s below _ _ _ T183 (mkF m 444 #[.val (.long q0), .second, .val (.int p1), .val (.int p2), .val (.int p3), .val (.int p4), .val (.int qq0), .val (.int qq1), .val (.int qq2), .val (.int (2 : Int32)), .val (.ref u0), .val (.ref u1), .val (.ref u2), .val (.ref bt), .val (.ref u2), .val (.ref u2), .val (.int (1 : Int32))] [])
    refine own_st (fun _ k => XS.aload X183.here hx rfl (hb hby at_444) rfl rfl k) ?_
    show own_Go p e s below _ _ _ T183 (mkF m 446 #[.val (.long q0), .second, .val (.int p1), .val (.int p2), .val (.int p3), .val (.int p4), .val (.int qq0), .val (.int qq1), .val (.int qq2), .val (.int (2 : Int32)), .val (.ref u0), .val (.ref u1), .val (.ref u2), .val (.ref bt), .val (.ref u2), .val (.ref u2), .val (.int (1 : Int32))] [(.ref u2)])
    refine own_st (fun _ k => XS.iconst X183.here hx rfl (hb hby at_446) k) ?_
    show own_Go p e s below _ _ _ T183 (mkF m 447 #[.val (.long q0), .second, .val (.int p1), .val (.int p2), .val (.int p3), .val (.int p4), .val (.int qq0), .val (.int qq1), .val (.int qq2), .val (.int (2 : Int32)), .val (.ref u0), .val (.ref u1), .val (.ref u2), .val (.ref bt), .val (.ref u2), .val (.ref u2), .val (.int (1 : Int32))] [(.int (1 : Int32)), (.ref u2)])
    refine own_st (own_ldI X183 hx hZ e183 V_u2 (j := (1 : Int32)) (x := (own_pick qq1 p1 p2 p3)) ⟨by decide, by decide⟩ rfl (g := (mkF m 447 #[.val (.long q0), .second, .val (.int p1), .val (.int p2), .val (.int p3), .val (.int p4), .val (.int qq0), .val (.int qq1), .val (.int qq2), .val (.int (2 : Int32)), .val (.ref u0), .val (.ref u1), .val (.ref u2), .val (.ref bt), .val (.ref u2), .val (.ref u2), .val (.int (1 : Int32))] [(.int (1 : Int32)), (.ref u2)])) rfl rfl (hb hby at_447)) ?_
    show own_Go p e s below _ _ _ T183 (mkF m 448 #[.val (.long q0), .second, .val (.int p1), .val (.int p2), .val (.int p3), .val (.int p4), .val (.int qq0), .val (.int qq1), .val (.int qq2), .val (.int (2 : Int32)), .val (.ref u0), .val (.ref u1), .val (.ref u2), .val (.ref bt), .val (.ref u2), .val (.ref u2), .val (.int (1 : Int32))] [(.int (own_pick qq1 p1 p2 p3))])
    refine own_st (fun _ k => XS.iload X183.here hx rfl (hb hby at_448) rfl k) ?_
    show own_Go p e s below _ _ _ T183 (mkF m 450 #[.val (.long q0), .second, .val (.int p1), .val (.int p2), .val (.int p3), .val (.int p4), .val (.int qq0), .val (.int qq1), .val (.int qq2), .val (.int (2 : Int32)), .val (.ref u0), .val (.ref u1), .val (.ref u2), .val (.ref bt), .val (.ref u2), .val (.ref u2), .val (.int (1 : Int32))] [(.int qq1), (.int (own_pick qq1 p1 p2 p3))])
    refine own_st (fun _ k => XS.iloadN X183.here hx rfl (hb hby at_450) rfl k) ?_
    show own_Go p e s below _ _ _ T183 (mkF m 451 #[.val (.long q0), .second, .val (.int p1), .val (.int p2), .val (.int p3), .val (.int p4), .val (.int qq0), .val (.int qq1), .val (.int qq2), .val (.int (2 : Int32)), .val (.ref u0), .val (.ref u1), .val (.ref u2), .val (.ref bt), .val (.ref u2), .val (.ref u2), .val (.int (1 : Int32))] [(.int p1), (.int qq1), (.int (own_pick qq1 p1 p2 p3))])
    refine own_st (fun _ k => XS.iloadN X183.here hx rfl (hb hby at_451) rfl k) ?_
    show own_Go p e s below _ _ _ T183 (mkF m 452 #[.val (.long q0), .second, .val (.int p1), .val (.int p2), .val (.int p3), .val (.int p4), .val (.int qq0), .val (.int qq1), .val (.int qq2), .val (.int (2 : Int32)), .val (.ref u0), .val (.ref u1), .val (.ref u2), .val (.ref bt), .val (.ref u2), .val (.ref u2), .val (.int (1 : Int32))] [(.int p2), (.int p1), (.int qq1), (.int (own_pick qq1 p1 p2 p3))])
    refine own_st (fun _ k => XS.iload X183.here hx rfl (hb hby at_452) rfl k) ?_
    show own_Go p e s below _ _ _ T183 (mkF m 454 #[.val (.long q0), .second, .val (.int p1), .val (.int p2), .val (.int p3), .val (.int p4), .val (.int qq0), .val (.int qq1), .val (.int qq2), .val (.int (2 : Int32)), .val (.ref u0), .val (.ref u1), .val (.ref u2), .val (.ref bt), .val (.ref u2), .val (.ref u2), .val (.int (1 : Int32))] [(.int p3), (.int p2), (.int p1), (.int qq1), (.int (own_pick qq1 p1 p2 p3))])
    refine own_callS X183 hx hZ (y := (⟨"com/example/hush5/hush5/search/TupleClassesClassOfPinLaw", "pick", "(IIII)I"⟩ : MethodName)) hown (hw _ (List.mem_of_getElem? (i := 25) rfl)) (hw _ (List.mem_of_getElem? (i := 26) rfl)) (hw _ (List.mem_of_getElem? (i := 27) rfl)) (hw _ (List.mem_of_getElem? (i := 28) rfl)) (by decide) e183 (rm4 l Z a0 hw [] qq1 p1 p2 p3 T180.heap n0 Z181) 1 (by decide) (by decide) (g := (mkF m 454 #[.val (.long q0), .second, .val (.int p1), .val (.int p2), .val (.int p3), .val (.int p4), .val (.int qq0), .val (.int qq1), .val (.int qq2), .val (.int (2 : Int32)), .val (.ref u0), .val (.ref u1), .val (.ref u2), .val (.ref bt), .val (.ref u2), .val (.ref u2), .val (.int (1 : Int32))] [(.int p3), (.int p2), (.int p1), (.int qq1), (.int (own_pick qq1 p1 p2 p3))])) rfl (by rw [hml]; rfl) (argsL := [(.int qq1), (.int p1), (.int p2), (.int p3)]) (rest := [(.int (own_pick qq1 p1 p2 p3))]) pd2 rfl rfl rfl (by show 2 * 0 + _ ≤ _; exact Nat.le_of_eq rfl) (hb hby at_454) (by decide) (by decide) ?_
    intro T184 v184 L184 X184 hQ184
    obtain ⟨rfl, N184q, e184⟩ := hQ184
    have N184 := Fr.app N183 N184q
    show own_Go p e s below _ _ _ T184 (mkF m 457 #[.val (.long q0), .second, .val (.int p1), .val (.int p2), .val (.int p3), .val (.int p4), .val (.int qq0), .val (.int qq1), .val (.int qq2), .val (.int (2 : Int32)), .val (.ref u0), .val (.ref u1), .val (.ref u2), .val (.ref bt), .val (.ref u2), .val (.ref u2), .val (.int (1 : Int32))] [(.int (own_pick qq1 p1 p2 p3)), (.int (own_pick qq1 p1 p2 p3))])
    refine own_st (fun _ k => XS.icmpNo X184.here hx rfl (hb hby at_457) rfl (teq (rfl : (own_pick qq1 p1 p2 p3) = (own_pick qq1 p1 p2 p3))).2 k) ?_
    show own_Go p e s below _ _ _ T184 (mkF m 460 #[.val (.long q0), .second, .val (.int p1), .val (.int p2), .val (.int p3), .val (.int p4), .val (.int qq0), .val (.int qq1), .val (.int qq2), .val (.int (2 : Int32)), .val (.ref u0), .val (.ref u1), .val (.ref u2), .val (.ref bt), .val (.ref u2), .val (.ref u2), .val (.int (1 : Int32))] [])
    refine own_st (fun _ k => XS.aload X184.here hx rfl (hb hby at_460) rfl rfl k) ?_
    show own_Go p e s below _ _ _ T184 (mkF m 462 #[.val (.long q0), .second, .val (.int p1), .val (.int p2), .val (.int p3), .val (.int p4), .val (.int qq0), .val (.int qq1), .val (.int qq2), .val (.int (2 : Int32)), .val (.ref u0), .val (.ref u1), .val (.ref u2), .val (.ref bt), .val (.ref u2), .val (.ref u2), .val (.int (1 : Int32))] [(.ref u2)])
    refine own_st (fun _ k => XS.iconst X184.here hx rfl (hb hby at_462) k) ?_
    show own_Go p e s below _ _ _ T184 (mkF m 463 #[.val (.long q0), .second, .val (.int p1), .val (.int p2), .val (.int p3), .val (.int p4), .val (.int qq0), .val (.int qq1), .val (.int qq2), .val (.int (2 : Int32)), .val (.ref u0), .val (.ref u1), .val (.ref u2), .val (.ref bt), .val (.ref u2), .val (.ref u2), .val (.int (1 : Int32))] [(.int (2 : Int32)), (.ref u2)])
    refine own_st (own_ldI X184 hx hZ e184 V_u2 (j := (2 : Int32)) (x := (own_pick qq2 p1 p2 p3)) ⟨by decide, by decide⟩ rfl (g := (mkF m 463 #[.val (.long q0), .second, .val (.int p1), .val (.int p2), .val (.int p3), .val (.int p4), .val (.int qq0), .val (.int qq1), .val (.int qq2), .val (.int (2 : Int32)), .val (.ref u0), .val (.ref u1), .val (.ref u2), .val (.ref bt), .val (.ref u2), .val (.ref u2), .val (.int (1 : Int32))] [(.int (2 : Int32)), (.ref u2)])) rfl rfl (hb hby at_463)) ?_
    show own_Go p e s below _ _ _ T184 (mkF m 464 #[.val (.long q0), .second, .val (.int p1), .val (.int p2), .val (.int p3), .val (.int p4), .val (.int qq0), .val (.int qq1), .val (.int qq2), .val (.int (2 : Int32)), .val (.ref u0), .val (.ref u1), .val (.ref u2), .val (.ref bt), .val (.ref u2), .val (.ref u2), .val (.int (1 : Int32))] [(.int (own_pick qq2 p1 p2 p3))])
    refine own_st (fun _ k => XS.iload X184.here hx rfl (hb hby at_464) rfl k) ?_
    show own_Go p e s below _ _ _ T184 (mkF m 466 #[.val (.long q0), .second, .val (.int p1), .val (.int p2), .val (.int p3), .val (.int p4), .val (.int qq0), .val (.int qq1), .val (.int qq2), .val (.int (2 : Int32)), .val (.ref u0), .val (.ref u1), .val (.ref u2), .val (.ref bt), .val (.ref u2), .val (.ref u2), .val (.int (1 : Int32))] [(.int qq2), (.int (own_pick qq2 p1 p2 p3))])
    refine own_st (fun _ k => XS.iloadN X184.here hx rfl (hb hby at_466) rfl k) ?_
    show own_Go p e s below _ _ _ T184 (mkF m 467 #[.val (.long q0), .second, .val (.int p1), .val (.int p2), .val (.int p3), .val (.int p4), .val (.int qq0), .val (.int qq1), .val (.int qq2), .val (.int (2 : Int32)), .val (.ref u0), .val (.ref u1), .val (.ref u2), .val (.ref bt), .val (.ref u2), .val (.ref u2), .val (.int (1 : Int32))] [(.int p1), (.int qq2), (.int (own_pick qq2 p1 p2 p3))])
    refine own_st (fun _ k => XS.iloadN X184.here hx rfl (hb hby at_467) rfl k) ?_
    show own_Go p e s below _ _ _ T184 (mkF m 468 #[.val (.long q0), .second, .val (.int p1), .val (.int p2), .val (.int p3), .val (.int p4), .val (.int qq0), .val (.int qq1), .val (.int qq2), .val (.int (2 : Int32)), .val (.ref u0), .val (.ref u1), .val (.ref u2), .val (.ref bt), .val (.ref u2), .val (.ref u2), .val (.int (1 : Int32))] [(.int p2), (.int p1), (.int qq2), (.int (own_pick qq2 p1 p2 p3))])
    refine own_st (fun _ k => XS.iload X184.here hx rfl (hb hby at_468) rfl k) ?_
    show own_Go p e s below _ _ _ T184 (mkF m 470 #[.val (.long q0), .second, .val (.int p1), .val (.int p2), .val (.int p3), .val (.int p4), .val (.int qq0), .val (.int qq1), .val (.int qq2), .val (.int (2 : Int32)), .val (.ref u0), .val (.ref u1), .val (.ref u2), .val (.ref bt), .val (.ref u2), .val (.ref u2), .val (.int (1 : Int32))] [(.int p3), (.int p2), (.int p1), (.int qq2), (.int (own_pick qq2 p1 p2 p3))])
    refine own_callS X184 hx hZ (y := (⟨"com/example/hush5/hush5/search/TupleClassesClassOfPinLaw", "pick", "(IIII)I"⟩ : MethodName)) hown (hw _ (List.mem_of_getElem? (i := 25) rfl)) (hw _ (List.mem_of_getElem? (i := 26) rfl)) (hw _ (List.mem_of_getElem? (i := 27) rfl)) (hw _ (List.mem_of_getElem? (i := 28) rfl)) (by decide) e184 (rm4 l Z a0 hw [] qq2 p1 p2 p3 T180.heap n0 Z181) 1 (by decide) (by decide) (g := (mkF m 470 #[.val (.long q0), .second, .val (.int p1), .val (.int p2), .val (.int p3), .val (.int p4), .val (.int qq0), .val (.int qq1), .val (.int qq2), .val (.int (2 : Int32)), .val (.ref u0), .val (.ref u1), .val (.ref u2), .val (.ref bt), .val (.ref u2), .val (.ref u2), .val (.int (1 : Int32))] [(.int p3), (.int p2), (.int p1), (.int qq2), (.int (own_pick qq2 p1 p2 p3))])) rfl (by rw [hml]; rfl) (argsL := [(.int qq2), (.int p1), (.int p2), (.int p3)]) (rest := [(.int (own_pick qq2 p1 p2 p3))]) pd2 rfl rfl rfl (by show 2 * 0 + _ ≤ _; exact Nat.le_of_eq rfl) (hb hby at_470) (by decide) (by decide) ?_
    intro T185 v185 L185 X185 hQ185
    obtain ⟨rfl, N185q, e185⟩ := hQ185
    have N185 := Fr.app N184 N185q
    show own_Go p e s below _ _ _ T185 (mkF m 473 #[.val (.long q0), .second, .val (.int p1), .val (.int p2), .val (.int p3), .val (.int p4), .val (.int qq0), .val (.int qq1), .val (.int qq2), .val (.int (2 : Int32)), .val (.ref u0), .val (.ref u1), .val (.ref u2), .val (.ref bt), .val (.ref u2), .val (.ref u2), .val (.int (1 : Int32))] [(.int (own_pick qq2 p1 p2 p3)), (.int (own_pick qq2 p1 p2 p3))])
    refine own_st (fun _ k => XS.icmpNo X185.here hx rfl (hb hby at_473) rfl (teq (rfl : (own_pick qq2 p1 p2 p3) = (own_pick qq2 p1 p2 p3))).2 k) ?_
    show own_Go p e s below _ _ _ T185 (mkF m 476 #[.val (.long q0), .second, .val (.int p1), .val (.int p2), .val (.int p3), .val (.int p4), .val (.int qq0), .val (.int qq1), .val (.int qq2), .val (.int (2 : Int32)), .val (.ref u0), .val (.ref u1), .val (.ref u2), .val (.ref bt), .val (.ref u2), .val (.ref u2), .val (.int (1 : Int32))] [])
    refine own_st (fun _ k => XS.iconst X185.here hx rfl (hb hby at_476) k) ?_
    show own_Go p e s below _ _ _ T185 (mkF m 477 #[.val (.long q0), .second, .val (.int p1), .val (.int p2), .val (.int p3), .val (.int p4), .val (.int qq0), .val (.int qq1), .val (.int qq2), .val (.int (2 : Int32)), .val (.ref u0), .val (.ref u1), .val (.ref u2), .val (.ref bt), .val (.ref u2), .val (.ref u2), .val (.int (1 : Int32))] [(.int (1 : Int32))])
    refine own_st (fun _ k => XS.goto X185.here hx rfl (pc0 := 477) (pc' := 481) rfl (hb hby at_477) (by decide) (by decide) k) ?_
    show own_Go p e s below _ _ _ T185 (mkF m 481 #[.val (.long q0), .second, .val (.int p1), .val (.int p2), .val (.int p3), .val (.int p4), .val (.int qq0), .val (.int qq1), .val (.int qq2), .val (.int (2 : Int32)), .val (.ref u0), .val (.ref u1), .val (.ref u2), .val (.ref bt), .val (.ref u2), .val (.ref u2), .val (.int (1 : Int32))] [(.int (1 : Int32))])
    exact own_retN X185 hx hlk (t := .boolean) hret (by simp) (hb hby at_481) (z' := (1 : Int32)) rfl (by decide) (by decide) ⟨rfl, N185⟩
  · show own_Go p e s below _ _ _ T157 (mkF m 107 #[.val (.long q0), .second, .val (.int p1), .val (.int p2), .val (.int p3), .val (.int p4), .val (.int qq0), .val (.int qq1), .val (.int qq2), .val (.int (3 : Int32)), .val (.ref u0), .val (.ref u1), .val (.ref u2), .unset, .unset, .unset, .unset] [(.int (3 : Int32))])
    refine own_st (fun _ k => XS.ifYes X157.here hx rfl (pc0 := 107) (pc' := 126) rfl (hb hby at_107) rfl (by decide) (by decide) (by decide) k) ?_
    show own_Go p e s below _ _ _ T157 (mkF m 126 #[.val (.long q0), .second, .val (.int p1), .val (.int p2), .val (.int p3), .val (.int p4), .val (.int qq0), .val (.int qq1), .val (.int qq2), .val (.int (3 : Int32)), .val (.ref u0), .val (.ref u1), .val (.ref u2), .unset, .unset, .unset, .unset] [])
    refine own_st (fun _ k => XS.iload X157.here hx rfl (hb hby at_126) rfl k) ?_
    show own_Go p e s below _ _ _ T157 (mkF m 128 #[.val (.long q0), .second, .val (.int p1), .val (.int p2), .val (.int p3), .val (.int p4), .val (.int qq0), .val (.int qq1), .val (.int qq2), .val (.int (3 : Int32)), .val (.ref u0), .val (.ref u1), .val (.ref u2), .unset, .unset, .unset, .unset] [(.int (3 : Int32))])
    refine own_st (fun _ k => XS.iconst X157.here hx rfl (hb hby at_128) k) ?_
    show own_Go p e s below _ _ _ T157 (mkF m 129 #[.val (.long q0), .second, .val (.int p1), .val (.int p2), .val (.int p3), .val (.int p4), .val (.int qq0), .val (.int qq1), .val (.int qq2), .val (.int (3 : Int32)), .val (.ref u0), .val (.ref u1), .val (.ref u2), .unset, .unset, .unset, .unset] [(.int (1 : Int32)), (.int (3 : Int32))])
    refine own_st (fun _ k => XS.icmpYes X157.here hx rfl (pc0 := 129) (pc' := 149) rfl (hb hby at_129) rfl (by decide) (by decide) (by decide) k) ?_
    show own_Go p e s below _ _ _ T157 (mkF m 149 #[.val (.long q0), .second, .val (.int p1), .val (.int p2), .val (.int p3), .val (.int p4), .val (.int qq0), .val (.int qq1), .val (.int qq2), .val (.int (3 : Int32)), .val (.ref u0), .val (.ref u1), .val (.ref u2), .unset, .unset, .unset, .unset] [])
    refine own_st (fun _ k => XS.iload X157.here hx rfl (hb hby at_149) rfl k) ?_
    show own_Go p e s below _ _ _ T157 (mkF m 151 #[.val (.long q0), .second, .val (.int p1), .val (.int p2), .val (.int p3), .val (.int p4), .val (.int qq0), .val (.int qq1), .val (.int qq2), .val (.int (3 : Int32)), .val (.ref u0), .val (.ref u1), .val (.ref u2), .unset, .unset, .unset, .unset] [(.int (3 : Int32))])
    refine own_st (fun _ k => XS.iconst X157.here hx rfl (hb hby at_151) k) ?_
    show own_Go p e s below _ _ _ T157 (mkF m 152 #[.val (.long q0), .second, .val (.int p1), .val (.int p2), .val (.int p3), .val (.int p4), .val (.int qq0), .val (.int qq1), .val (.int qq2), .val (.int (3 : Int32)), .val (.ref u0), .val (.ref u1), .val (.ref u2), .unset, .unset, .unset, .unset] [(.int (2 : Int32)), (.int (3 : Int32))])
    refine own_st (fun _ k => XS.icmpYes X157.here hx rfl (pc0 := 152) (pc' := 173) rfl (hb hby at_152) rfl (by decide) (by decide) (by decide) k) ?_
    show own_Go p e s below _ _ _ T157 (mkF m 173 #[.val (.long q0), .second, .val (.int p1), .val (.int p2), .val (.int p3), .val (.int p4), .val (.int qq0), .val (.int qq1), .val (.int qq2), .val (.int (3 : Int32)), .val (.ref u0), .val (.ref u1), .val (.ref u2), .unset, .unset, .unset, .unset] [])
    obtain ⟨T186, h186, X186, e186, E186, A186, D186, -, st186⟩ := newO X157 hx hZ hown (hw _ (List.mem_of_getElem? (i := 3) rfl)) (hw _ (List.mem_of_getElem? (i := 4) rfl)) (hw _ (List.mem_of_getElem? (i := 5) rfl)) e157 (g := (mkF m 173 #[.val (.long q0), .second, .val (.int p1), .val (.int p2), .val (.int p3), .val (.int p4), .val (.int qq0), .val (.int qq1), .val (.int qq2), .val (.int (3 : Int32)), .val (.ref u0), .val (.ref u1), .val (.ref u2), .unset, .unset, .unset, .unset] [])) rfl (hb hby at_173) (by decide) (by decide)
    obtain ⟨bt, g186⟩ : ∃ z, z = h157.size := ⟨_, rfl⟩
    rw [← g186] at A186 D186 st186
    have g_bt : n0 ≤ bt := Nat.le_trans Z158 (Nat.le_of_eq g186.symm)
    have ne_u0_bt : u0 ≠ bt := Nat.ne_of_lt (Nat.lt_of_lt_of_le E_u0.lt (Nat.le_of_eq g186.symm))
    have ne_bt_u0 := Ne.symm ne_u0_bt
    have ne_u1_bt : u1 ≠ bt := Nat.ne_of_lt (Nat.lt_of_lt_of_le E_u1.lt (Nat.le_of_eq g186.symm))
    have ne_bt_u1 := Ne.symm ne_u1_bt
    have ne_u2_bt : u2 ≠ bt := Nat.ne_of_lt (Nat.lt_of_lt_of_le E_u2.lt (Nat.le_of_eq g186.symm))
    have ne_bt_u2 := Ne.symm ne_u2_bt
    replace E_u0 := E_u0.ext E186
    replace V_u0 := V_u0.ext E186
    replace E_u1 := E_u1.ext E186
    replace V_u1 := V_u1.ext E186
    replace E_u2 := E_u2.ext E186
    replace V_u2 := V_u2.ext E186
    have Z187 := Nat.le_trans Z158 E186.1
    have E_bt := A186
    have F_partOf_bt : Fld Z h186 bt "com/example/hush5/hush5/search/TupleClasses" "partOf" "[I" .null := D186 (Or.inr (hw _ (List.mem_of_getElem? (i := 13) rfl))) (ty := (.array .int)) (by decide)
    have F_classOfPart_bt : Fld Z h186 bt "com/example/hush5/hush5/search/TupleClasses" "classOfPart" "[I" .null := D186 (Or.inr (hw _ (List.mem_of_getElem? (i := 15) rfl))) (ty := (.array .int)) (by decide)
    have F_target_bt : Fld Z h186 bt "com/example/hush5/hush5/search/TupleClasses" "target" "[I" .null := D186 (Or.inr (hw _ (List.mem_of_getElem? (i := 17) rfl))) (ty := (.array .int)) (by decide)
    have F_classOf_bt : Fld Z h186 bt "com/example/hush5/hush5/search/TupleClasses" "classOf" "[I" .null := D186 (Or.inl (hw _ (List.mem_of_getElem? (i := 24) rfl))) (ty := (.array .int)) (by decide)
    refine own_st st186 ?_
    show own_Go p e s below _ _ _ T186 (mkF m 176 #[.val (.long q0), .second, .val (.int p1), .val (.int p2), .val (.int p3), .val (.int p4), .val (.int qq0), .val (.int qq1), .val (.int qq2), .val (.int (3 : Int32)), .val (.ref u0), .val (.ref u1), .val (.ref u2), .unset, .unset, .unset, .unset] [(.ref bt)])
    refine own_st (fun _ k => XS.dup X186.here hx rfl (hb hby at_176) rfl rfl k) ?_
    show own_Go p e s below _ _ _ T186 (mkF m 177 #[.val (.long q0), .second, .val (.int p1), .val (.int p2), .val (.int p3), .val (.int p4), .val (.int qq0), .val (.int qq1), .val (.int qq2), .val (.int (3 : Int32)), .val (.ref u0), .val (.ref u1), .val (.ref u2), .unset, .unset, .unset, .unset] [(.ref bt), (.ref bt)])
    refine own_st (fun _ k => XS.aload X186.here hx rfl (hb hby at_177) rfl rfl k) ?_
    show own_Go p e s below _ _ _ T186 (mkF m 179 #[.val (.long q0), .second, .val (.int p1), .val (.int p2), .val (.int p3), .val (.int p4), .val (.int qq0), .val (.int qq1), .val (.int qq2), .val (.int (3 : Int32)), .val (.ref u0), .val (.ref u1), .val (.ref u2), .unset, .unset, .unset, .unset] [(.ref u0), (.ref bt), (.ref bt)])
    refine own_st (fun _ k => XS.aload X186.here hx rfl (hb hby at_179) rfl rfl k) ?_
    show own_Go p e s below _ _ _ T186 (mkF m 181 #[.val (.long q0), .second, .val (.int p1), .val (.int p2), .val (.int p3), .val (.int p4), .val (.int qq0), .val (.int qq1), .val (.int qq2), .val (.int (3 : Int32)), .val (.ref u0), .val (.ref u1), .val (.ref u2), .unset, .unset, .unset, .unset] [(.ref u1), (.ref u0), (.ref bt), (.ref bt)])
    refine own_st (fun _ k => XS.aload X186.here hx rfl (hb hby at_181) rfl rfl k) ?_
    show own_Go p e s below _ _ _ T186 (mkF m 183 #[.val (.long q0), .second, .val (.int p1), .val (.int p2), .val (.int p3), .val (.int p4), .val (.int qq0), .val (.int qq1), .val (.int qq2), .val (.int (3 : Int32)), .val (.ref u0), .val (.ref u1), .val (.ref u2), .unset, .unset, .unset, .unset] [(.ref u0), (.ref u1), (.ref u0), (.ref bt), (.ref bt)])
    refine own_callN X186 hx hZ (y := (⟨"com/example/hush5/hush5/search/TupleClasses", "<init>", "([I[I[I)V"⟩ : MethodName)) rfl hown (hw _ (List.mem_of_getElem? (i := 6) rfl)) (hw _ (List.mem_of_getElem? (i := 7) rfl)) (hw _ (List.mem_of_getElem? (i := 5) rfl)) (hw _ (List.mem_of_getElem? (i := 8) rfl)) (by decide) e186 (rm1_2 l Z a0 hw [] bt u0 u1 u0 h186 n0 Z187 E_bt F_partOf_bt F_classOfPart_bt F_target_bt F_classOf_bt g_bt) 1 (by decide) (by decide) (g := (mkF m 183 #[.val (.long q0), .second, .val (.int p1), .val (.int p2), .val (.int p3), .val (.int p4), .val (.int qq0), .val (.int qq1), .val (.int qq2), .val (.int (3 : Int32)), .val (.ref u0), .val (.ref u1), .val (.ref u2), .unset, .unset, .unset, .unset] [(.ref u0), (.ref u1), (.ref u0), (.ref bt), (.ref bt)])) rfl (by rw [hml]; rfl) (a := bt) (argsL := [(.ref u0), (.ref u1), (.ref u0)]) (rest := [(.ref bt)]) pd0 rfl rfl rfl (by show 2 * 0 + _ ≤ _; exact Nat.le_of_eq rfl) (hb hby at_183) (by decide) (by decide) ?_
    intro T188 v188 L188 X188 hQ188
    obtain ⟨rfl, N188q, K188q, y188_0, y188_1, y188_2, y188_3, y188_4⟩ := hQ188
    have N188 := Fr.app N157 N188q
    replace E_u0 := E_u0.keep K188q
    replace V_u0 := V_u0.keep K188q (ninS ne_u0_bt nin0)
    replace E_u1 := E_u1.keep K188q
    replace V_u1 := V_u1.keep K188q (ninS ne_u1_bt nin0)
    replace E_u2 := E_u2.keep K188q
    replace V_u2 := V_u2.keep K188q (ninS ne_u2_bt nin0)
    replace E_bt := E_bt.keep K188q
    clear F_partOf_bt
    clear F_classOfPart_bt
    clear F_target_bt
    clear F_classOf_bt
    have Z189 := Nat.le_trans Z187 K188q.1
    have E_bt := y188_0
    have F_partOf_bt := y188_1
    have F_classOfPart_bt := y188_2
    have F_target_bt := y188_3
    have F_classOf_bt := y188_4
    show own_Go p e s below _ _ _ T188 (mkF m 186 #[.val (.long q0), .second, .val (.int p1), .val (.int p2), .val (.int p3), .val (.int p4), .val (.int qq0), .val (.int qq1), .val (.int qq2), .val (.int (3 : Int32)), .val (.ref u0), .val (.ref u1), .val (.ref u2), .unset, .unset, .unset, .unset] [(.ref bt)])
    refine own_st (fun _ k => XS.astore X188.here hx rfl (hb hby at_186) rfl rfl (l' := #[.val (.long q0), .second, .val (.int p1), .val (.int p2), .val (.int p3), .val (.int p4), .val (.int qq0), .val (.int qq1), .val (.int qq2), .val (.int (3 : Int32)), .val (.ref u0), .val (.ref u1), .val (.ref u2), .val (.ref bt), .unset, .unset, .unset]) rfl k) ?_
    show own_Go p e s below _ _ _ T188 (mkF m 188 #[.val (.long q0), .second, .val (.int p1), .val (.int p2), .val (.int p3), .val (.int p4), .val (.int qq0), .val (.int qq1), .val (.int qq2), .val (.int (3 : Int32)), .val (.ref u0), .val (.ref u1), .val (.ref u2), .val (.ref bt), .unset, .unset, .unset] [])
    refine own_st (fun _ k => XS.aload X188.here hx rfl (hb hby at_188) rfl rfl k) ?_
    show own_Go p e s below _ _ _ T188 (mkF m 190 #[.val (.long q0), .second, .val (.int p1), .val (.int p2), .val (.int p3), .val (.int p4), .val (.int qq0), .val (.int qq1), .val (.int qq2), .val (.int (3 : Int32)), .val (.ref u0), .val (.ref u1), .val (.ref u2), .val (.ref bt), .unset, .unset, .unset] [(.ref bt)])
    refine own_callV X188 hx hZ (y := (⟨"com/example/hush5/hush5/search/TupleClasses", "classOf", "()[I"⟩ : MethodName)) hown (hw _ (List.mem_of_getElem? (i := 18) rfl)) (hw _ (List.mem_of_getElem? (i := 19) rfl)) (hw _ (List.mem_of_getElem? (i := 21) rfl)) (hw _ (List.mem_of_getElem? (i := 20) rfl)) (hw _ (List.mem_of_getElem? (i := 5) rfl)) (hw _ (List.mem_of_getElem? (i := 22) rfl)) (by decide) rfl (rm3_3 l Z a0 hw [] bt u0 u1 k135 k143 qq0 qq1 qq2 p1 p2 p3 T188.heap n0 Z189 E_bt F_partOf_bt F_classOfPart_bt F_target_bt F_classOf_bt g_bt V_u0 V_u1 g_u0 ne_bt_u0 ne_u0_bt ne_bt_u1 ne_u1_bt ne_u1_u0 ne_u0_u1 hq0 hq1 hq2) 0 (by decide) (by decide) E_bt (g := (mkF m 190 #[.val (.long q0), .second, .val (.int p1), .val (.int p2), .val (.int p3), .val (.int p4), .val (.int qq0), .val (.int qq1), .val (.int qq2), .val (.int (3 : Int32)), .val (.ref u0), .val (.ref u1), .val (.ref u2), .val (.ref bt), .unset, .unset, .unset] [(.ref bt)])) rfl (by rw [hml]; rfl) (argsL := []) (rest := []) pd1 rfl rfl rfl (by show 2 * 0 + _ ≤ _; exact Nat.le_of_eq rfl) (hb hby at_190) (by decide) (by decide) ?_
    intro T190 v190 L190 X190 hQ190
    obtain ⟨rfl, N190q, K190q, y190_0, y190_1, y190_2⟩ := hQ190
    have N190 := Fr.app N188 N190q
    replace E_u0 := E_u0.keep K190q
    clear V_u0
    replace E_u1 := E_u1.keep K190q
    replace V_u1 := V_u1.keep K190q (ninS ne_u1_bt (ninS ne_u1_u0 nin0))
    replace E_u2 := E_u2.keep K190q
    replace V_u2 := V_u2.keep K190q (ninS ne_u2_bt (ninS ne_u2_u0 nin0))
    replace E_bt := E_bt.keep K190q
    clear F_partOf_bt
    clear F_classOfPart_bt
    clear F_target_bt
    clear F_classOf_bt
    have Z191 := Nat.le_trans Z189 K190q.1
    have E_bt := y190_0
    have F_classOf_bt := y190_1
    have V_u0 := y190_2
    show own_Go p e s below _ _ _ T190 (mkF m 193 #[.val (.long q0), .second, .val (.int p1), .val (.int p2), .val (.int p3), .val (.int p4), .val (.int qq0), .val (.int qq1), .val (.int qq2), .val (.int (3 : Int32)), .val (.ref u0), .val (.ref u1), .val (.ref u2), .val (.ref bt), .unset, .unset, .unset] [(.ref u0)])
    refine own_st (fun _ k => XS.astore X190.here hx rfl (hb hby at_193) rfl rfl (l' := #[.val (.long q0), .second, .val (.int p1), .val (.int p2), .val (.int p3), .val (.int p4), .val (.int qq0), .val (.int qq1), .val (.int qq2), .val (.int (3 : Int32)), .val (.ref u0), .val (.ref u1), .val (.ref u2), .val (.ref bt), .val (.ref u0), .unset, .unset]) rfl k) ?_
    show own_Go p e s below _ _ _ T190 (mkF m 195 #[.val (.long q0), .second, .val (.int p1), .val (.int p2), .val (.int p3), .val (.int p4), .val (.int qq0), .val (.int qq1), .val (.int qq2), .val (.int (3 : Int32)), .val (.ref u0), .val (.ref u1), .val (.ref u2), .val (.ref bt), .val (.ref u0), .unset, .unset] [])
    refine own_st (fun _ k => XS.aload X190.here hx rfl (hb hby at_195) rfl rfl k) ?_
    show own_Go p e s below _ _ _ T190 (mkF m 197 #[.val (.long q0), .second, .val (.int p1), .val (.int p2), .val (.int p3), .val (.int p4), .val (.int qq0), .val (.int qq1), .val (.int qq2), .val (.int (3 : Int32)), .val (.ref u0), .val (.ref u1), .val (.ref u2), .val (.ref bt), .val (.ref u0), .unset, .unset] [(.ref bt)])
    refine own_callV X190 hx hZ (y := (⟨"com/example/hush5/hush5/search/TupleClasses", "classOf", "()[I"⟩ : MethodName)) hown (hw _ (List.mem_of_getElem? (i := 18) rfl)) (hw _ (List.mem_of_getElem? (i := 19) rfl)) (hw _ (List.mem_of_getElem? (i := 21) rfl)) (hw _ (List.mem_of_getElem? (i := 20) rfl)) (hw _ (List.mem_of_getElem? (i := 5) rfl)) (hw _ (List.mem_of_getElem? (i := 22) rfl)) (by decide) rfl (rm3_c l Z a0 hw [] bt u0 T190.heap n0 Z191 F_classOf_bt) 0 (by decide) (by decide) E_bt (g := (mkF m 197 #[.val (.long q0), .second, .val (.int p1), .val (.int p2), .val (.int p3), .val (.int p4), .val (.int qq0), .val (.int qq1), .val (.int qq2), .val (.int (3 : Int32)), .val (.ref u0), .val (.ref u1), .val (.ref u2), .val (.ref bt), .val (.ref u0), .unset, .unset] [(.ref bt)])) rfl (by rw [hml]; rfl) (argsL := []) (rest := []) pd1 rfl rfl rfl (by show 2 * 0 + _ ≤ _; exact Nat.le_of_eq rfl) (hb hby at_197) (by decide) (by decide) ?_
    intro T192 v192 L192 X192 hQ192
    obtain ⟨rfl, N192q, e192⟩ := hQ192
    have N192 := Fr.app N190 N192q
    show own_Go p e s below _ _ _ T192 (mkF m 200 #[.val (.long q0), .second, .val (.int p1), .val (.int p2), .val (.int p3), .val (.int p4), .val (.int qq0), .val (.int qq1), .val (.int qq2), .val (.int (3 : Int32)), .val (.ref u0), .val (.ref u1), .val (.ref u2), .val (.ref bt), .val (.ref u0), .unset, .unset] [(.ref u0)])
    refine own_st (fun _ k => XS.astore X192.here hx rfl (hb hby at_200) rfl rfl (l' := #[.val (.long q0), .second, .val (.int p1), .val (.int p2), .val (.int p3), .val (.int p4), .val (.int qq0), .val (.int qq1), .val (.int qq2), .val (.int (3 : Int32)), .val (.ref u0), .val (.ref u1), .val (.ref u2), .val (.ref bt), .val (.ref u0), .val (.ref u0), .unset]) rfl k) ?_
    show own_Go p e s below _ _ _ T192 (mkF m 202 #[.val (.long q0), .second, .val (.int p1), .val (.int p2), .val (.int p3), .val (.int p4), .val (.int qq0), .val (.int qq1), .val (.int qq2), .val (.int (3 : Int32)), .val (.ref u0), .val (.ref u1), .val (.ref u2), .val (.ref bt), .val (.ref u0), .val (.ref u0), .unset] [])
    refine own_st (fun _ k => XS.aload X192.here hx rfl (hb hby at_202) rfl rfl k) ?_
    show own_Go p e s below _ _ _ T192 (mkF m 204 #[.val (.long q0), .second, .val (.int p1), .val (.int p2), .val (.int p3), .val (.int p4), .val (.int qq0), .val (.int qq1), .val (.int qq2), .val (.int (3 : Int32)), .val (.ref u0), .val (.ref u1), .val (.ref u2), .val (.ref bt), .val (.ref u0), .val (.ref u0), .unset] [(.ref u0)])
    refine own_st (fun _ k => XS.ifnullNo X192.here hx rfl (hb hby at_204) rfl k) ?_
    show own_Go p e s below _ _ _ T192 (mkF m 207 #[.val (.long q0), .second, .val (.int p1), .val (.int p2), .val (.int p3), .val (.int p4), .val (.int qq0), .val (.int qq1), .val (.int qq2), .val (.int (3 : Int32)), .val (.ref u0), .val (.ref u1), .val (.ref u2), .val (.ref bt), .val (.ref u0), .val (.ref u0), .unset] [])
    refine own_st (fun _ k => XS.aload X192.here hx rfl (hb hby at_207) rfl rfl k) ?_
    show own_Go p e s below _ _ _ T192 (mkF m 209 #[.val (.long q0), .second, .val (.int p1), .val (.int p2), .val (.int p3), .val (.int p4), .val (.int qq0), .val (.int qq1), .val (.int qq2), .val (.int (3 : Int32)), .val (.ref u0), .val (.ref u1), .val (.ref u2), .val (.ref bt), .val (.ref u0), .val (.ref u0), .unset] [(.ref u0)])
    refine own_st (fun _ k => XS.aload X192.here hx rfl (hb hby at_209) rfl rfl k) ?_
    show own_Go p e s below _ _ _ T192 (mkF m 211 #[.val (.long q0), .second, .val (.int p1), .val (.int p2), .val (.int p3), .val (.int p4), .val (.int qq0), .val (.int qq1), .val (.int qq2), .val (.int (3 : Int32)), .val (.ref u0), .val (.ref u1), .val (.ref u2), .val (.ref bt), .val (.ref u0), .val (.ref u0), .unset] [(.ref u0), (.ref u0)])
    refine own_st (fun _ k => Jvm.RoadKit.acmp (g := (mkF m 211 #[.val (.long q0), .second, .val (.int p1), .val (.int p2), .val (.int p3), .val (.int p4), .val (.int qq0), .val (.int qq1), .val (.int qq2), .val (.int (3 : Int32)), .val (.ref u0), .val (.ref u1), .val (.ref u2), .val (.ref bt), .val (.ref u0), .val (.ref u0), .unset] [(.ref u0), (.ref u0)])) X192 hx rfl rfl rfl (pc0 := 211) (pc' := 214) (same := true) rfl (hb hby at_211) rfl (decide_eq_true rfl) (by decide) (by decide) k) ?_
    show own_Go p e s below _ _ _ T192 (mkF m 214 #[.val (.long q0), .second, .val (.int p1), .val (.int p2), .val (.int p3), .val (.int p4), .val (.int qq0), .val (.int qq1), .val (.int qq2), .val (.int (3 : Int32)), .val (.ref u0), .val (.ref u1), .val (.ref u2), .val (.ref bt), .val (.ref u0), .val (.ref u0), .unset] [])
    refine own_st (fun _ k => XS.aload X192.here hx rfl (hb hby at_214) rfl rfl k) ?_
    show own_Go p e s below _ _ _ T192 (mkF m 216 #[.val (.long q0), .second, .val (.int p1), .val (.int p2), .val (.int p3), .val (.int p4), .val (.int qq0), .val (.int qq1), .val (.int qq2), .val (.int (3 : Int32)), .val (.ref u0), .val (.ref u1), .val (.ref u2), .val (.ref bt), .val (.ref u0), .val (.ref u0), .unset] [(.ref u0)])
    refine own_st (own_len X192 hx hZ e192 V_u0 (g := (mkF m 216 #[.val (.long q0), .second, .val (.int p1), .val (.int p2), .val (.int p3), .val (.int p4), .val (.int qq0), .val (.int qq1), .val (.int qq2), .val (.int (3 : Int32)), .val (.ref u0), .val (.ref u1), .val (.ref u2), .val (.ref bt), .val (.ref u0), .val (.ref u0), .unset] [(.ref u0)])) rfl rfl (hb hby at_216)) ?_
    show own_Go p e s below _ _ _ T192 (mkF m 217 #[.val (.long q0), .second, .val (.int p1), .val (.int p2), .val (.int p3), .val (.int p4), .val (.int qq0), .val (.int qq1), .val (.int qq2), .val (.int (3 : Int32)), .val (.ref u0), .val (.ref u1), .val (.ref u2), .val (.ref bt), .val (.ref u0), .val (.ref u0), .unset] [(.int (3 : Int32))])
    refine own_st (fun _ k => XS.iconst X192.here hx rfl (hb hby at_217) k) ?_
    show own_Go p e s below _ _ _ T192 (mkF m 218 #[.val (.long q0), .second, .val (.int p1), .val (.int p2), .val (.int p3), .val (.int p4), .val (.int qq0), .val (.int qq1), .val (.int qq2), .val (.int (3 : Int32)), .val (.ref u0), .val (.ref u1), .val (.ref u2), .val (.ref bt), .val (.ref u0), .val (.ref u0), .unset] [(.int (3 : Int32)), (.int (3 : Int32))])
    refine own_st (fun _ k => XS.icmpYes X192.here hx rfl (pc0 := 218) (pc' := 223) rfl (hb hby at_218) rfl (by decide) (by decide) (by decide) k) ?_
    show own_Go p e s below _ _ _ T192 (mkF m 223 #[.val (.long q0), .second, .val (.int p1), .val (.int p2), .val (.int p3), .val (.int p4), .val (.int qq0), .val (.int qq1), .val (.int qq2), .val (.int (3 : Int32)), .val (.ref u0), .val (.ref u1), .val (.ref u2), .val (.ref bt), .val (.ref u0), .val (.ref u0), .unset] [])
    refine own_st (fun _ k => XS.aload X192.here hx rfl (hb hby at_223) rfl rfl k) ?_
    show own_Go p e s below _ _ _ T192 (mkF m 225 #[.val (.long q0), .second, .val (.int p1), .val (.int p2), .val (.int p3), .val (.int p4), .val (.int qq0), .val (.int qq1), .val (.int qq2), .val (.int (3 : Int32)), .val (.ref u0), .val (.ref u1), .val (.ref u2), .val (.ref bt), .val (.ref u0), .val (.ref u0), .unset] [(.ref u1)])
    refine own_st (fun _ k => XS.iconst X192.here hx rfl (hb hby at_225) k) ?_
    show own_Go p e s below _ _ _ T192 (mkF m 226 #[.val (.long q0), .second, .val (.int p1), .val (.int p2), .val (.int p3), .val (.int p4), .val (.int qq0), .val (.int qq1), .val (.int qq2), .val (.int (3 : Int32)), .val (.ref u0), .val (.ref u1), .val (.ref u2), .val (.ref bt), .val (.ref u0), .val (.ref u0), .unset] [(.int (0 : Int32)), (.ref u1)])
    refine own_st (own_ldI X192 hx hZ e192 V_u1 (j := (0 : Int32)) (x := p1) ⟨by decide, by decide⟩ rfl (g := (mkF m 226 #[.val (.long q0), .second, .val (.int p1), .val (.int p2), .val (.int p3), .val (.int p4), .val (.int qq0), .val (.int qq1), .val (.int qq2), .val (.int (3 : Int32)), .val (.ref u0), .val (.ref u1), .val (.ref u2), .val (.ref bt), .val (.ref u0), .val (.ref u0), .unset] [(.int (0 : Int32)), (.ref u1)])) rfl rfl (hb hby at_226)) ?_
    show own_Go p e s below _ _ _ T192 (mkF m 227 #[.val (.long q0), .second, .val (.int p1), .val (.int p2), .val (.int p3), .val (.int p4), .val (.int qq0), .val (.int qq1), .val (.int qq2), .val (.int (3 : Int32)), .val (.ref u0), .val (.ref u1), .val (.ref u2), .val (.ref bt), .val (.ref u0), .val (.ref u0), .unset] [(.int p1)])
    refine own_st (fun _ k => XS.iloadN X192.here hx rfl (hb hby at_227) rfl k) ?_
    show own_Go p e s below _ _ _ T192 (mkF m 228 #[.val (.long q0), .second, .val (.int p1), .val (.int p2), .val (.int p3), .val (.int p4), .val (.int qq0), .val (.int qq1), .val (.int qq2), .val (.int (3 : Int32)), .val (.ref u0), .val (.ref u1), .val (.ref u2), .val (.ref bt), .val (.ref u0), .val (.ref u0), .unset] [(.int p1), (.int p1)])
    refine own_st (fun _ k => XS.icmpNo X192.here hx rfl (hb hby at_228) rfl (teq (rfl : p1 = p1)).2 k) ?_
    show own_Go p e s below _ _ _ T192 (mkF m 231 #[.val (.long q0), .second, .val (.int p1), .val (.int p2), .val (.int p3), .val (.int p4), .val (.int qq0), .val (.int qq1), .val (.int qq2), .val (.int (3 : Int32)), .val (.ref u0), .val (.ref u1), .val (.ref u2), .val (.ref bt), .val (.ref u0), .val (.ref u0), .unset] [])
    refine own_st (fun _ k => XS.aload X192.here hx rfl (hb hby at_231) rfl rfl k) ?_
    show own_Go p e s below _ _ _ T192 (mkF m 233 #[.val (.long q0), .second, .val (.int p1), .val (.int p2), .val (.int p3), .val (.int p4), .val (.int qq0), .val (.int qq1), .val (.int qq2), .val (.int (3 : Int32)), .val (.ref u0), .val (.ref u1), .val (.ref u2), .val (.ref bt), .val (.ref u0), .val (.ref u0), .unset] [(.ref u1)])
    refine own_st (fun _ k => XS.iconst X192.here hx rfl (hb hby at_233) k) ?_
    show own_Go p e s below _ _ _ T192 (mkF m 234 #[.val (.long q0), .second, .val (.int p1), .val (.int p2), .val (.int p3), .val (.int p4), .val (.int qq0), .val (.int qq1), .val (.int qq2), .val (.int (3 : Int32)), .val (.ref u0), .val (.ref u1), .val (.ref u2), .val (.ref bt), .val (.ref u0), .val (.ref u0), .unset] [(.int (1 : Int32)), (.ref u1)])
    refine own_st (own_ldI X192 hx hZ e192 V_u1 (j := (1 : Int32)) (x := p2) ⟨by decide, by decide⟩ rfl (g := (mkF m 234 #[.val (.long q0), .second, .val (.int p1), .val (.int p2), .val (.int p3), .val (.int p4), .val (.int qq0), .val (.int qq1), .val (.int qq2), .val (.int (3 : Int32)), .val (.ref u0), .val (.ref u1), .val (.ref u2), .val (.ref bt), .val (.ref u0), .val (.ref u0), .unset] [(.int (1 : Int32)), (.ref u1)])) rfl rfl (hb hby at_234)) ?_
    show own_Go p e s below _ _ _ T192 (mkF m 235 #[.val (.long q0), .second, .val (.int p1), .val (.int p2), .val (.int p3), .val (.int p4), .val (.int qq0), .val (.int qq1), .val (.int qq2), .val (.int (3 : Int32)), .val (.ref u0), .val (.ref u1), .val (.ref u2), .val (.ref bt), .val (.ref u0), .val (.ref u0), .unset] [(.int p2)])
    refine own_st (fun _ k => XS.iloadN X192.here hx rfl (hb hby at_235) rfl k) ?_
    show own_Go p e s below _ _ _ T192 (mkF m 236 #[.val (.long q0), .second, .val (.int p1), .val (.int p2), .val (.int p3), .val (.int p4), .val (.int qq0), .val (.int qq1), .val (.int qq2), .val (.int (3 : Int32)), .val (.ref u0), .val (.ref u1), .val (.ref u2), .val (.ref bt), .val (.ref u0), .val (.ref u0), .unset] [(.int p2), (.int p2)])
    refine own_st (fun _ k => XS.icmpNo X192.here hx rfl (hb hby at_236) rfl (teq (rfl : p2 = p2)).2 k) ?_
    show own_Go p e s below _ _ _ T192 (mkF m 239 #[.val (.long q0), .second, .val (.int p1), .val (.int p2), .val (.int p3), .val (.int p4), .val (.int qq0), .val (.int qq1), .val (.int qq2), .val (.int (3 : Int32)), .val (.ref u0), .val (.ref u1), .val (.ref u2), .val (.ref bt), .val (.ref u0), .val (.ref u0), .unset] [])
    refine own_st (fun _ k => XS.aload X192.here hx rfl (hb hby at_239) rfl rfl k) ?_
    show own_Go p e s below _ _ _ T192 (mkF m 241 #[.val (.long q0), .second, .val (.int p1), .val (.int p2), .val (.int p3), .val (.int p4), .val (.int qq0), .val (.int qq1), .val (.int qq2), .val (.int (3 : Int32)), .val (.ref u0), .val (.ref u1), .val (.ref u2), .val (.ref bt), .val (.ref u0), .val (.ref u0), .unset] [(.ref u1)])
    refine own_st (fun _ k => XS.iconst X192.here hx rfl (hb hby at_241) k) ?_
    show own_Go p e s below _ _ _ T192 (mkF m 242 #[.val (.long q0), .second, .val (.int p1), .val (.int p2), .val (.int p3), .val (.int p4), .val (.int qq0), .val (.int qq1), .val (.int qq2), .val (.int (3 : Int32)), .val (.ref u0), .val (.ref u1), .val (.ref u2), .val (.ref bt), .val (.ref u0), .val (.ref u0), .unset] [(.int (2 : Int32)), (.ref u1)])
    refine own_st (own_ldI X192 hx hZ e192 V_u1 (j := (2 : Int32)) (x := p3) ⟨by decide, by decide⟩ rfl (g := (mkF m 242 #[.val (.long q0), .second, .val (.int p1), .val (.int p2), .val (.int p3), .val (.int p4), .val (.int qq0), .val (.int qq1), .val (.int qq2), .val (.int (3 : Int32)), .val (.ref u0), .val (.ref u1), .val (.ref u2), .val (.ref bt), .val (.ref u0), .val (.ref u0), .unset] [(.int (2 : Int32)), (.ref u1)])) rfl rfl (hb hby at_242)) ?_
    show own_Go p e s below _ _ _ T192 (mkF m 243 #[.val (.long q0), .second, .val (.int p1), .val (.int p2), .val (.int p3), .val (.int p4), .val (.int qq0), .val (.int qq1), .val (.int qq2), .val (.int (3 : Int32)), .val (.ref u0), .val (.ref u1), .val (.ref u2), .val (.ref bt), .val (.ref u0), .val (.ref u0), .unset] [(.int p3)])
    refine own_st (fun _ k => XS.iload X192.here hx rfl (hb hby at_243) rfl k) ?_
    show own_Go p e s below _ _ _ T192 (mkF m 245 #[.val (.long q0), .second, .val (.int p1), .val (.int p2), .val (.int p3), .val (.int p4), .val (.int qq0), .val (.int qq1), .val (.int qq2), .val (.int (3 : Int32)), .val (.ref u0), .val (.ref u1), .val (.ref u2), .val (.ref bt), .val (.ref u0), .val (.ref u0), .unset] [(.int p3), (.int p3)])
    refine own_st (fun _ k => XS.icmpYes X192.here hx rfl (pc0 := 245) (pc' := 250) rfl (hb hby at_245) rfl (teq (rfl : p3 = p3)).1 (by decide) (by decide) k) ?_
    show own_Go p e s below _ _ _ T192 (mkF m 250 #[.val (.long q0), .second, .val (.int p1), .val (.int p2), .val (.int p3), .val (.int p4), .val (.int qq0), .val (.int qq1), .val (.int qq2), .val (.int (3 : Int32)), .val (.ref u0), .val (.ref u1), .val (.ref u2), .val (.ref bt), .val (.ref u0), .val (.ref u0), .unset] [])
    refine own_st (fun _ k => XS.iload X192.here hx rfl (hb hby at_250) rfl k) ?_
    show own_Go p e s below _ _ _ T192 (mkF m 252 #[.val (.long q0), .second, .val (.int p1), .val (.int p2), .val (.int p3), .val (.int p4), .val (.int qq0), .val (.int qq1), .val (.int qq2), .val (.int (3 : Int32)), .val (.ref u0), .val (.ref u1), .val (.ref u2), .val (.ref bt), .val (.ref u0), .val (.ref u0), .unset] [(.int (3 : Int32))])
    refine own_st (fun _ k => XS.ifYes X192.here hx rfl (pc0 := 252) (pc' := 295) rfl (hb hby at_252) rfl (by decide) (by decide) (by decide) k) ?_
    show own_Go p e s below _ _ _ T192 (mkF m 295 #[.val (.long q0), .second, .val (.int p1), .val (.int p2), .val (.int p3), .val (.int p4), .val (.int qq0), .val (.int qq1), .val (.int qq2), .val (.int (3 : Int32)), .val (.ref u0), .val (.ref u1), .val (.ref u2), .val (.ref bt), .val (.ref u0), .val (.ref u0), .unset] [])
    refine own_st (fun _ k => XS.iload X192.here hx rfl (hb hby at_295) rfl k) ?_
    show own_Go p e s below _ _ _ T192 (mkF m 297 #[.val (.long q0), .second, .val (.int p1), .val (.int p2), .val (.int p3), .val (.int p4), .val (.int qq0), .val (.int qq1), .val (.int qq2), .val (.int (3 : Int32)), .val (.ref u0), .val (.ref u1), .val (.ref u2), .val (.ref bt), .val (.ref u0), .val (.ref u0), .unset] [(.int (3 : Int32))])
    refine own_st (fun _ k => XS.iconst X192.here hx rfl (hb hby at_297) k) ?_
    show own_Go p e s below _ _ _ T192 (mkF m 298 #[.val (.long q0), .second, .val (.int p1), .val (.int p2), .val (.int p3), .val (.int p4), .val (.int qq0), .val (.int qq1), .val (.int qq2), .val (.int (3 : Int32)), .val (.ref u0), .val (.ref u1), .val (.ref u2), .val (.ref bt), .val (.ref u0), .val (.ref u0), .unset] [(.int (1 : Int32)), (.int (3 : Int32))])
    refine own_st (fun _ k => XS.icmpYes X192.here hx rfl (pc0 := 298) (pc' := 359) rfl (hb hby at_298) rfl (by decide) (by decide) (by decide) k) ?_
    show own_Go p e s below _ _ _ T192 (mkF m 359 #[.val (.long q0), .second, .val (.int p1), .val (.int p2), .val (.int p3), .val (.int p4), .val (.int qq0), .val (.int qq1), .val (.int qq2), .val (.int (3 : Int32)), .val (.ref u0), .val (.ref u1), .val (.ref u2), .val (.ref bt), .val (.ref u0), .val (.ref u0), .unset] [])
    refine own_st (fun _ k => XS.iload X192.here hx rfl (hb hby at_359) rfl k) ?_
    show own_Go p e s below _ _ _ T192 (mkF m 361 #[.val (.long q0), .second, .val (.int p1), .val (.int p2), .val (.int p3), .val (.int p4), .val (.int qq0), .val (.int qq1), .val (.int qq2), .val (.int (3 : Int32)), .val (.ref u0), .val (.ref u1), .val (.ref u2), .val (.ref bt), .val (.ref u0), .val (.ref u0), .unset] [(.int (3 : Int32))])
    refine own_st (fun _ k => XS.iconst X192.here hx rfl (hb hby at_361) k) ?_
    show own_Go p e s below _ _ _ T192 (mkF m 362 #[.val (.long q0), .second, .val (.int p1), .val (.int p2), .val (.int p3), .val (.int p4), .val (.int qq0), .val (.int qq1), .val (.int qq2), .val (.int (3 : Int32)), .val (.ref u0), .val (.ref u1), .val (.ref u2), .val (.ref bt), .val (.ref u0), .val (.ref u0), .unset] [(.int (2 : Int32)), (.int (3 : Int32))])
    refine own_st (fun _ k => XS.icmpYes X192.here hx rfl (pc0 := 362) (pc' := 409) rfl (hb hby at_362) rfl (by decide) (by decide) (by decide) k) ?_
    show own_Go p e s below _ _ _ T192 (mkF m 409 #[.val (.long q0), .second, .val (.int p1), .val (.int p2), .val (.int p3), .val (.int p4), .val (.int qq0), .val (.int qq1), .val (.int qq2), .val (.int (3 : Int32)), .val (.ref u0), .val (.ref u1), .val (.ref u2), .val (.ref bt), .val (.ref u0), .val (.ref u0), .unset] [])
    refine own_st (fun _ k => XS.aload X192.here hx rfl (hb hby at_409) rfl rfl k) ?_
    show own_Go p e s below _ _ _ T192 (mkF m 411 #[.val (.long q0), .second, .val (.int p1), .val (.int p2), .val (.int p3), .val (.int p4), .val (.int qq0), .val (.int qq1), .val (.int qq2), .val (.int (3 : Int32)), .val (.ref u0), .val (.ref u1), .val (.ref u2), .val (.ref bt), .val (.ref u0), .val (.ref u0), .unset] [(.ref u0)])
    refine own_st (fun _ k => XS.aload X192.here hx rfl (hb hby at_411) rfl rfl k) ?_
    show own_Go p e s below _ _ _ T192 (mkF m 413 #[.val (.long q0), .second, .val (.int p1), .val (.int p2), .val (.int p3), .val (.int p4), .val (.int qq0), .val (.int qq1), .val (.int qq2), .val (.int (3 : Int32)), .val (.ref u0), .val (.ref u1), .val (.ref u2), .val (.ref bt), .val (.ref u0), .val (.ref u0), .unset] [(.ref u0), (.ref u0)])
    refine own_st (fun _ k => Jvm.RoadKit.acmp (g := (mkF m 413 #[.val (.long q0), .second, .val (.int p1), .val (.int p2), .val (.int p3), .val (.int p4), .val (.int qq0), .val (.int qq1), .val (.int qq2), .val (.int (3 : Int32)), .val (.ref u0), .val (.ref u1), .val (.ref u2), .val (.ref bt), .val (.ref u0), .val (.ref u0), .unset] [(.ref u0), (.ref u0)])) X192 hx rfl rfl rfl (pc0 := 413) (pc' := 416) (same := true) rfl (hb hby at_413) rfl (decide_eq_true rfl) (by decide) (by decide) k) ?_
    show own_Go p e s below _ _ _ T192 (mkF m 416 #[.val (.long q0), .second, .val (.int p1), .val (.int p2), .val (.int p3), .val (.int p4), .val (.int qq0), .val (.int qq1), .val (.int qq2), .val (.int (3 : Int32)), .val (.ref u0), .val (.ref u1), .val (.ref u2), .val (.ref bt), .val (.ref u0), .val (.ref u0), .unset] [])
    refine own_st (fun _ k => XS.iconst X192.here hx rfl (hb hby at_416) k) ?_
    show own_Go p e s below _ _ _ T192 (mkF m 417 #[.val (.long q0), .second, .val (.int p1), .val (.int p2), .val (.int p3), .val (.int p4), .val (.int qq0), .val (.int qq1), .val (.int qq2), .val (.int (3 : Int32)), .val (.ref u0), .val (.ref u1), .val (.ref u2), .val (.ref bt), .val (.ref u0), .val (.ref u0), .unset] [(.int (1 : Int32))])
    refine own_st (fun _ k => XS.goto X192.here hx rfl (pc0 := 417) (pc' := 421) rfl (hb hby at_417) (by decide) (by decide) k) ?_
    show own_Go p e s below _ _ _ T192 (mkF m 421 #[.val (.long q0), .second, .val (.int p1), .val (.int p2), .val (.int p3), .val (.int p4), .val (.int qq0), .val (.int qq1), .val (.int qq2), .val (.int (3 : Int32)), .val (.ref u0), .val (.ref u1), .val (.ref u2), .val (.ref bt), .val (.ref u0), .val (.ref u0), .unset] [(.int (1 : Int32))])
    refine own_st (fun _ k => XS.istore X192.here hx rfl (hb hby at_421) rfl (l' := #[.val (.long q0), .second, .val (.int p1), .val (.int p2), .val (.int p3), .val (.int p4), .val (.int qq0), .val (.int qq1), .val (.int qq2), .val (.int (3 : Int32)), .val (.ref u0), .val (.ref u1), .val (.ref u2), .val (.ref bt), .val (.ref u0), .val (.ref u0), .val (.int (1 : Int32))]) rfl k) ?_
    show own_Go p e s below _ _ _ T192 (mkF m 423 #[.val (.long q0), .second, .val (.int p1), .val (.int p2), .val (.int p3), .val (.int p4), .val (.int qq0), .val (.int qq1), .val (.int qq2), .val (.int (3 : Int32)), .val (.ref u0), .val (.ref u1), .val (.ref u2), .val (.ref bt), .val (.ref u0), .val (.ref u0), .val (.int (1 : Int32))] [])
    refine own_st (fun _ k => XS.iload X192.here hx rfl (hb hby at_423) rfl k) ?_
    show own_Go p e s below _ _ _ T192 (mkF m 425 #[.val (.long q0), .second, .val (.int p1), .val (.int p2), .val (.int p3), .val (.int p4), .val (.int qq0), .val (.int qq1), .val (.int qq2), .val (.int (3 : Int32)), .val (.ref u0), .val (.ref u1), .val (.ref u2), .val (.ref bt), .val (.ref u0), .val (.ref u0), .val (.int (1 : Int32))] [(.int (1 : Int32))])
    refine own_st (fun _ k => XS.ifNo X192.here hx rfl (hb hby at_425) rfl (by decide) k) ?_
    show own_Go p e s below _ _ _ T192 (mkF m 428 #[.val (.long q0), .second, .val (.int p1), .val (.int p2), .val (.int p3), .val (.int p4), .val (.int qq0), .val (.int qq1), .val (.int qq2), .val (.int (3 : Int32)), .val (.ref u0), .val (.ref u1), .val (.ref u2), .val (.ref bt), .val (.ref u0), .val (.ref u0), .val (.int (1 : Int32))] [])
    refine own_st (fun _ k => XS.aload X192.here hx rfl (hb hby at_428) rfl rfl k) ?_
    show own_Go p e s below _ _ _ T192 (mkF m 430 #[.val (.long q0), .second, .val (.int p1), .val (.int p2), .val (.int p3), .val (.int p4), .val (.int qq0), .val (.int qq1), .val (.int qq2), .val (.int (3 : Int32)), .val (.ref u0), .val (.ref u1), .val (.ref u2), .val (.ref bt), .val (.ref u0), .val (.ref u0), .val (.int (1 : Int32))] [(.ref u0)])
    refine own_st (fun _ k => XS.iconst X192.here hx rfl (hb hby at_430) k) ?_
    show own_Go p e s below _ _ _ T192 (mkF m 431 #[.val (.long q0), .second, .val (.int p1), .val (.int p2), .val (.int p3), .val (.int p4), .val (.int qq0), .val (.int qq1), .val (.int qq2), .val (.int (3 : Int32)), .val (.ref u0), .val (.ref u1), .val (.ref u2), .val (.ref bt), .val (.ref u0), .val (.ref u0), .val (.int (1 : Int32))] [(.int (0 : Int32)), (.ref u0)])
    refine own_st (own_ldI X192 hx hZ e192 V_u0 (j := (0 : Int32)) (x := (own_pick qq0 p1 p2 p3)) ⟨by decide, by decide⟩ rfl (g := (mkF m 431 #[.val (.long q0), .second, .val (.int p1), .val (.int p2), .val (.int p3), .val (.int p4), .val (.int qq0), .val (.int qq1), .val (.int qq2), .val (.int (3 : Int32)), .val (.ref u0), .val (.ref u1), .val (.ref u2), .val (.ref bt), .val (.ref u0), .val (.ref u0), .val (.int (1 : Int32))] [(.int (0 : Int32)), (.ref u0)])) rfl rfl (hb hby at_431)) ?_
    show own_Go p e s below _ _ _ T192 (mkF m 432 #[.val (.long q0), .second, .val (.int p1), .val (.int p2), .val (.int p3), .val (.int p4), .val (.int qq0), .val (.int qq1), .val (.int qq2), .val (.int (3 : Int32)), .val (.ref u0), .val (.ref u1), .val (.ref u2), .val (.ref bt), .val (.ref u0), .val (.ref u0), .val (.int (1 : Int32))] [(.int (own_pick qq0 p1 p2 p3))])
    refine own_st (fun _ k => XS.iload X192.here hx rfl (hb hby at_432) rfl k) ?_
    show own_Go p e s below _ _ _ T192 (mkF m 434 #[.val (.long q0), .second, .val (.int p1), .val (.int p2), .val (.int p3), .val (.int p4), .val (.int qq0), .val (.int qq1), .val (.int qq2), .val (.int (3 : Int32)), .val (.ref u0), .val (.ref u1), .val (.ref u2), .val (.ref bt), .val (.ref u0), .val (.ref u0), .val (.int (1 : Int32))] [(.int qq0), (.int (own_pick qq0 p1 p2 p3))])
    refine own_st (fun _ k => XS.iloadN X192.here hx rfl (hb hby at_434) rfl k) ?_
    show own_Go p e s below _ _ _ T192 (mkF m 435 #[.val (.long q0), .second, .val (.int p1), .val (.int p2), .val (.int p3), .val (.int p4), .val (.int qq0), .val (.int qq1), .val (.int qq2), .val (.int (3 : Int32)), .val (.ref u0), .val (.ref u1), .val (.ref u2), .val (.ref bt), .val (.ref u0), .val (.ref u0), .val (.int (1 : Int32))] [(.int p1), (.int qq0), (.int (own_pick qq0 p1 p2 p3))])
    refine own_st (fun _ k => XS.iloadN X192.here hx rfl (hb hby at_435) rfl k) ?_
    show own_Go p e s below _ _ _ T192 (mkF m 436 #[.val (.long q0), .second, .val (.int p1), .val (.int p2), .val (.int p3), .val (.int p4), .val (.int qq0), .val (.int qq1), .val (.int qq2), .val (.int (3 : Int32)), .val (.ref u0), .val (.ref u1), .val (.ref u2), .val (.ref bt), .val (.ref u0), .val (.ref u0), .val (.int (1 : Int32))] [(.int p2), (.int p1), (.int qq0), (.int (own_pick qq0 p1 p2 p3))])
    refine own_st (fun _ k => XS.iload X192.here hx rfl (hb hby at_436) rfl k) ?_
    show own_Go p e s below _ _ _ T192 (mkF m 438 #[.val (.long q0), .second, .val (.int p1), .val (.int p2), .val (.int p3), .val (.int p4), .val (.int qq0), .val (.int qq1), .val (.int qq2), .val (.int (3 : Int32)), .val (.ref u0), .val (.ref u1), .val (.ref u2), .val (.ref bt), .val (.ref u0), .val (.ref u0), .val (.int (1 : Int32))] [(.int p3), (.int p2), (.int p1), (.int qq0), (.int (own_pick qq0 p1 p2 p3))])
    refine own_callS X192 hx hZ (y := (⟨"com/example/hush5/hush5/search/TupleClassesClassOfPinLaw", "pick", "(IIII)I"⟩ : MethodName)) hown (hw _ (List.mem_of_getElem? (i := 25) rfl)) (hw _ (List.mem_of_getElem? (i := 26) rfl)) (hw _ (List.mem_of_getElem? (i := 27) rfl)) (hw _ (List.mem_of_getElem? (i := 28) rfl)) (by decide) e192 (rm4 l Z a0 hw [] qq0 p1 p2 p3 T190.heap n0 Z191) 1 (by decide) (by decide) (g := (mkF m 438 #[.val (.long q0), .second, .val (.int p1), .val (.int p2), .val (.int p3), .val (.int p4), .val (.int qq0), .val (.int qq1), .val (.int qq2), .val (.int (3 : Int32)), .val (.ref u0), .val (.ref u1), .val (.ref u2), .val (.ref bt), .val (.ref u0), .val (.ref u0), .val (.int (1 : Int32))] [(.int p3), (.int p2), (.int p1), (.int qq0), (.int (own_pick qq0 p1 p2 p3))])) rfl (by rw [hml]; rfl) (argsL := [(.int qq0), (.int p1), (.int p2), (.int p3)]) (rest := [(.int (own_pick qq0 p1 p2 p3))]) pd2 rfl rfl rfl (by show 2 * 0 + _ ≤ _; exact Nat.le_of_eq rfl) (hb hby at_438) (by decide) (by decide) ?_
    intro T193 v193 L193 X193 hQ193
    obtain ⟨rfl, N193q, e193⟩ := hQ193
    have N193 := Fr.app N192 N193q
    show own_Go p e s below _ _ _ T193 (mkF m 441 #[.val (.long q0), .second, .val (.int p1), .val (.int p2), .val (.int p3), .val (.int p4), .val (.int qq0), .val (.int qq1), .val (.int qq2), .val (.int (3 : Int32)), .val (.ref u0), .val (.ref u1), .val (.ref u2), .val (.ref bt), .val (.ref u0), .val (.ref u0), .val (.int (1 : Int32))] [(.int (own_pick qq0 p1 p2 p3)), (.int (own_pick qq0 p1 p2 p3))])
    refine own_st (fun _ k => XS.icmpNo X193.here hx rfl (hb hby at_441) rfl (teq (rfl : (own_pick qq0 p1 p2 p3) = (own_pick qq0 p1 p2 p3))).2 k) ?_
    show own_Go p e s below _ _ _ T193 (mkF m 444 #[.val (.long q0), .second, .val (.int p1), .val (.int p2), .val (.int p3), .val (.int p4), .val (.int qq0), .val (.int qq1), .val (.int qq2), .val (.int (3 : Int32)), .val (.ref u0), .val (.ref u1), .val (.ref u2), .val (.ref bt), .val (.ref u0), .val (.ref u0), .val (.int (1 : Int32))] [])
    refine own_st (fun _ k => XS.aload X193.here hx rfl (hb hby at_444) rfl rfl k) ?_
    show own_Go p e s below _ _ _ T193 (mkF m 446 #[.val (.long q0), .second, .val (.int p1), .val (.int p2), .val (.int p3), .val (.int p4), .val (.int qq0), .val (.int qq1), .val (.int qq2), .val (.int (3 : Int32)), .val (.ref u0), .val (.ref u1), .val (.ref u2), .val (.ref bt), .val (.ref u0), .val (.ref u0), .val (.int (1 : Int32))] [(.ref u0)])
    refine own_st (fun _ k => XS.iconst X193.here hx rfl (hb hby at_446) k) ?_
    show own_Go p e s below _ _ _ T193 (mkF m 447 #[.val (.long q0), .second, .val (.int p1), .val (.int p2), .val (.int p3), .val (.int p4), .val (.int qq0), .val (.int qq1), .val (.int qq2), .val (.int (3 : Int32)), .val (.ref u0), .val (.ref u1), .val (.ref u2), .val (.ref bt), .val (.ref u0), .val (.ref u0), .val (.int (1 : Int32))] [(.int (1 : Int32)), (.ref u0)])
    refine own_st (own_ldI X193 hx hZ e193 V_u0 (j := (1 : Int32)) (x := (own_pick qq1 p1 p2 p3)) ⟨by decide, by decide⟩ rfl (g := (mkF m 447 #[.val (.long q0), .second, .val (.int p1), .val (.int p2), .val (.int p3), .val (.int p4), .val (.int qq0), .val (.int qq1), .val (.int qq2), .val (.int (3 : Int32)), .val (.ref u0), .val (.ref u1), .val (.ref u2), .val (.ref bt), .val (.ref u0), .val (.ref u0), .val (.int (1 : Int32))] [(.int (1 : Int32)), (.ref u0)])) rfl rfl (hb hby at_447)) ?_
    show own_Go p e s below _ _ _ T193 (mkF m 448 #[.val (.long q0), .second, .val (.int p1), .val (.int p2), .val (.int p3), .val (.int p4), .val (.int qq0), .val (.int qq1), .val (.int qq2), .val (.int (3 : Int32)), .val (.ref u0), .val (.ref u1), .val (.ref u2), .val (.ref bt), .val (.ref u0), .val (.ref u0), .val (.int (1 : Int32))] [(.int (own_pick qq1 p1 p2 p3))])
    refine own_st (fun _ k => XS.iload X193.here hx rfl (hb hby at_448) rfl k) ?_
    show own_Go p e s below _ _ _ T193 (mkF m 450 #[.val (.long q0), .second, .val (.int p1), .val (.int p2), .val (.int p3), .val (.int p4), .val (.int qq0), .val (.int qq1), .val (.int qq2), .val (.int (3 : Int32)), .val (.ref u0), .val (.ref u1), .val (.ref u2), .val (.ref bt), .val (.ref u0), .val (.ref u0), .val (.int (1 : Int32))] [(.int qq1), (.int (own_pick qq1 p1 p2 p3))])
    refine own_st (fun _ k => XS.iloadN X193.here hx rfl (hb hby at_450) rfl k) ?_
    show own_Go p e s below _ _ _ T193 (mkF m 451 #[.val (.long q0), .second, .val (.int p1), .val (.int p2), .val (.int p3), .val (.int p4), .val (.int qq0), .val (.int qq1), .val (.int qq2), .val (.int (3 : Int32)), .val (.ref u0), .val (.ref u1), .val (.ref u2), .val (.ref bt), .val (.ref u0), .val (.ref u0), .val (.int (1 : Int32))] [(.int p1), (.int qq1), (.int (own_pick qq1 p1 p2 p3))])
    refine own_st (fun _ k => XS.iloadN X193.here hx rfl (hb hby at_451) rfl k) ?_
    show own_Go p e s below _ _ _ T193 (mkF m 452 #[.val (.long q0), .second, .val (.int p1), .val (.int p2), .val (.int p3), .val (.int p4), .val (.int qq0), .val (.int qq1), .val (.int qq2), .val (.int (3 : Int32)), .val (.ref u0), .val (.ref u1), .val (.ref u2), .val (.ref bt), .val (.ref u0), .val (.ref u0), .val (.int (1 : Int32))] [(.int p2), (.int p1), (.int qq1), (.int (own_pick qq1 p1 p2 p3))])
    refine own_st (fun _ k => XS.iload X193.here hx rfl (hb hby at_452) rfl k) ?_
    show own_Go p e s below _ _ _ T193 (mkF m 454 #[.val (.long q0), .second, .val (.int p1), .val (.int p2), .val (.int p3), .val (.int p4), .val (.int qq0), .val (.int qq1), .val (.int qq2), .val (.int (3 : Int32)), .val (.ref u0), .val (.ref u1), .val (.ref u2), .val (.ref bt), .val (.ref u0), .val (.ref u0), .val (.int (1 : Int32))] [(.int p3), (.int p2), (.int p1), (.int qq1), (.int (own_pick qq1 p1 p2 p3))])
    refine own_callS X193 hx hZ (y := (⟨"com/example/hush5/hush5/search/TupleClassesClassOfPinLaw", "pick", "(IIII)I"⟩ : MethodName)) hown (hw _ (List.mem_of_getElem? (i := 25) rfl)) (hw _ (List.mem_of_getElem? (i := 26) rfl)) (hw _ (List.mem_of_getElem? (i := 27) rfl)) (hw _ (List.mem_of_getElem? (i := 28) rfl)) (by decide) e193 (rm4 l Z a0 hw [] qq1 p1 p2 p3 T190.heap n0 Z191) 1 (by decide) (by decide) (g := (mkF m 454 #[.val (.long q0), .second, .val (.int p1), .val (.int p2), .val (.int p3), .val (.int p4), .val (.int qq0), .val (.int qq1), .val (.int qq2), .val (.int (3 : Int32)), .val (.ref u0), .val (.ref u1), .val (.ref u2), .val (.ref bt), .val (.ref u0), .val (.ref u0), .val (.int (1 : Int32))] [(.int p3), (.int p2), (.int p1), (.int qq1), (.int (own_pick qq1 p1 p2 p3))])) rfl (by rw [hml]; rfl) (argsL := [(.int qq1), (.int p1), (.int p2), (.int p3)]) (rest := [(.int (own_pick qq1 p1 p2 p3))]) pd2 rfl rfl rfl (by show 2 * 0 + _ ≤ _; exact Nat.le_of_eq rfl) (hb hby at_454) (by decide) (by decide) ?_
    intro T194 v194 L194 X194 hQ194
    obtain ⟨rfl, N194q, e194⟩ := hQ194
    have N194 := Fr.app N193 N194q
    show own_Go p e s below _ _ _ T194 (mkF m 457 #[.val (.long q0), .second, .val (.int p1), .val (.int p2), .val (.int p3), .val (.int p4), .val (.int qq0), .val (.int qq1), .val (.int qq2), .val (.int (3 : Int32)), .val (.ref u0), .val (.ref u1), .val (.ref u2), .val (.ref bt), .val (.ref u0), .val (.ref u0), .val (.int (1 : Int32))] [(.int (own_pick qq1 p1 p2 p3)), (.int (own_pick qq1 p1 p2 p3))])
    refine own_st (fun _ k => XS.icmpNo X194.here hx rfl (hb hby at_457) rfl (teq (rfl : (own_pick qq1 p1 p2 p3) = (own_pick qq1 p1 p2 p3))).2 k) ?_
    show own_Go p e s below _ _ _ T194 (mkF m 460 #[.val (.long q0), .second, .val (.int p1), .val (.int p2), .val (.int p3), .val (.int p4), .val (.int qq0), .val (.int qq1), .val (.int qq2), .val (.int (3 : Int32)), .val (.ref u0), .val (.ref u1), .val (.ref u2), .val (.ref bt), .val (.ref u0), .val (.ref u0), .val (.int (1 : Int32))] [])
    refine own_st (fun _ k => XS.aload X194.here hx rfl (hb hby at_460) rfl rfl k) ?_
    show own_Go p e s below _ _ _ T194 (mkF m 462 #[.val (.long q0), .second, .val (.int p1), .val (.int p2), .val (.int p3), .val (.int p4), .val (.int qq0), .val (.int qq1), .val (.int qq2), .val (.int (3 : Int32)), .val (.ref u0), .val (.ref u1), .val (.ref u2), .val (.ref bt), .val (.ref u0), .val (.ref u0), .val (.int (1 : Int32))] [(.ref u0)])
    refine own_st (fun _ k => XS.iconst X194.here hx rfl (hb hby at_462) k) ?_
    show own_Go p e s below _ _ _ T194 (mkF m 463 #[.val (.long q0), .second, .val (.int p1), .val (.int p2), .val (.int p3), .val (.int p4), .val (.int qq0), .val (.int qq1), .val (.int qq2), .val (.int (3 : Int32)), .val (.ref u0), .val (.ref u1), .val (.ref u2), .val (.ref bt), .val (.ref u0), .val (.ref u0), .val (.int (1 : Int32))] [(.int (2 : Int32)), (.ref u0)])
    refine own_st (own_ldI X194 hx hZ e194 V_u0 (j := (2 : Int32)) (x := (own_pick qq2 p1 p2 p3)) ⟨by decide, by decide⟩ rfl (g := (mkF m 463 #[.val (.long q0), .second, .val (.int p1), .val (.int p2), .val (.int p3), .val (.int p4), .val (.int qq0), .val (.int qq1), .val (.int qq2), .val (.int (3 : Int32)), .val (.ref u0), .val (.ref u1), .val (.ref u2), .val (.ref bt), .val (.ref u0), .val (.ref u0), .val (.int (1 : Int32))] [(.int (2 : Int32)), (.ref u0)])) rfl rfl (hb hby at_463)) ?_
    show own_Go p e s below _ _ _ T194 (mkF m 464 #[.val (.long q0), .second, .val (.int p1), .val (.int p2), .val (.int p3), .val (.int p4), .val (.int qq0), .val (.int qq1), .val (.int qq2), .val (.int (3 : Int32)), .val (.ref u0), .val (.ref u1), .val (.ref u2), .val (.ref bt), .val (.ref u0), .val (.ref u0), .val (.int (1 : Int32))] [(.int (own_pick qq2 p1 p2 p3))])
    refine own_st (fun _ k => XS.iload X194.here hx rfl (hb hby at_464) rfl k) ?_
    show own_Go p e s below _ _ _ T194 (mkF m 466 #[.val (.long q0), .second, .val (.int p1), .val (.int p2), .val (.int p3), .val (.int p4), .val (.int qq0), .val (.int qq1), .val (.int qq2), .val (.int (3 : Int32)), .val (.ref u0), .val (.ref u1), .val (.ref u2), .val (.ref bt), .val (.ref u0), .val (.ref u0), .val (.int (1 : Int32))] [(.int qq2), (.int (own_pick qq2 p1 p2 p3))])
    refine own_st (fun _ k => XS.iloadN X194.here hx rfl (hb hby at_466) rfl k) ?_
    show own_Go p e s below _ _ _ T194 (mkF m 467 #[.val (.long q0), .second, .val (.int p1), .val (.int p2), .val (.int p3), .val (.int p4), .val (.int qq0), .val (.int qq1), .val (.int qq2), .val (.int (3 : Int32)), .val (.ref u0), .val (.ref u1), .val (.ref u2), .val (.ref bt), .val (.ref u0), .val (.ref u0), .val (.int (1 : Int32))] [(.int p1), (.int qq2), (.int (own_pick qq2 p1 p2 p3))])
    refine own_st (fun _ k => XS.iloadN X194.here hx rfl (hb hby at_467) rfl k) ?_
    show own_Go p e s below _ _ _ T194 (mkF m 468 #[.val (.long q0), .second, .val (.int p1), .val (.int p2), .val (.int p3), .val (.int p4), .val (.int qq0), .val (.int qq1), .val (.int qq2), .val (.int (3 : Int32)), .val (.ref u0), .val (.ref u1), .val (.ref u2), .val (.ref bt), .val (.ref u0), .val (.ref u0), .val (.int (1 : Int32))] [(.int p2), (.int p1), (.int qq2), (.int (own_pick qq2 p1 p2 p3))])
    refine own_st (fun _ k => XS.iload X194.here hx rfl (hb hby at_468) rfl k) ?_
    show own_Go p e s below _ _ _ T194 (mkF m 470 #[.val (.long q0), .second, .val (.int p1), .val (.int p2), .val (.int p3), .val (.int p4), .val (.int qq0), .val (.int qq1), .val (.int qq2), .val (.int (3 : Int32)), .val (.ref u0), .val (.ref u1), .val (.ref u2), .val (.ref bt), .val (.ref u0), .val (.ref u0), .val (.int (1 : Int32))] [(.int p3), (.int p2), (.int p1), (.int qq2), (.int (own_pick qq2 p1 p2 p3))])
    refine own_callS X194 hx hZ (y := (⟨"com/example/hush5/hush5/search/TupleClassesClassOfPinLaw", "pick", "(IIII)I"⟩ : MethodName)) hown (hw _ (List.mem_of_getElem? (i := 25) rfl)) (hw _ (List.mem_of_getElem? (i := 26) rfl)) (hw _ (List.mem_of_getElem? (i := 27) rfl)) (hw _ (List.mem_of_getElem? (i := 28) rfl)) (by decide) e194 (rm4 l Z a0 hw [] qq2 p1 p2 p3 T190.heap n0 Z191) 1 (by decide) (by decide) (g := (mkF m 470 #[.val (.long q0), .second, .val (.int p1), .val (.int p2), .val (.int p3), .val (.int p4), .val (.int qq0), .val (.int qq1), .val (.int qq2), .val (.int (3 : Int32)), .val (.ref u0), .val (.ref u1), .val (.ref u2), .val (.ref bt), .val (.ref u0), .val (.ref u0), .val (.int (1 : Int32))] [(.int p3), (.int p2), (.int p1), (.int qq2), (.int (own_pick qq2 p1 p2 p3))])) rfl (by rw [hml]; rfl) (argsL := [(.int qq2), (.int p1), (.int p2), (.int p3)]) (rest := [(.int (own_pick qq2 p1 p2 p3))]) pd2 rfl rfl rfl (by show 2 * 0 + _ ≤ _; exact Nat.le_of_eq rfl) (hb hby at_470) (by decide) (by decide) ?_
    intro T195 v195 L195 X195 hQ195
    obtain ⟨rfl, N195q, e195⟩ := hQ195
    have N195 := Fr.app N194 N195q
    show own_Go p e s below _ _ _ T195 (mkF m 473 #[.val (.long q0), .second, .val (.int p1), .val (.int p2), .val (.int p3), .val (.int p4), .val (.int qq0), .val (.int qq1), .val (.int qq2), .val (.int (3 : Int32)), .val (.ref u0), .val (.ref u1), .val (.ref u2), .val (.ref bt), .val (.ref u0), .val (.ref u0), .val (.int (1 : Int32))] [(.int (own_pick qq2 p1 p2 p3)), (.int (own_pick qq2 p1 p2 p3))])
    refine own_st (fun _ k => XS.icmpNo X195.here hx rfl (hb hby at_473) rfl (teq (rfl : (own_pick qq2 p1 p2 p3) = (own_pick qq2 p1 p2 p3))).2 k) ?_
    show own_Go p e s below _ _ _ T195 (mkF m 476 #[.val (.long q0), .second, .val (.int p1), .val (.int p2), .val (.int p3), .val (.int p4), .val (.int qq0), .val (.int qq1), .val (.int qq2), .val (.int (3 : Int32)), .val (.ref u0), .val (.ref u1), .val (.ref u2), .val (.ref bt), .val (.ref u0), .val (.ref u0), .val (.int (1 : Int32))] [])
    refine own_st (fun _ k => XS.iconst X195.here hx rfl (hb hby at_476) k) ?_
    show own_Go p e s below _ _ _ T195 (mkF m 477 #[.val (.long q0), .second, .val (.int p1), .val (.int p2), .val (.int p3), .val (.int p4), .val (.int qq0), .val (.int qq1), .val (.int qq2), .val (.int (3 : Int32)), .val (.ref u0), .val (.ref u1), .val (.ref u2), .val (.ref bt), .val (.ref u0), .val (.ref u0), .val (.int (1 : Int32))] [(.int (1 : Int32))])
    refine own_st (fun _ k => XS.goto X195.here hx rfl (pc0 := 477) (pc' := 481) rfl (hb hby at_477) (by decide) (by decide) k) ?_
    show own_Go p e s below _ _ _ T195 (mkF m 481 #[.val (.long q0), .second, .val (.int p1), .val (.int p2), .val (.int p3), .val (.int p4), .val (.int qq0), .val (.int qq1), .val (.int qq2), .val (.int (3 : Int32)), .val (.ref u0), .val (.ref u1), .val (.ref u2), .val (.ref bt), .val (.ref u0), .val (.ref u0), .val (.int (1 : Int32))] [(.int (1 : Int32))])
    exact own_retN X195 hx hlk (t := .boolean) hret (by simp) (hb hby at_481) (z' := (1 : Int32)) rfl (by decide) (by decide) ⟨rfl, N195⟩
set_option maxRecDepth 65536 in
set_option maxHeartbeats 40000000 in
theorem comes_1 {Post : Tables → Env → Array Value → State → Outcome → State → Prop} (hpost : ∀ tb e args s v u, (limb_1_1.after args s (.returned v) u = true ∧ limb_1_2.after args s (.returned v) u = true ∧ True) → FrameEnd s (.returned v) u (Jvm.fieldLocs frame_1_writes args s ++ Jvm.arrayLocs frame_1_arrays args s ++ Jvm.staticLocs frame_1_statics s) 24 128 → Post tb e args s (.returned v) u) :
    ArmFor flags0 classFile x code maxLocals ret World_1 tables_1 room_1 Calls_1 rest_1 Pre_1 Post := by
  intro l hfl _ _ p e ha hc hk s m args below hf hA hF happ hP
  obtain ⟨hcalls, hrest, hpre⟩ := hP
  obtain ⟨-, -, -, hnamed, -, -, -, hat⟩ := (Spec.applies_iff hf).mp happ
  obtain ⟨hg, hn⟩ := and_e (Cond.before_iff.mp (show (Jvm.Cond.and given_1 narrow_1).before args s = true from hpre))
  obtain ⟨h1, hr0⟩ := and_e hg
  obtain ⟨w0, w1, w2, w3, w4, rfl⟩ : ∃ w0 w1 w2 w3 w4 : Value, args = #[w0, w1, w2, w3, w4] := by
    have hs : args.size = 5 := by simpa [Cond.value, given_1] using h1
    obtain ⟨L⟩ := args
    match L, hs with
    | [w0, w1, w2, w3, w4], _ => exact ⟨w0, w1, w2, w3, w4, rfl⟩
  have hw := fun d (hd : d ∈ tables_1) => atoms_spec (ws := Jvm.Cond.code x code maxLocals ret :: tables_1) hat d (List.mem_cons_of_mem _ hd)
  obtain ⟨ha0, hr1⟩ := and_e hr0
  obtain ⟨i0, e0⟩ := isL_v ha0
  obtain rfl : w0 = (.long i0) := Option.some.inj e0
  obtain ⟨ha1, hr2⟩ := and_e hr1
  obtain ⟨i1, e1⟩ := is_v ha1
  obtain rfl : w1 = (.int i1) := Option.some.inj e1
  obtain ⟨ha2, hr3⟩ := and_e hr2
  obtain ⟨i2, e2⟩ := is_v ha2
  obtain rfl : w2 = (.int i2) := Option.some.inj e2
  obtain ⟨ha3, hr4⟩ := and_e hr3
  obtain ⟨i3, e3⟩ := is_v ha3
  obtain rfl : w3 = (.int i3) := Option.some.inj e3
  obtain ⟨i4, e4⟩ := is_v hr4
  obtain rfl : w4 = (.int i4) := Option.some.inj e4
  obtain ⟨n, o, h1, h2, h3, _, L, rfl, ⟨rfl, N⟩, hq⟩ := rm0 l s _ hw tables_1 i0 i1 i2 i3 i4 s.heap s.heap.size (Nat.le_refl _) p e ha hc hk s m _ below hf ((Spec.applies_iff_loose hf).mp happ).1 ⟨rfl, State.Warmed39.refl s, rfl⟩ trivial
  refine ⟨n, _, h1, h2, h3, hpost _ _ _ _ _ _ ⟨Cond.after_iff.mpr rfl, Cond.after_iff.mpr (eq_i res_at (Term.int_eval (1)) rfl), trivial⟩ ⟨hq.1, hq.2.1, (hq.2.2.sift fun y hy => Or.inr (N y hy)).mono (by decide) (by decide)⟩⟩
theorem main_1_1 : Claimed_1_1 := comes_1 fun _ _ _ _ _ _ h hF => ⟨h.1, hF⟩
theorem main_1_2 : Claimed_1_2 := comes_1 fun _ _ _ _ _ _ h hF => ⟨h.2.1, hF⟩
end Jvm.Pilot.@@N@@
namespace Jvm.Pilot.@@N@@
open Jvm Jvm.ClassFile Sem Op Lib Jvm.Free Jvm.Stand Jvm.Pilot.@@N@@.Jvm.D
/-! MADE BY PROGRAM (witnessworld.py) out of the Statement's table words and the real class files: 9 classes; the members and pool entries that the words name. The judged class is class 1, her method 2. -/
namespace start1
open Jvm.ClassFile
def u (s : String) : CpInfo := .utf8 (stringToUtf16 s)
/-- a pool by its gaps: so many unusable entries, then the entry; so many at the end -/
def gap : Nat → List CpInfo → List CpInfo
  | 0, r => r
  | n + 1, r => .unusable :: gap n r
def poolList (es : List (Nat × CpInfo)) (last : Nat) : List CpInfo := es.foldr (fun e r => gap e.1 (e.2 :: r)) (gap last [])
def pool (es : List (Nat × CpInfo)) (last : Nat) : Array CpInfo := ⟨poolList es last⟩
def fileOf (pool : Array CpInfo) (this : Nat) (attrs : Array Attribute := #[]) (ms : Array MethodInfo := #[]) (fl : Nat := 33) (sup : Nat := 0) (ifs : Array Nat := #[]) (fds : Array FieldInfo := #[]) : ClassFile where
  minorVersion := 0
  majorVersion := 65
  constantPool := pool
  accessFlags := fl
  thisClass := this
  superClass := sup
  interfaces := ifs
  fields := fds
  methods := ms
  attributes := attrs
def plain (name : String) (sup : Option ClassId) : Class where
  name := name
  kind := .ordinary
  loader := none
  accessFlags := 33
  super := sup
  interfaces := #[]
  cf := none
  fields := #[]
  methods := #[]
  instanceTypes := #[]
  staticTypes := #[]
  resolved := #[]
  callSites := []
  init := .initialized
  statics := none
  mirror := none

def pool0 : Array CpInfo := pool [(5, u "<init>"), (0, u "()V"), (1, .class_ 10), (1, u "java/lang/Object")] 113

def k0c0 : Code := { maxStack := 0, maxLocals := 1, code := object_method_1_code, exceptionTable := #[], attributes := #[] }
def k0m0 : Method := { name := "<init>", desc := "()V", sig := { parameters := [], returnType := none }, accessFlags := 1, code := some k0c0 }
/-- java/lang/Object -/
def k0 : Class := { plain "java/lang/Object" none with
  accessFlags := 33
  interfaces := #[]
  cf := some (fileOf pool0 8 #[] #[{ accessFlags := 1, nameIndex := 5, descriptorIndex := 6, attributes := #[] }] 33 0 #[] #[])
  fields := #[]
  methods := #[k0m0]
  instanceTypes := #[]
  staticTypes := #[]
  resolved := Array.replicate 124 none
  statics := none }

def pool1 : Array CpInfo := pool [(2, .class_ 4), (1, u "java/lang/Object"), (0, u "<init>"), (0, u "()V"), (0, .long 255), (1, .long 3), (1, .class_ 12), (0, u "com/example/hush5/hush5/search/TupleClasses"), (0, .methodref 11 14), (0, .nameAndType 5 15), (0, u "([I[I[I)V"), (0, .methodref 11 17), (0, .nameAndType 18 19), (0, u "classOf"), (0, u "()[I"), (0, .methodref 21 22), (0, .class_ 23), (0, .nameAndType 24 25), (0, u "com/example/hush5/hush5/search/TupleClassesClassOfPinLaw"), (0, u "pick"), (0, u "(IIII)I"), (3, u "law"), (0, u "(JIIII)Z")] 4

def k1m0 : Method := { name := "<init>", desc := "()V", sig := { parameters := [], returnType := none }, accessFlags := 1, code := none }
def k1c1 : Code := { maxStack := 2, maxLocals := 4, code := method_2_code, exceptionTable := #[], attributes := #[] }
def k1m1 : Method := { name := "pick", desc := "(IIII)I", sig := { parameters := [.int, .int, .int, .int], returnType := some .int }, accessFlags := 10, code := some k1c1 }
def k1c2 : Code := { maxStack := 5, maxLocals := 17, code := code, exceptionTable := #[], attributes := #[] }
def k1m2 : Method := { name := "law", desc := "(JIIII)Z", sig := { parameters := [.long, .int, .int, .int, .int], returnType := some .boolean }, accessFlags := 9, code := some k1c2 }
/-- com/example/hush5/hush5/search/TupleClassesClassOfPinLaw -/
def k1 : Class := { plain "com/example/hush5/hush5/search/TupleClassesClassOfPinLaw" (some 0) with
  accessFlags := 49
  interfaces := #[]
  cf := some (fileOf pool1 21 #[] #[{ accessFlags := 1, nameIndex := 5, descriptorIndex := 6, attributes := #[] }, { accessFlags := 10, nameIndex := 24, descriptorIndex := 25, attributes := #[] }, { accessFlags := 9, nameIndex := 29, descriptorIndex := 30, attributes := #[] }] 49 2 #[] #[])
  fields := #[]
  methods := #[k1m0, k1m1, k1m2]
  instanceTypes := #[]
  staticTypes := #[]
  resolved := Array.replicate 35 none
  statics := none }

def pool2 : Array CpInfo := pool [(1, .methodref 2 3), (0, .class_ 4), (0, .nameAndType 5 6), (0, u "java/lang/Object"), (0, u "<init>"), (0, u "()V"), (0, .fieldref 8 9), (0, .class_ 10), (0, .nameAndType 11 12), (0, u "com/example/hush5/hush5/search/TupleClasses"), (0, u "partOf"), (0, u "[I"), (0, .fieldref 8 14), (0, .nameAndType 15 12), (0, u "classOfPart"), (0, .fieldref 8 17), (0, .nameAndType 18 12), (0, u "target"), (7, u "([I[I[I)V"), (0, .fieldref 8 28), (0, .nameAndType 29 12), (0, u "classOf"), (5, u "()[I")] 2

def k2c0 : Code := { maxStack := 2, maxLocals := 4, code := prog_69_method_1_code, exceptionTable := #[], attributes := #[] }
def k2m0 : Method := { name := "<init>", desc := "([I[I[I)V", sig := { parameters := [(.array .int), (.array .int), (.array .int)], returnType := none }, accessFlags := 0, code := some k2c0 }
def k2c1 : Code := { maxStack := 5, maxLocals := 2, code := prog_69_method_3_code, exceptionTable := #[], attributes := #[] }
def k2m1 : Method := { name := "classOf", desc := "()[I", sig := { parameters := [], returnType := some (.array .int) }, accessFlags := 0, code := some k2c1 }
/-- com/example/hush5/hush5/search/TupleClasses -/
def k2 : Class := { plain "com/example/hush5/hush5/search/TupleClasses" (some 0) with
  accessFlags := 32
  interfaces := #[]
  cf := some (fileOf pool2 8 #[] #[{ accessFlags := 0, nameIndex := 5, descriptorIndex := 26, attributes := #[] }, { accessFlags := 0, nameIndex := 29, descriptorIndex := 35, attributes := #[] }] 32 2 #[] #[{ accessFlags := 18, nameIndex := 11, descriptorIndex := 12, attributes := #[] }, { accessFlags := 18, nameIndex := 15, descriptorIndex := 12, attributes := #[] }, { accessFlags := 18, nameIndex := 18, descriptorIndex := 12, attributes := #[] }, { accessFlags := 2, nameIndex := 29, descriptorIndex := 12, attributes := #[] }])
  fields := #[{ name := "partOf", type := (.array .int), accessFlags := 18, slot := 0, constantValue := 0 }, { name := "classOfPart", type := (.array .int), accessFlags := 18, slot := 1, constantValue := 0 }, { name := "target", type := (.array .int), accessFlags := 18, slot := 2, constantValue := 0 }, { name := "classOf", type := (.array .int), accessFlags := 2, slot := 3, constantValue := 0 }]
  methods := #[k2m0, k2m1]
  instanceTypes := #[(.array .int), (.array .int), (.array .int), (.array .int)]
  staticTypes := #[]
  resolved := Array.replicate 38 none
  statics := none }

def pool3 : Array CpInfo := pool [(1, u "java/lang/Cloneable"), (0, .class_ 1), (0, u "java/lang/Object"), (0, .class_ 3)] 3

/-- java/lang/Cloneable -/
def k3 : Class := { plain "java/lang/Cloneable" (some 0) with
  accessFlags := 1537
  interfaces := #[]
  cf := some (fileOf pool3 2 #[] #[] 1537 4 #[] #[])
  fields := #[]
  methods := #[]
  instanceTypes := #[]
  staticTypes := #[]
  resolved := Array.replicate 8 none
  statics := none }

def pool4 : Array CpInfo := pool [(1, u "java/io/Serializable"), (0, .class_ 1), (0, u "java/lang/Object"), (0, .class_ 3)] 3

/-- java/io/Serializable -/
def k4 : Class := { plain "java/io/Serializable" (some 0) with
  accessFlags := 1537
  interfaces := #[]
  cf := some (fileOf pool4 2 #[] #[] 1537 4 #[] #[])
  fields := #[]
  methods := #[]
  instanceTypes := #[]
  staticTypes := #[]
  resolved := Array.replicate 8 none
  statics := none }

/-- the primitive byte -/
def k5 : Class := { plain "byte" none with kind := .primitive 'B', accessFlags := 0x411 }
/-- [B -/
def k6 : Class := { plain "[B" (some 0) with kind := .array 5 .byte, interfaces := #[3, 4], accessFlags := 1041 }

/-- the primitive int -/
def k7 : Class := { plain "int" none with kind := .primitive 'I', accessFlags := 0x411 }
/-- [I -/
def k8 : Class := { plain "[I" (some 0) with kind := .array 7 .int, interfaces := #[3, 4], accessFlags := 1041 }

def heap : Heap := #[]
def classes : Array Class := #[k0, k1, k2, k3, k4, k5, k6, k7, k8]
def interned : List (Array UInt16 × Addr) := []
def slotsUsed : Nat := 0
def theMethod : MethodId := ⟨1, 2⟩
def args0 : Array Value := #[.long 7, .int 5, .int 5, .int 5, .int 5]
def aboutOver (below : List Frame) : State where
  vm := { classes := classes, interned := interned.toArray }
  heap := heap
  slotsUsed := slotsUsed
  threads := #[{ frames := .invoking theMethod args0 :: below }]
def below0 : List Frame := [.native { method := ⟨0, 0⟩, args := #[] }]
def about1 : State := aboutOver below0
def p0 : Program := .bare "" "" ""
def e0 : Env := launch0.env 0 0 0
theorem w_frames : about1.frames = Frame.invoking theMethod args0 :: below0 := rfl
set_option maxRecDepth 65536 in
theorem w_args : argsFit about1.vm theMethod args0 = true := by decide +kernel
set_option maxRecDepth 65536 in
theorem w_heap : heapFits about1 = true := by decide +kernel
set_option maxRecDepth 65536 in
theorem w_runnable : about1.curStatus? = some .runnable := by decide +kernel
set_option maxRecDepth 65536 in
theorem w_alone : about1.alone = true := by decide +kernel
set_option maxRecDepth 65536 in
theorem w_named : about1.methodNamed? x = some theMethod := by decide +kernel
set_option maxRecDepth 65536 in
theorem w_hears : about1.hears theMethod below0 = true := by decide +kernel
set_option maxRecDepth 65536 in
theorem w_ripe : about1.ripe theMethod args0 below0 = true := by decide +kernel
theorem w_running : about1.status = .running := rfl
set_option maxRecDepth 65536 in
theorem w_room : about1.hasRoom e0.platform room_1 = true :=
  launch0.hasRoom_least _ room_1 (by decide +kernel) (by decide +kernel) (by decide +kernel) (by decide +kernel) (by decide +kernel) (by decide +kernel)
theorem allAtoms_all (ts : List Jvm.Cond) (a : Array Jvm.Value) (st : Jvm.State) : (allAtoms ts).before a st = ts.all (fun c => c.before a st) := by
  induction ts with
  | nil => rfl
  | cons c t ih =>
    show (Jvm.Cond.and c (allAtoms t)).before a st = _
    rw [Jvm.Cond.before_and, ih, List.all_cons]
def words1 : List Jvm.Cond := Jvm.Cond.code x code maxLocals ret :: tables_1
/-- a 'code' word, met by the world's own term for the bytes: nothing is compared byte by byte -/
theorem code_word {y : MethodName} {bytes : ByteArray} {mx : Nat} {rt : Option FieldType} {a : Array Value} {s : State} {m : MethodId} {meth : Method} {c : Code} (h1 : s.methodNamed? y = some m) (h2 : s.vm.method? m = some meth) (h3 : meth.code = some c) (h4 : c.code = bytes)
    (h5 : (c.maxLocals == mx && c.exceptionTable.isEmpty && decide (c.maxStack ≤ mostOperands) && decide (meth.sig.returnType = rt) && !meth.locks && decide (parseMethodDescriptor y.desc = some meth.sig)) = true) : (Jvm.Cond.code y bytes mx rt).before a s = true := by
  simp only [Bool.and_eq_true, beq_iff_eq, Bool.not_eq_true', decide_eq_true_eq] at h5
  obtain ⟨⟨⟨⟨⟨g1, g2⟩, g3⟩, g4⟩, g5⟩, g6⟩ := h5
  simp [Cond.before, Cond.holds, Cond.value, h1, h2, h3, h4, g1, g2, g3, g4, g5, g6]
def isCode : Jvm.Cond → Bool
  | .code _ _ _ _ => true
  | _ => false
theorem all_split {L : List Jvm.Cond} {P : Jvm.Cond → Bool} (h1 : L.all (fun c => isCode c || P c) = true) (h2 : ∀ c ∈ L.filter isCode, P c = true) : L.all P = true := by
  refine List.all_eq_true.mpr fun c hc => ?_
  have h := List.all_eq_true.mp h1 c hc
  rcases Bool.eq_false_or_eq_true (isCode c) with hi | hi
  · exact h2 c (List.mem_filter.mpr ⟨hc, hi⟩)
  · simpa [hi] using h
set_option maxRecDepth 65536 in
theorem w_c0 : (Jvm.Cond.code x code maxLocals ret).before args0 about1 = true := code_word (m := ⟨1, 2⟩) (meth := k1m2) (c := k1c2) (by decide +kernel) rfl rfl rfl (by decide +kernel)
set_option maxRecDepth 65536 in
theorem w_c1 : (Jvm.Cond.code ({ cls := "com/example/hush5/hush5/search/TupleClasses", name := "<init>", desc := "([I[I[I)V" } : Jvm.MethodName) prog_69_method_1_code (4 : Nat) (Option.none : Option Jvm.ClassFile.FieldType)).before args0 about1 = true := code_word (m := ⟨2, 0⟩) (meth := k2m0) (c := k2c0) (by decide +kernel) rfl rfl rfl (by decide +kernel)
set_option maxRecDepth 65536 in
theorem w_c2 : (Jvm.Cond.code ({ cls := "java/lang/Object", name := "<init>", desc := "()V" } : Jvm.MethodName) object_method_1_code (1 : Nat) (Option.none : Option Jvm.ClassFile.FieldType)).before args0 about1 = true := code_word (m := ⟨0, 0⟩) (meth := k0m0) (c := k0c0) (by decide +kernel) rfl rfl rfl (by decide +kernel)
set_option maxRecDepth 65536 in
theorem w_c3 : (Jvm.Cond.code ({ cls := "com/example/hush5/hush5/search/TupleClasses", name := "classOf", desc := "()[I" } : Jvm.MethodName) prog_69_method_3_code (2 : Nat) (Option.some (Jvm.ClassFile.FieldType.array Jvm.ClassFile.FieldType.int))).before args0 about1 = true := code_word (m := ⟨2, 1⟩) (meth := k2m1) (c := k2c1) (by decide +kernel) rfl rfl rfl (by decide +kernel)
set_option maxRecDepth 65536 in
theorem w_c4 : (Jvm.Cond.code ({ cls := "com/example/hush5/hush5/search/TupleClassesClassOfPinLaw", name := "pick", desc := "(IIII)I" } : Jvm.MethodName) method_2_code (4 : Nat) (Option.some Jvm.ClassFile.FieldType.int)).before args0 about1 = true := code_word (m := ⟨1, 1⟩) (meth := k1m1) (c := k1c1) (by decide +kernel) rfl rfl rfl (by decide +kernel)
def codes1 : List Jvm.Cond := [Jvm.Cond.code x code maxLocals ret, Jvm.Cond.code ({ cls := "com/example/hush5/hush5/search/TupleClasses", name := "<init>", desc := "([I[I[I)V" } : Jvm.MethodName) prog_69_method_1_code (4 : Nat) (Option.none : Option Jvm.ClassFile.FieldType), Jvm.Cond.code ({ cls := "java/lang/Object", name := "<init>", desc := "()V" } : Jvm.MethodName) object_method_1_code (1 : Nat) (Option.none : Option Jvm.ClassFile.FieldType), Jvm.Cond.code ({ cls := "com/example/hush5/hush5/search/TupleClasses", name := "classOf", desc := "()[I" } : Jvm.MethodName) prog_69_method_3_code (2 : Nat) (Option.some (Jvm.ClassFile.FieldType.array Jvm.ClassFile.FieldType.int)), Jvm.Cond.code ({ cls := "com/example/hush5/hush5/search/TupleClassesClassOfPinLaw", name := "pick", desc := "(IIII)I" } : Jvm.MethodName) method_2_code (4 : Nat) (Option.some Jvm.ClassFile.FieldType.int)]
set_option maxRecDepth 65536 in
theorem codes_eq : words1.filter isCode = codes1 := rfl
theorem w_codes : ∀ c ∈ words1.filter isCode, c.before args0 about1 = true := by
  rw [codes_eq]
  intro c hc
  simp only [codes1, List.mem_cons, List.not_mem_nil, or_false] at hc
  rcases hc with rfl | rfl | rfl | rfl | rfl
  · exact w_c0
  · exact w_c1
  · exact w_c2
  · exact w_c3
  · exact w_c4
set_option maxRecDepth 65536 in
theorem w_t1 : (words1.take 24).all (fun c => isCode c || c.before args0 about1) = true := by decide +kernel
set_option maxRecDepth 65536 in
theorem w_t2 : (words1.drop 24).all (fun c => isCode c || c.before args0 about1) = true := by decide +kernel
theorem w_tables : (allAtoms (Jvm.Cond.code x code maxLocals ret :: tables_1)).before args0 about1 = true := by
  rw [allAtoms_all]
  show words1.all (fun c => c.before args0 about1) = true
  refine all_split ?_ w_codes
  rw [← List.take_append_drop 24 words1, List.all_append, w_t1, w_t2]
  rfl
set_option maxRecDepth 65536 in
theorem w_case : (Jvm.Cond.and given_1 narrow_1).before args0 about1 = true := by decide +kernel
theorem w_applies : (headSpec (Jvm.Cond.code x code maxLocals ret :: tables_1) room_1).applies x e0.platform about1 = true :=
  (Spec.applies_iff w_frames).mpr ⟨w_running, w_runnable, w_alone, w_named, w_hears, w_ripe, w_room, w_tables⟩
theorem atStart : AtStart classFile x code maxLocals ret World_1 tables_1 room_1 Calls_1 rest_1 Pre_1 launch0 p0 e0 about1 theMethod args0 below0 :=
  ⟨lists_1, trivial, launch0.admits_env _ _ _, launch0.least_env, fairChoices_fair.cas, fairChoices_fair.clock, w_frames, w_args, w_heap, w_applies, trivial, trivial, w_case⟩
end start1
theorem witness_1 : WitnessClaimed_1 := ⟨start1.p0, start1.e0, start1.about1, start1.theMethod, start1.args0, start1.below0, start1.atStart⟩
end Jvm.Pilot.@@N@@
