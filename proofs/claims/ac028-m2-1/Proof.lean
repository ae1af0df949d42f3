import JvmDerived
import JvmDerived.Pilot.@@N@@Statement
import JvmDerived.Pilot.@@N@@Code
set_option linter.unusedVariables false
set_option linter.unusedSimpArgs false
namespace Jvm.Pilot.@@N@@
open Jvm Jvm.ClassFile Sem Op Lib Jvm.Free Jvm.Stand Jvm.LawKit Jvm.RoadKit Bundle Jvm.Pilot.@@N@@.Jvm.D
/-! the walk in the form of what is still to be run: own_Go T g says that the run from the frame g on T ends as promised -/
section OwnKit
variable {p : Program} {l : Launch} {e : Env} {R : Room} {s : State} {m : MethodId} {args : Array Value} {below : List Frame} {meth : Method} {c : Code} {T : State} {locs : List Loc} {cells slots : Nat} {Z : State} {h : Heap} {a0 : Array Value} {Q : Option Value → Heap → List Loc → Prop} {cm sm : Nat}
def own_Go (p : Program) (e : Env) (s : State) (below : List Frame) (Q : Option Value → Heap → List Loc → Prop) (cm sm : Nat) (T : State) (g : JFrame) : Prop :=
  ∃ (U : State) (o : Outcome), Steps p.tables e below (T.setTop g) U ∧ U.status = .running ∧ Ended U below o ∧ ∃ v L, o = .returned v ∧ Q v U.heap L ∧ FrameEnd s o U L cm sm
theorem own_st {T' : State} {g g' : JFrame} (h : ∀ t, Steps p.tables e below (T'.setTop g') t → Steps p.tables e below (T.setTop g) t) (k : own_Go p e s below Q cm sm T' g') : own_Go p e s below Q cm sm T g := by
  obtain ⟨U, o, h1, h2⟩ := k
  exact ⟨U, o, h U h1, h2⟩
abbrev own_Met (l : Launch) (Z : State) (y : MethodName) (bytes : ByteArray) (ml : Nat) (ret : Option FieldType) (rm : Room) (ws : List Jvm.Cond) (as : Array Value) (h : Heap) (Q : Option Value → Heap → List Loc → Prop) (cm sm : Nat) : Prop :=
  MetFree l y (head1 (Jvm.Cond.code y bytes ml ret :: ws) rm) (fun a U => a = as ∧ Z.Warmed39 U.vm ∧ U.heap = h) (fun _ _ _ _ _ => True) (fun _ U o U' => ∃ v L, o = .returned v ∧ Q v U'.heap L ∧ FrameEnd U o U' L cm sm)
theorem own_enter {y : MethodName} {bytes : ByteArray} {ml : Nat} {ret : Option FieldType} {rm : Room} {ws : List Jvm.Cond} {as : Array Value} {Ls : Array Slot}
    (hp : plainFor y = true) (hef : ∀ m, entryFrame m as ml = mkF m 0 Ls [])
    (body : ∀ (p : Program) (e : Env) (s : State) (m : MethodId) (below : List Frame) (meth : Method) (c : Code) (T : State), p.tables.exec = Jvm.exec → c.code = bytes → c.maxLocals = ml → s.vm.findClass y.cls = some m.cls → meth.name = y.name → meth.sig.returnType = ret → meth.locks = false → Z.Warmed39 s.vm →
      Stand p l e rm s m as below meth c T [] 0 0 → T.heap = h → own_Go p e s below Q cm sm T (mkF m 0 Ls [])) :
    own_Met l Z y bytes ml ret rm ws as h Q cm sm := by
  refine MetFree.of_bodySF hp hisR ?_
  intro p e s m args below meth c s₁ Bd hml0 hP hK
  obtain ⟨rfl, hZ, hh⟩ := hP
  obtain ⟨U, o, h1, h2⟩ := body p e s m below meth c s₁ Bd.exec Bd.bytes hml0 (findClass_of_methodNamed Bd.named) (name_of_methodNamed Bd.named Bd.method).1 Bd.returns (BodyLoose.notSynchronized Bd) hZ (Stand.of_body Bd) (by rw [← hh, Bd.state]; rfl)
  exact ⟨U, o, castTop (hef m) h1, h2⟩
/-! returns -/
theorem own_retN (X : Stand p l e R s m args below meth c T locs cells slots) (hx : p.tables.exec = Jvm.exec) (hlk : meth.locks = false) {t : FieldType} (hret : meth.sig.returnType = some t) (ht : t = .boolean ∨ t = .byte ∨ t = .char ∨ t = .short) {pc : Nat} {Ls : Array Slot} {z z' : Int32} {rest : List Value}
    (hd : decode c.code pc = .ok (.ireturn, 1)) (hz : nar t z = z') (hc : cells ≤ cm) (hs : slots ≤ sm) (hQ : Q (some (.int z')) T.heap locs) : own_Go p e s below Q cm sm T (mkF m pc Ls (.int z :: rest)) := by
  subst hz
  obtain ⟨fs, hr, hrun, hended, hW, hsame⟩ := X.leave (v := some (.int (nar t z))) (fun h => by rw [hret] at h; cases h) hlk
  exact ⟨_, _, retN X hx hret ht hd hr, hrun, hended, _, _, rfl, hQ, ⟨_, rfl⟩, hW, hsame.mono hc hs⟩
theorem own_retI (X : Stand p l e R s m args below meth c T locs cells slots) (hx : p.tables.exec = Jvm.exec) (hlk : meth.locks = false) (hret : meth.sig.returnType = some .int) {pc : Nat} {Ls : Array Slot} {z : Int32} {rest : List Value}
    (hd : decode c.code pc = .ok (.ireturn, 1)) (hc : cells ≤ cm) (hs : slots ≤ sm) (hQ : Q (some (.int z)) T.heap locs) : own_Go p e s below Q cm sm T (mkF m pc Ls (.int z :: rest)) := by
  obtain ⟨fs, hr, hrun, hended, hW, hsame⟩ := X.leave (v := some (.int z)) (fun h => by rw [hret] at h; cases h) hlk
  exact ⟨_, _, retOut X hx hret rfl (Or.inl ⟨rfl, Or.inl rfl, _, rfl⟩) hd hr, hrun, hended, _, _, rfl, hQ, ⟨_, rfl⟩, hW, hsame.mono hc hs⟩
theorem own_retJ (X : Stand p l e R s m args below meth c T locs cells slots) (hx : p.tables.exec = Jvm.exec) (hlk : meth.locks = false) (hret : meth.sig.returnType = some .long) {pc : Nat} {Ls : Array Slot} {z : Int64} {rest : List Value}
    (hd : decode c.code pc = .ok (.lreturn, 1)) (hc : cells ≤ cm) (hs : slots ≤ sm) (hQ : Q (some (.long z)) T.heap locs) : own_Go p e s below Q cm sm T (mkF m pc Ls (.long z :: rest)) := by
  obtain ⟨fs, hr, hrun, hended, hW, hsame⟩ := X.leave (v := some (.long z)) (fun h => by rw [hret] at h; cases h) hlk
  exact ⟨_, _, retOut X hx hret rfl (Or.inr (Or.inl ⟨rfl, rfl, _, rfl⟩)) hd hr, hrun, hended, _, _, rfl, hQ, ⟨_, rfl⟩, hW, hsame.mono hc hs⟩
theorem own_retR (X : Stand p l e R s m args below meth c T locs cells slots) (hx : p.tables.exec = Jvm.exec) (hlk : meth.locks = false) {t : FieldType} (hret : meth.sig.returnType = some t) (ht : t.isReference = true) {pc : Nat} {Ls : Array Slot} {w : Value} (hw : w.isRef = true) (hn : narrow t w = w) {rest : List Value}
    (hd : decode c.code pc = .ok (.areturn, 1)) (hc : cells ≤ cm) (hs : slots ≤ sm) (hQ : Q (some w) T.heap locs) : own_Go p e s below Q cm sm T (mkF m pc Ls (w :: rest)) := by
  obtain ⟨fs, hr, hrun, hended, hW, hsame⟩ := X.leave (v := some w) (fun h => by rw [hret] at h; cases h) hlk
  exact ⟨_, _, retOut X hx hret hn (Or.inr (Or.inr (Or.inr (Or.inr ⟨rfl, ht, hw⟩)))) hd hr, hrun, hended, _, _, rfl, hQ, ⟨_, rfl⟩, hW, hsame.mono hc hs⟩
theorem own_ret0 (X : Stand p l e R s m args below meth c T locs cells slots) (hx : p.tables.exec = Jvm.exec) (hlk : meth.locks = false) (hret : meth.sig.returnType = none) {pc : Nat} {Ls : Array Slot}
    (hd : decode c.code pc = .ok (.return_, 1)) (hc : cells ≤ cm) (hs : slots ≤ sm) (hQ : Q none T.heap locs) : own_Go p e s below Q cm sm T (mkF m pc Ls []) := by
  obtain ⟨fs, hr, hrun, hended, hW, hsame⟩ := X.leave (v := none) (fun _ => rfl) hlk
  exact ⟨_, _, X.returnOut hx hret hd hr, hrun, hended, _, _, rfl, hQ, ⟨_, rfl⟩, hW, hsame.mono hc hs⟩
/-! calls by the callee's contract -/
theorem own_callS (X : Stand p l e R s m args below meth c T locs cells slots) (hx : p.tables.exec = Jvm.exec) (hZ : Z.Warmed39 s.vm) {own : String} {index : Nat} {y : MethodName} {bytes : ByteArray} {maxL : Nat} {ret : Option FieldType} (hown : s.vm.findClass own = some m.cls)
    (w1 : (Jvm.Cond.methodLink own index y).before a0 Z = true) (w2 : (Jvm.Cond.static y).before a0 Z = true) (w3 : (Jvm.Cond.initialized y.cls).before a0 Z = true) (w4 : (Jvm.Cond.code y bytes maxL ret).before a0 Z = true)
    (hy : y.cls ≠ "java/lang/invoke/MethodHandle" ∧ y.cls ≠ "java/lang/invoke/VarHandle") {rm : Room} {as : Array Value} {Qc : Option Value → Heap → List Loc → Prop} (eT : T.heap = h)
    (hM : own_Met l Z y bytes maxL ret rm [] as h Qc rm.cells rm.slots) (W : Nat) (hf : rm.frames + 1 ≤ R.frames) (hl : W + (maxL + 11) + rm.locals ≤ R.locals)
    {g : JFrame} (hg : g.method = m) (hsize : g.locals.size = c.maxLocals) {argsL rest : List Value} {ps : List FieldType} {r : Option FieldType} (hpd : parseMethodDescriptor y.desc = some ⟨ps, r⟩) (hlen : argsL.length = ps.length) (has : argsL.toArray = as)
    (hstack : g.stack = argsL.reverse ++ rest) (hW : 2 * g.monitorRoom + (rest.map fun v => v.category).sum ≤ W) (hdg : decode c.code g.pc = .ok (.invokestatic index, 3)) (hc : cells + rm.cells ≤ R.cells) (hs : slots + rm.slots ≤ R.slots)
    (k : ∀ (T' : State) (v : Option Value) (Lc : List Loc), Stand p l e R s m args below meth c T' (locs ++ Lc) (cells + rm.cells) (slots + rm.slots) → Qc v T'.heap Lc → own_Go p e s below Q cm sm T' { g with pc := g.pc + 3, stack := v.toList ++ rest }) :
    own_Go p e s below Q cm sm T g := by
  obtain ⟨v, _, ⟨T', L', k', n'⟩, -, X', ⟨Lc, hQ, l1, y1, z1⟩, st⟩ := Jvm.LawKit.callS X hx (y := y) hown (mvT hZ w1) (mvT hZ w2) (mvT hZ w3) (mvT hZ w4) hy (backOf (W := W) hM hZ w4 w3 hf hl) hg hsize (argsL := argsL) (rest := rest) (lenOf hpd hlen) hstack hW hdg (fun _ _ => ⟨has, eT, hc, hs⟩)
  dsimp only [Pt.U, Pt.locs, Pt.cells, Pt.slots] at X' l1 y1 z1 st hQ
  subst l1 y1 z1
  exact own_st st (k T' v Lc X' hQ)
theorem own_callN (X : Stand p l e R s m args below meth c T locs cells slots) (hx : p.tables.exec = Jvm.exec) (hZ : Z.Warmed39 s.vm) {own : String} {index : Nat} {y : MethodName} {bytes : ByteArray} {maxL : Nat} (hy1 : y.name = "<init>") (hown : s.vm.findClass own = some m.cls)
    (w1 : (Jvm.Cond.methodLink own index y).before a0 Z = true) (w2 : (Jvm.Cond.instanceMethod y).before a0 Z = true) (w3 : (Jvm.Cond.initialized y.cls).before a0 Z = true) (w4 : (Jvm.Cond.code y bytes maxL none).before a0 Z = true)
    (hy : y.cls ≠ "java/lang/invoke/MethodHandle" ∧ y.cls ≠ "java/lang/invoke/VarHandle") {rm : Room} {as : Array Value} {Qc : Option Value → Heap → List Loc → Prop} (eT : T.heap = h)
    (hM : own_Met l Z y bytes maxL none rm [] as h Qc rm.cells rm.slots) (W : Nat) (hf : rm.frames + 1 ≤ R.frames) (hl : W + (maxL + 11) + rm.locals ≤ R.locals)
    {g : JFrame} (hg : g.method = m) (hsize : g.locals.size = c.maxLocals) {a : Addr} {argsL rest : List Value} {ps : List FieldType} {r : Option FieldType} (hpd : parseMethodDescriptor y.desc = some ⟨ps, r⟩) (hlen : argsL.length = ps.length) (has : (Value.ref a :: argsL).toArray = as)
    (hstack : g.stack = argsL.reverse ++ .ref a :: rest) (hW : 2 * g.monitorRoom + (rest.map fun v => v.category).sum ≤ W) (hdg : decode c.code g.pc = .ok (.invokespecial index, 3)) (hc : cells + rm.cells ≤ R.cells) (hs : slots + rm.slots ≤ R.slots)
    (k : ∀ (T' : State) (v : Option Value) (Lc : List Loc), Stand p l e R s m args below meth c T' (locs ++ Lc) (cells + rm.cells) (slots + rm.slots) → Qc v T'.heap Lc → own_Go p e s below Q cm sm T' { g with pc := g.pc + 3, stack := v.toList ++ rest }) :
    own_Go p e s below Q cm sm T g := by
  obtain ⟨v, _, ⟨T', L', k', n'⟩, -, X', ⟨Lc, hQ, l1, y1, z1⟩, st⟩ := X.specialBack hx (y := y) hy1 hown (mvT hZ w1) (mvT hZ w2) (mvT hZ w4) hy (backOf (W := W) hM hZ w4 w3 hf hl) hg hsize (Steps.refl _) (a := a) (argsL := argsL) (rest := rest) (lenOf hpd hlen) hstack hW hdg (fun _ _ => ⟨has, eT, hc, hs⟩)
  dsimp only [Pt.U, Pt.locs, Pt.cells, Pt.slots] at X' l1 y1 z1 st hQ
  subst l1 y1 z1
  exact own_st (fun _ q => st.trans q) (k T' v Lc X' hQ)
theorem own_callV (X : Stand p l e R s m args below meth c T locs cells slots) (hx : p.tables.exec = Jvm.exec) (hZ : Z.Warmed39 s.vm) {own C : String} {index : Nat} {y : MethodName} {bytes : ByteArray} {maxL : Nat} {ret : Option FieldType} (hown : s.vm.findClass own = some m.cls)
    (w1 : (Jvm.Cond.methodLink own index y).before a0 Z = true) (w2 : (Jvm.Cond.declares y).before a0 Z = true) (w5 : (Jvm.Cond.selects C y y).before a0 Z = true) (w6 : (Jvm.Cond.instanceMethod y).before a0 Z = true) (w3 : (Jvm.Cond.initialized y.cls).before a0 Z = true) (w4 : (Jvm.Cond.code y bytes maxL ret).before a0 Z = true)
    (hy : y.cls ≠ "java/lang/invoke/MethodHandle" ∧ y.cls ≠ "java/lang/invoke/VarHandle") {rm : Room} {as : Array Value} {Qc : Option Value → Heap → List Loc → Prop} (eT : T.heap = h)
    (hM : own_Met l Z y bytes maxL ret rm [] as h Qc rm.cells rm.slots) (W : Nat) (hf : rm.frames + 1 ≤ R.frames) (hl : W + (maxL + 11) + rm.locals ≤ R.locals) {a : Addr} (E : Exa Z h a C)
    {g : JFrame} (hg : g.method = m) (hsize : g.locals.size = c.maxLocals) {argsL rest : List Value} {ps : List FieldType} {r : Option FieldType} (hpd : parseMethodDescriptor y.desc = some ⟨ps, r⟩) (hlen : argsL.length = ps.length) (has : (Value.ref a :: argsL).toArray = as)
    (hstack : g.stack = argsL.reverse ++ .ref a :: rest) (hW : 2 * g.monitorRoom + (rest.map fun v => v.category).sum ≤ W) (hdg : decode c.code g.pc = .ok (.invokevirtual index, 3)) (hc : cells + rm.cells ≤ R.cells) (hs : slots + rm.slots ≤ R.slots)
    (k : ∀ (T' : State) (v : Option Value) (Lc : List Loc), Stand p l e R s m args below meth c T' (locs ++ Lc) (cells + rm.cells) (slots + rm.slots) → Qc v T'.heap Lc → own_Go p e s below Q cm sm T' { g with pc := g.pc + 3, stack := v.toList ++ rest }) :
    own_Go p e s below Q cm sm T g := by
  obtain ⟨cq, kq, qa, qb, qc⟩ := isOf hZ eT E
  obtain ⟨v, _, ⟨T', L', k', n'⟩, -, X', ⟨Lc, hQ, l1, y1, z1⟩, st⟩ := X.virtualBack hx (y := y) (z := y) hown (mvT hZ w1) (mvT hZ w2) (notFace_of_selects (args := #[]) (mvT hZ w5)) (mvT hZ w5) (mvT hZ w6) hy (backOf (W := W) hM hZ w4 w3 hf hl) qa qc hg hsize (Steps.refl _) (argsL := argsL) (rest := rest) (lenOf hpd hlen) hstack hW hdg (fun _ _ => ⟨has, eT, hc, hs⟩)
  dsimp only [Pt.U, Pt.locs, Pt.cells, Pt.slots] at X' l1 y1 z1 st hQ
  subst l1 y1 z1
  exact own_st (fun _ q => st.trans q) (k T' v Lc X' hQ)
/-! arrays by the list of their values -/
theorem own_ix {n j : Int32} {vs : List Value} {d : Value} {a : Addr} {k : ClassId} {ty : FieldType} (V : Arv Z h a k ty n vs d) (hj : ¬ j < 0 ∧ j < n) : ∃ cl : Cell, Arr Z h a cl ty ∧ ¬ (j < 0 ∨ cl.slots.size ≤ j.toNatClampNeg) ∧ cl.slots[j.toNatClampNeg]? = some (vs.getD j.toNatClampNeg d) := by
  obtain ⟨cl, A, -, S, N, H, -⟩ := V
  have q := inb_of S hj
  exact ⟨cl, A, q, H _ (Nat.lt_of_not_le fun y => q (Or.inr y))⟩
theorem own_len (X : Stand p l e R s m args below meth c T locs cells slots) (hx : p.tables.exec = Jvm.exec) (hZ : Z.Warmed39 s.vm) (eT : T.heap = h) {a : Addr} {k : ClassId} {ty : FieldType} {n : Int32} {vs : List Value} {d : Value} (V : Arv Z h a k ty n vs d)
    {g : JFrame} (hg : g.method = m) {rest : List Value} (hs : g.stack = .ref a :: rest) (hd : decode c.code g.pc = .ok (.arraylength, 1)) :
    ∀ t, Steps p.tables e below (T.setTop { g with pc := g.pc + 1, stack := .int n :: rest }) t → Steps p.tables e below (T.setTop g) t := by
  obtain ⟨cl, A, -, S, N, -, -⟩ := V
  intro t k
  refine X.arraylength hx (by rw [eT]; exact A.1) (State.isArrayOf_alike hZ.alike A.2.1) hg hs hd t ?_
  rw [len_of S N]; exact k
theorem own_ldI (X : Stand p l e R s m args below meth c T locs cells slots) (hx : p.tables.exec = Jvm.exec) (hZ : Z.Warmed39 s.vm) (eT : T.heap = h) {a : Addr} {k : ClassId} {n : Int32} {vs : List Value} {d : Value} (V : Arv Z h a k .int n vs d) {j x : Int32} (hj : ¬ j < 0 ∧ j < n) (hv : vs.getD j.toNatClampNeg d = .int x)
    {g : JFrame} (hg : g.method = m) {rest : List Value} (hs : g.stack = .int j :: .ref a :: rest) (hd : decode c.code g.pc = .ok (.iaload, 1)) :
    ∀ t, Steps p.tables e below (T.setTop { g with pc := g.pc + 1, stack := .int x :: rest }) t → Steps p.tables e below (T.setTop g) t := by
  obtain ⟨cl, A, q, H⟩ := own_ix V hj
  exact X.iaload hx (j := j) (v := .int x) (by rw [eT]; exact A.1) (State.isArrayOf_alike hZ.alike A.2.1) A.2.2 q (hv ▸ H) hg hs hd
theorem own_ldB (X : Stand p l e R s m args below meth c T locs cells slots) (hx : p.tables.exec = Jvm.exec) (hZ : Z.Warmed39 s.vm) (eT : T.heap = h) {a : Addr} {k : ClassId} {n : Int32} {vs : List Value} {d : Value} (V : Arv Z h a k .byte n vs d) {j x : Int32} (hj : ¬ j < 0 ∧ j < n) (hv : vs.getD j.toNatClampNeg d = .int x)
    {g : JFrame} (hg : g.method = m) {rest : List Value} (hs : g.stack = .int j :: .ref a :: rest) (hd : decode c.code g.pc = .ok (.baload, 1)) :
    ∀ t, Steps p.tables e below (T.setTop { g with pc := g.pc + 1, stack := .int x :: rest }) t → Steps p.tables e below (T.setTop g) t := by
  obtain ⟨cl, A, q, H⟩ := own_ix V hj
  exact X.baloadBytes hx (j := j) (v := .int x) (by rw [eT]; exact A.1) (State.isArrayOf_alike hZ.alike A.2.1) A.2.2 q (hv ▸ H) hg hs hd
theorem own_ldJ (X : Stand p l e R s m args below meth c T locs cells slots) (hx : p.tables.exec = Jvm.exec) (hZ : Z.Warmed39 s.vm) (eT : T.heap = h) {a : Addr} {k : ClassId} {n : Int32} {vs : List Value} {d : Value} (V : Arv Z h a k .long n vs d) {j : Int32} {x : Int64} (hj : ¬ j < 0 ∧ j < n) (hv : vs.getD j.toNatClampNeg d = .long x)
    {g : JFrame} (hg : g.method = m) {rest : List Value} (hs : g.stack = .int j :: .ref a :: rest) (hd : decode c.code g.pc = .ok (.laload, 1)) :
    ∀ t, Steps p.tables e below (T.setTop { g with pc := g.pc + 1, stack := .long x :: rest }) t → Steps p.tables e below (T.setTop g) t := by
  obtain ⟨cl, A, q, H⟩ := own_ix V hj
  exact X.laload hx (j := j) (v := .long x) (by rw [eT]; exact A.1) (State.isArrayOf_alike hZ.alike A.2.1) A.2.2 q (hv ▸ H) hg hs hd
theorem own_stI (X : Stand p l e R s m args below meth c T locs cells slots) (hx : p.tables.exec = Jvm.exec) (hZ : Z.Warmed39 s.vm) (eT : T.heap = h) {a : Addr} {k : ClassId} {n : Int32} {vs : List Value} {d : Value} (V : Arv Z h a k .int n vs d) {j x : Int32} (hj : ¬ j < 0 ∧ j < n) (hl : j.toNatClampNeg < vs.length)
    {g : JFrame} (hg : g.method = m) {rest : List Value} (hs : g.stack = .int x :: .int j :: .ref a :: rest) (hd : decode c.code g.pc = .ok (.iastore, 1)) :
    ∃ T' h', Stand p l e R s m args below meth c T' (locs ++ [⟨a, j.toNatClampNeg⟩]) cells slots ∧ T'.heap = h' ∧ Wr h h' a j.toNatClampNeg (.int x) ∧ Arv Z h' a k .int n (vs.set j.toNatClampNeg (.int x)) d ∧ ∀ t, Steps p.tables e below (T'.setTop { g with pc := g.pc + 1, stack := rest }) t → Steps p.tables e below (T.setTop g) t := by
  obtain ⟨cl, A, q1, S, N, H, G⟩ := V
  obtain ⟨T', h', X', e', W, st⟩ := stI X hx hZ eT A (j := j) (inb_of S hj) hg hs hd
  exact ⟨T', h', X', e', W, Arv.set A q1 S N H G rfl W _ rfl hl, st⟩
theorem own_stJ (X : Stand p l e R s m args below meth c T locs cells slots) (hx : p.tables.exec = Jvm.exec) (hZ : Z.Warmed39 s.vm) (eT : T.heap = h) {a : Addr} {k : ClassId} {n : Int32} {vs : List Value} {d : Value} (V : Arv Z h a k .long n vs d) {j : Int32} {x : Int64} (hj : ¬ j < 0 ∧ j < n) (hl : j.toNatClampNeg < vs.length)
    {g : JFrame} (hg : g.method = m) {rest : List Value} (hs : g.stack = .long x :: .int j :: .ref a :: rest) (hd : decode c.code g.pc = .ok (.lastore, 1)) :
    ∃ T' h', Stand p l e R s m args below meth c T' (locs ++ [⟨a, j.toNatClampNeg⟩]) cells slots ∧ T'.heap = h' ∧ Wr h h' a j.toNatClampNeg (.long x) ∧ Arv Z h' a k .long n (vs.set j.toNatClampNeg (.long x)) d ∧ ∀ t, Steps p.tables e below (T'.setTop { g with pc := g.pc + 1, stack := rest }) t → Steps p.tables e below (T.setTop g) t := by
  obtain ⟨cl, A, q1, S, N, H, G⟩ := V
  obtain ⟨T', h', X', e', W, st⟩ := stJ X hx hZ eT A (j := j) (inb_of S hj) hg hs hd
  exact ⟨T', h', X', e', W, Arv.set A q1 S N H G rfl W _ rfl hl, st⟩
theorem own_stB (X : Stand p l e R s m args below meth c T locs cells slots) (hx : p.tables.exec = Jvm.exec) (hZ : Z.Warmed39 s.vm) (eT : T.heap = h) {a : Addr} {k : ClassId} {n : Int32} {vs : List Value} {d : Value} (V : Arv Z h a k .byte n vs d) {j x x' : Int32} (hj : ¬ j < 0 ∧ j < n) (hl : j.toNatClampNeg < vs.length) (hn : x.toInt8.toInt32 = x')
    {g : JFrame} (hg : g.method = m) {rest : List Value} (hs : g.stack = .int x :: .int j :: .ref a :: rest) (hd : decode c.code g.pc = .ok (.bastore, 1)) :
    ∃ T' h', Stand p l e R s m args below meth c T' (locs ++ [⟨a, j.toNatClampNeg⟩]) cells slots ∧ T'.heap = h' ∧ Wr h h' a j.toNatClampNeg (.int x') ∧ Arv Z h' a k .byte n (vs.set j.toNatClampNeg (.int x')) d ∧ ∀ t, Steps p.tables e below (T'.setTop { g with pc := g.pc + 1, stack := rest }) t → Steps p.tables e below (T.setTop g) t := by
  subst hn
  obtain ⟨cl, A, q1, S, N, H, G⟩ := V
  obtain ⟨T', h', X', e', W, st⟩ := stB X hx hZ eT A (j := j) (inb_of S hj) hg hs hd
  exact ⟨T', h', X', e', W, Arv.set A q1 S N H G (fits_nar_byte _) W _ rfl hl, st⟩
theorem own_ldR (X : Stand p l e R s m args below meth c T locs cells slots) (hx : p.tables.exec = Jvm.exec) (hZ : Z.Warmed39 s.vm) (eT : T.heap = h) {a : Addr} {k : ClassId} {ty : FieldType} {n : Int32} {vs : List Value} {d : Value} (V : Arv Z h a k ty n vs d) (hty : ty.isReference = true) {j : Int32} {v : Value} (hj : ¬ j < 0 ∧ j < n) (hv : vs.getD j.toNatClampNeg d = v)
    {g : JFrame} (hg : g.method = m) {rest : List Value} (hs : g.stack = .int j :: .ref a :: rest) (hd : decode c.code g.pc = .ok (.aaload, 1)) :
    ∀ t, Steps p.tables e below (T.setTop { g with pc := g.pc + 1, stack := v :: rest }) t → Steps p.tables e below (T.setTop g) t := by
  obtain ⟨cl, A, q, H⟩ := own_ix V hj
  exact X.aaload hx (j := j) (v := v) (by rw [eT]; exact A.1) (State.isArrayOf_alike hZ.alike A.2.1) hty A.2.2 q (hv ▸ H) hg hs hd
theorem own_stR (X : Stand p l e R s m args below meth c T locs cells slots) (hx : p.tables.exec = Jvm.exec) (hZ : Z.Warmed39 s.vm) (eT : T.heap = h) {a : Addr} {k : ClassId} {ty : FieldType} {n : Int32} {vs : List Value} {d : Value} (V : Arv Z h a k ty n vs d) (hty : ty.isReference = true) {v : Value} (F : ∀ cl : Cell, Arr Z h a cl ty → cl.cls = k → Sto Z h a v) (hf : fits ty v = true) {j : Int32} (hj : ¬ j < 0 ∧ j < n) (hl : j.toNatClampNeg < vs.length)
    {g : JFrame} (hg : g.method = m) {rest : List Value} (hs : g.stack = v :: .int j :: .ref a :: rest) (hd : decode c.code g.pc = .ok (.aastore, 1)) :
    ∃ T' h', Stand p l e R s m args below meth c T' (locs ++ [⟨a, j.toNatClampNeg⟩]) cells slots ∧ T'.heap = h' ∧ Wr h h' a j.toNatClampNeg v ∧ Arv Z h' a k ty n (vs.set j.toNatClampNeg v) d ∧ ∀ t, Steps p.tables e below (T'.setTop { g with pc := g.pc + 1, stack := rest }) t → Steps p.tables e below (T.setTop g) t := by
  obtain ⟨cl, A, q1, S, N, H, G⟩ := V
  obtain ⟨T', h', X', e', W, st⟩ := stR X hx hZ eT A (j := j) (inb_of S hj) hty (F cl A q1) hg hs hd
  exact ⟨T', h', X', e', W, Arv.set A q1 S N H G hf W _ rfl hl, st⟩
/-! booleans -/
def own_b (P : Prop) [Decidable P] : Int32 := if P then 1 else 0
theorem own_bt {P : Prop} [Decidable P] (q : P) : own_b P = 1 := if_pos q
theorem own_bf {P : Prop} [Decidable P] (q : ¬ P) : own_b P = 0 := if_neg q
theorem own_bnar {P : Prop} [Decidable P] : nar .boolean (own_b P) = own_b P := by
  by_cases q : P
  · rw [own_bt q]; decide
  · rw [own_bf q]; decide
theorem own_bnw {P : Prop} [Decidable P] : narrow .boolean (.int (own_b P)) = .int (own_b P) := congrArg Value.int (own_bnar (P := P))
theorem own_by {P : Prop} [Decidable P] (q : P) : ifCond.holds .ne (own_b P) = true ∧ ifCond.holds .eq (own_b P) = false := by rw [own_bt q]; decide
theorem own_bn {P : Prop} [Decidable P] (q : ¬ P) : ifCond.holds .eq (own_b P) = true ∧ ifCond.holds .ne (own_b P) = false := by rw [own_bf q]; decide
theorem own_beq {P P' : Prop} [Decidable P] [Decidable P'] (q : P ↔ P') : own_b P = own_b P' := by
  by_cases r : P
  · rw [own_bt r, own_bt (q.mp r)]
  · rw [own_bf r, own_bf fun x => r (q.mpr x)]
end OwnKit

theorem d1_0 : decode prog_36_method_1_code 0 = .ok (.aload_n 0, 1) := by decide +kernel
theorem d1_1 : decode prog_36_method_1_code 1 = .ok (.invokespecial 1, 3) := by decide +kernel
theorem d1_4 : decode prog_36_method_1_code 4 = .ok (.aload_n 1, 1) := by decide +kernel
theorem d1_5 : decode prog_36_method_1_code 5 = .ok (.astore_n 2, 1) := by decide +kernel
theorem d1_6 : decode prog_36_method_1_code 6 = .ok (.aload_n 2, 1) := by decide +kernel
theorem d1_7 : decode prog_36_method_1_code 7 = .ok (.arraylength, 1) := by decide +kernel
theorem d1_8 : decode prog_36_method_1_code 8 = .ok (.istore_n 3, 1) := by decide +kernel
theorem d1_9 : decode prog_36_method_1_code 9 = .ok (.iconst 0, 1) := by decide +kernel
theorem d1_10 : decode prog_36_method_1_code 10 = .ok (.istore 4, 2) := by decide +kernel
theorem d1_12 : decode prog_36_method_1_code 12 = .ok (.iload 4, 2) := by decide +kernel
theorem d1_14 : decode prog_36_method_1_code 14 = .ok (.iload_n 3, 1) := by decide +kernel
theorem d1_15 : decode prog_36_method_1_code 15 = .ok (.if_icmp .ge 35, 3) := by decide +kernel
theorem d1_18 : decode prog_36_method_1_code 18 = .ok (.aload_n 2, 1) := by decide +kernel
theorem d1_19 : decode prog_36_method_1_code 19 = .ok (.iload 4, 2) := by decide +kernel
theorem d1_21 : decode prog_36_method_1_code 21 = .ok (.iaload, 1) := by decide +kernel
theorem d1_22 : decode prog_36_method_1_code 22 = .ok (.istore 5, 2) := by decide +kernel
theorem d1_24 : decode prog_36_method_1_code 24 = .ok (.iload 5, 2) := by decide +kernel
theorem d1_26 : decode prog_36_method_1_code 26 = .ok (.ifCond .ge 18, 3) := by decide +kernel
theorem d1_29 : decode prog_36_method_1_code 29 = .ok (.new 7, 3) := by decide +kernel
theorem d1_32 : decode prog_36_method_1_code 32 = .ok (.dup, 1) := by decide +kernel
theorem d1_33 : decode prog_36_method_1_code 33 = .ok (.iload 5, 2) := by decide +kernel
theorem d1_35 : decode prog_36_method_1_code 35 = .ok (.invokedynamic 9, 5) := by decide +kernel
theorem d1_40 : decode prog_36_method_1_code 40 = .ok (.invokespecial 13, 3) := by decide +kernel
theorem d1_43 : decode prog_36_method_1_code 43 = .ok (.athrow, 1) := by decide +kernel
theorem d1_44 : decode prog_36_method_1_code 44 = .ok (.iinc 4 1, 3) := by decide +kernel
theorem d1_47 : decode prog_36_method_1_code 47 = .ok (.goto (-35), 3) := by decide +kernel
theorem d1_50 : decode prog_36_method_1_code 50 = .ok (.aload_n 0, 1) := by decide +kernel
theorem d1_51 : decode prog_36_method_1_code 51 = .ok (.aload_n 1, 1) := by decide +kernel
theorem d1_52 : decode prog_36_method_1_code 52 = .ok (.invokevirtual 16, 3) := by decide +kernel
theorem d1_55 : decode prog_36_method_1_code 55 = .ok (.checkcast 17, 3) := by decide +kernel
theorem d1_58 : decode prog_36_method_1_code 58 = .ok (.putfield 22, 3) := by decide +kernel
theorem d1_61 : decode prog_36_method_1_code 61 = .ok (.return_, 1) := by decide +kernel
theorem pf1 : plainFor (⟨"com/example/hush5/hush5/model/Transformation", "<init>", "([I)V"⟩ : MethodName) = true := by first | (exact plainFor_of_name (by first | (simp [plainName, overriddenIn]; done) | decide +kernel)) | decide +kernel
theorem d3_0 : decode prog_36_method_5_code 0 = .ok (.iconst 0, 1) := by decide +kernel
theorem d3_1 : decode prog_36_method_5_code 1 = .ok (.istore_n 2, 1) := by decide +kernel
theorem d3_2 : decode prog_36_method_5_code 2 = .ok (.iload_n 2, 1) := by decide +kernel
theorem d3_3 : decode prog_36_method_5_code 3 = .ok (.aload_n 0, 1) := by decide +kernel
theorem d3_4 : decode prog_36_method_5_code 4 = .ok (.getfield 22, 3) := by decide +kernel
theorem d3_7 : decode prog_36_method_5_code 7 = .ok (.arraylength, 1) := by decide +kernel
theorem d3_8 : decode prog_36_method_5_code 8 = .ok (.if_icmp .ge 26, 3) := by decide +kernel
theorem d3_11 : decode prog_36_method_5_code 11 = .ok (.aload_n 0, 1) := by decide +kernel
theorem d3_12 : decode prog_36_method_5_code 12 = .ok (.getfield 22, 3) := by decide +kernel
theorem d3_15 : decode prog_36_method_5_code 15 = .ok (.iload_n 2, 1) := by decide +kernel
theorem d3_16 : decode prog_36_method_5_code 16 = .ok (.iaload, 1) := by decide +kernel
theorem d3_17 : decode prog_36_method_5_code 17 = .ok (.aload_n 1, 1) := by decide +kernel
theorem d3_18 : decode prog_36_method_5_code 18 = .ok (.getfield 22, 3) := by decide +kernel
theorem d3_21 : decode prog_36_method_5_code 21 = .ok (.iload_n 2, 1) := by decide +kernel
theorem d3_22 : decode prog_36_method_5_code 22 = .ok (.iaload, 1) := by decide +kernel
theorem d3_23 : decode prog_36_method_5_code 23 = .ok (.if_icmp .le 5, 3) := by decide +kernel
theorem d3_26 : decode prog_36_method_5_code 26 = .ok (.iconst 0, 1) := by decide +kernel
theorem d3_27 : decode prog_36_method_5_code 27 = .ok (.ireturn, 1) := by decide +kernel
theorem d3_28 : decode prog_36_method_5_code 28 = .ok (.iinc 2 1, 3) := by decide +kernel
theorem d3_31 : decode prog_36_method_5_code 31 = .ok (.goto (-29), 3) := by decide +kernel
theorem d3_34 : decode prog_36_method_5_code 34 = .ok (.iconst 1, 1) := by decide +kernel
theorem d3_35 : decode prog_36_method_5_code 35 = .ok (.ireturn, 1) := by decide +kernel
theorem pf3 : plainFor (⟨"com/example/hush5/hush5/model/Transformation", "liesAtOrBelow", "(Lcom/example/hush5/hush5/model/Transformation;)Z"⟩ : MethodName) = true := by first | (exact plainFor_of_name (by first | (simp [plainName, overriddenIn]; done) | decide +kernel)) | decide +kernel
theorem pf0 : plainFor x = true := plainFor_of_name (by first | (simp [x, plainName, overriddenIn]; done) | decide +kernel)
theorem pd0 : parseMethodDescriptor "([I)V" = some ⟨[(.array .int)], none⟩ := by decide +kernel
theorem pd1 : parseMethodDescriptor "(Lcom/example/hush5/hush5/model/Transformation;)Z" = some ⟨[(.object "com/example/hush5/hush5/model/Transformation")], some .boolean⟩ := by decide +kernel
theorem own_N (p0 p1 : Int32) : (((p0.toUInt32 >>> ((31 : Int32) &&& 31).toUInt32).toInt32) ||| (((p1.toUInt32 >>> ((31 : Int32) &&& 31).toUInt32).toInt32) <<< ((1 : Int32) &&& 31))) = 0 ∨ (((p0.toUInt32 >>> ((31 : Int32) &&& 31).toUInt32).toInt32) ||| (((p1.toUInt32 >>> ((31 : Int32) &&& 31).toUInt32).toInt32) <<< ((1 : Int32) &&& 31))) = 1 ∨ (((p0.toUInt32 >>> ((31 : Int32) &&& 31).toUInt32).toInt32) ||| (((p1.toUInt32 >>> ((31 : Int32) &&& 31).toUInt32).toInt32) <<< ((1 : Int32) &&& 31))) = 2 ∨ (((p0.toUInt32 >>> ((31 : Int32) &&& 31).toUInt32).toInt32) ||| (((p1.toUInt32 >>> ((31 : Int32) &&& 31).toUInt32).toInt32) <<< ((1 : Int32) &&& 31))) = 3 := by
  have u := c_iushr p0 31 31 (by decide) (by decide)
  have v := c_iushr p1 31 31 (by decide) (by decide)
  have r0 := rng32 p0
  have r1 := rng32 p1
  have s := c_ishl ((p1.toUInt32 >>> ((31 : Int32) &&& 31).toUInt32).toInt32) 1 1 (by decide)
  have r2 := rng32 (((p1.toUInt32 >>> ((31 : Int32) &&& 31).toUInt32).toInt32) <<< ((1 : Int32) &&& 31))
  have t := c_or' ((p0.toUInt32 >>> ((31 : Int32) &&& 31).toUInt32).toInt32) (((p1.toUInt32 >>> ((31 : Int32) &&& 31).toUInt32).toInt32) <<< ((1 : Int32) &&& 31)) 1 (by decide) 2 (by decide) (by omega) (by omega) (by omega)
  have r3 := rng32 (((p0.toUInt32 >>> ((31 : Int32) &&& 31).toUInt32).toInt32) ||| (((p1.toUInt32 >>> ((31 : Int32) &&& 31).toUInt32).toInt32) <<< ((1 : Int32) &&& 31)))
  simp only [← Int32.toInt_inj, Int32.reduceToInt]
  omega
theorem own_nn (x : Int32) : ¬ (x &&& (2147483647 : Int32)) < 0 := by
  have m := c_mask x 2147483647 31 (by decide) (by decide)
  simp only [Int32.lt_iff_toInt_lt, Int32.reduceToInt]
  omega
theorem ef_rm1_0 (m : MethodId) (z0 : Addr) (z1 : Addr) : entryFrame m #[(.ref z0), (.ref z1)] 6 = mkF m 0 #[.val (.ref z0), .val (.ref z1), .unset, .unset, .unset, .unset] [] := by first | (simp [entryFrame, mkF, argsToLocals, Value.category]; done) | rfl
set_option maxRecDepth 65536 in
set_option maxHeartbeats 40000000 in
theorem rm1_0 (l : Launch) (Z : State) (a0 : Array Value) (hw : ∀ d ∈ tables_1, d.before a0 Z = true) (ws : List Jvm.Cond) (a b : Addr) (k : ClassId)  (h0 : Heap) (n0 : Nat) (Z0 : n0 ≤ h0.size) (E_a : Exa Z h0 a "com/example/hush5/hush5/model/Transformation") (F_levels_a : Fld Z h0 a "com/example/hush5/hush5/model/Transformation" "levels" "[I" .null) (V_b : Arv Z h0 b k .int (0 : Int32) [] (.int (0 : Int32))) (E_b : Exa Z h0 b "[I") (ne_a_b : a ≠ b) (ne_b_a : b ≠ a) (g_a : n0 ≤ a)  :
    own_Met l Z (⟨"com/example/hush5/hush5/model/Transformation", "<init>", "([I)V"⟩ : MethodName) prog_36_method_1_code 6 none ({ frames := 1, cells := 1, slots := 0, locals := 15 } : Room) ws #[(.ref a), (.ref b)] h0 (fun v h L => ∃ d : Addr, v = none ∧ Fr n0 L ∧ Keep h0 h [a] ∧ (Exa Z h a "com/example/hush5/hush5/model/Transformation") ∧ (Fld Z h a "com/example/hush5/hush5/model/Transformation" "levels" "[I" (.ref d)) ∧ (Arv Z h d k .int (0 : Int32) [] (.int (0 : Int32))) ∧ (Exa Z h d "[I")) 1 0 := by
  refine own_enter pf1 (fun m => ef_rm1_0 m a b) ?_
  intro p e s m below meth c T0 hx hby hml hown hnm hret hlk hZ X0 e0
  have N0 := Fr.nil n0
  show own_Go p e s below _ _ _ T0 (mkF m 0 #[.val (.ref a), .val (.ref b), .unset, .unset, .unset, .unset] [])
  have K_0 := Keep.refl h0 [a]
  refine own_st (fun _ k => XS.aloadN X0.here hx rfl (hb hby d1_0) rfl rfl k) ?_
  show own_Go p e s below _ _ _ T0 (mkF m 1 #[.val (.ref a), .val (.ref b), .unset, .unset, .unset, .unset] [(.ref a)])
  obtain ⟨T1, X1, e1, st1⟩ := initO X0 hx hZ hown (hw _ (List.mem_of_getElem? (i := 8) rfl)) (hw _ (List.mem_of_getElem? (i := 9) rfl)) (hw _ (List.mem_of_getElem? (i := 10) rfl)) e0 (g := (mkF m 1 #[.val (.ref a), .val (.ref b), .unset, .unset, .unset, .unset] [(.ref a)])) rfl (by rw [hml]; rfl) rfl (hb hby d1_1) (by decide) (W := 0) (by show 2 * 0 + _ ≤ _; exact Nat.le_of_eq rfl) (by decide)
  refine own_st st1 ?_
  show own_Go p e s below _ _ _ T1 (mkF m 4 #[.val (.ref a), .val (.ref b), .unset, .unset, .unset, .unset] [])
  refine own_st (fun _ k => XS.aloadN X1.here hx rfl (hb hby d1_4) rfl rfl k) ?_
  show own_Go p e s below _ _ _ T1 (mkF m 5 #[.val (.ref a), .val (.ref b), .unset, .unset, .unset, .unset] [(.ref b)])
  refine own_st (fun _ k => XS.astoreN X1.here hx rfl (hb hby d1_5) rfl rfl (l' := #[.val (.ref a), .val (.ref b), .val (.ref b), .unset, .unset, .unset]) rfl k) ?_
  show own_Go p e s below _ _ _ T1 (mkF m 6 #[.val (.ref a), .val (.ref b), .val (.ref b), .unset, .unset, .unset] [])
  refine own_st (fun _ k => XS.aloadN X1.here hx rfl (hb hby d1_6) rfl rfl k) ?_
  show own_Go p e s below _ _ _ T1 (mkF m 7 #[.val (.ref a), .val (.ref b), .val (.ref b), .unset, .unset, .unset] [(.ref b)])
  refine own_st (own_len X1 hx hZ e1 V_b (g := (mkF m 7 #[.val (.ref a), .val (.ref b), .val (.ref b), .unset, .unset, .unset] [(.ref b)])) rfl rfl (hb hby d1_7)) ?_
  show own_Go p e s below _ _ _ T1 (mkF m 8 #[.val (.ref a), .val (.ref b), .val (.ref b), .unset, .unset, .unset] [(.int (0 : Int32))])
  refine own_st (fun _ k => XS.istoreN X1.here hx rfl (hb hby d1_8) rfl (l' := #[.val (.ref a), .val (.ref b), .val (.ref b), .val (.int (0 : Int32)), .unset, .unset]) rfl k) ?_
  show own_Go p e s below _ _ _ T1 (mkF m 9 #[.val (.ref a), .val (.ref b), .val (.ref b), .val (.int (0 : Int32)), .unset, .unset] [])
  refine own_st (fun _ k => XS.iconst X1.here hx rfl (hb hby d1_9) k) ?_
  show own_Go p e s below _ _ _ T1 (mkF m 10 #[.val (.ref a), .val (.ref b), .val (.ref b), .val (.int (0 : Int32)), .unset, .unset] [(.int (0 : Int32))])
  refine own_st (fun _ k => XS.istore X1.here hx rfl (hb hby d1_10) rfl (l' := #[.val (.ref a), .val (.ref b), .val (.ref b), .val (.int (0 : Int32)), .val (.int (0 : Int32)), .unset]) rfl k) ?_
  show own_Go p e s below _ _ _ T1 (mkF m 12 #[.val (.ref a), .val (.ref b), .val (.ref b), .val (.int (0 : Int32)), .val (.int (0 : Int32)), .unset] [])
  refine own_st (fun _ k => XS.iload X1.here hx rfl (hb hby d1_12) rfl k) ?_
  show own_Go p e s below _ _ _ T1 (mkF m 14 #[.val (.ref a), .val (.ref b), .val (.ref b), .val (.int (0 : Int32)), .val (.int (0 : Int32)), .unset] [(.int (0 : Int32))])
  refine own_st (fun _ k => XS.iloadN X1.here hx rfl (hb hby d1_14) rfl k) ?_
  show own_Go p e s below _ _ _ T1 (mkF m 15 #[.val (.ref a), .val (.ref b), .val (.ref b), .val (.int (0 : Int32)), .val (.int (0 : Int32)), .unset] [(.int (0 : Int32)), (.int (0 : Int32))])
  refine own_st (fun _ k => XS.icmpYes X1.here hx rfl (pc0 := 15) (pc' := 50) rfl (hb hby d1_15) rfl (by decide) (by decide) (by decide) k) ?_
  show own_Go p e s below _ _ _ T1 (mkF m 50 #[.val (.ref a), .val (.ref b), .val (.ref b), .val (.int (0 : Int32)), .val (.int (0 : Int32)), .unset] [])
  refine own_st (fun _ k => XS.aloadN X1.here hx rfl (hb hby d1_50) rfl rfl k) ?_
  show own_Go p e s below _ _ _ T1 (mkF m 51 #[.val (.ref a), .val (.ref b), .val (.ref b), .val (.int (0 : Int32)), .val (.int (0 : Int32)), .unset] [(.ref a)])
  refine own_st (fun _ k => XS.aloadN X1.here hx rfl (hb hby d1_51) rfl rfl k) ?_
  show own_Go p e s below _ _ _ T1 (mkF m 52 #[.val (.ref a), .val (.ref b), .val (.ref b), .val (.int (0 : Int32)), .val (.int (0 : Int32)), .unset] [(.ref b), (.ref a)])
  obtain ⟨T2, h2, X2, e2, E2, V2, A2, st2⟩ := cloneH X1 hx hZ hown (hw _ (List.mem_of_getElem? (i := 11) rfl)) (hw _ (List.mem_of_getElem? (i := 12) rfl)) (hw _ (List.mem_of_getElem? (i := 16) rfl)) (hw _ (List.mem_of_getElem? (i := 14) rfl)) (hw _ (List.mem_of_getElem? (i := 15) rfl)) (hw _ (List.mem_of_getElem? (i := 17) rfl)) e1 V_b.arh E_b (g := (mkF m 52 #[.val (.ref a), .val (.ref b), .val (.ref b), .val (.int (0 : Int32)), .val (.int (0 : Int32)), .unset] [(.ref b), (.ref a)])) rfl (by rw [hml]; rfl) rfl (hb hby d1_52) (by decide) (W := 1) (by show 2 * 0 + _ ≤ _; exact Nat.le_of_eq rfl) (by decide) (cap := 0) (by decide) (by decide) (by decide)
  obtain ⟨d, g2⟩ : ∃ z, z = h0.size := ⟨_, rfl⟩
  rw [← g2] at V2 A2 st2
  have g_d : n0 ≤ d := Nat.le_trans Z0 (Nat.le_of_eq g2.symm)
  have ne_a_d : a ≠ d := Nat.ne_of_lt (Nat.lt_of_lt_of_le E_a.lt (Nat.le_of_eq g2.symm))
  have ne_d_a := Ne.symm ne_a_d
  have ne_b_d : b ≠ d := Nat.ne_of_lt (Nat.lt_of_lt_of_le V_b.lt (Nat.le_of_eq g2.symm))
  have ne_d_b := Ne.symm ne_b_d
  have sz_d := Nat.le_trans K_0.1 (Nat.le_of_eq g2.symm)
  replace E_a := E_a.ext E2
  replace F_levels_a := F_levels_a.ext E2
  replace V_b := V_b.ext E2
  replace E_b := E_b.ext E2
  have Z3 := Nat.le_trans Z0 E2.1
  have K4 := K_0.ext E2
  have V_d : Arv Z h2 d k .int (0 : Int32) [] (.int (0 : Int32)) := V2
  have E_d := A2
  refine own_st st2 ?_
  show own_Go p e s below _ _ _ T2 (mkF m 55 #[.val (.ref a), .val (.ref b), .val (.ref b), .val (.int (0 : Int32)), .val (.int (0 : Int32)), .unset] [(.ref d), (.ref a)])
  obtain ⟨T5, X5, e5, st5⟩ := castY X2 hx hZ hown (hw _ (List.mem_of_getElem? (i := 18) rfl)) e2 (Ins.self E_d) (g := (mkF m 55 #[.val (.ref a), .val (.ref b), .val (.ref b), .val (.int (0 : Int32)), .val (.int (0 : Int32)), .unset] [(.ref d), (.ref a)])) rfl rfl (hb hby d1_55)
  refine own_st st5 ?_
  show own_Go p e s below _ _ _ T5 (mkF m 58 #[.val (.ref a), .val (.ref b), .val (.ref b), .val (.int (0 : Int32)), .val (.int (0 : Int32)), .unset] [(.ref d), (.ref a)])
  obtain ⟨T6, h6, X6, e6, W6, st6⟩ := putF X5 hx hZ hown (host := "") (Or.inl (hw _ (List.mem_of_getElem? (i := 20) rfl))) Via.refl e5 F_levels_a E_a (Or.inr ⟨hw _ (List.mem_of_getElem? (i := 21) rfl), rfl, hnm⟩) (hw _ (List.mem_of_getElem? (i := 3) rfl)) (ty := (.array .int)) (by decide) rfl rfl (g := (mkF m 58 #[.val (.ref a), .val (.ref b), .val (.ref b), .val (.int (0 : Int32)), .val (.int (0 : Int32)), .unset] [(.ref d), (.ref a)])) rfl rfl (hb hby d1_58)
  refine own_st st6 ?_
  replace F_levels_a := F_levels_a.same W6
  replace E_a := E_a.wr W6
  replace V_b := V_b.other W6 ne_b_a
  replace E_b := E_b.wr W6
  replace V_d := V_d.other W6 ne_d_a
  replace E_d := E_d.wr W6
  have Z7 := Nat.le_trans Z3 (Keep.of_wr W6).1
  have K8 := K4.wr W6 (Or.inl (List.mem_of_getElem? (i := 0) rfl))
  have N6 := Fr.snoc X6 N0 g_a
  show own_Go p e s below _ _ _ T6 (mkF m 61 #[.val (.ref a), .val (.ref b), .val (.ref b), .val (.int (0 : Int32)), .val (.int (0 : Int32)), .unset] [])
  exact own_ret0 X6 hx hlk hret (hb hby d1_61) (by decide) (by decide) (by rw [e6]; exact ⟨d, rfl, N6, K8, E_a, F_levels_a, V_d, E_d⟩)
theorem ef_rm1_1 (m : MethodId) (z0 : Addr) (z1 : Addr) : entryFrame m #[(.ref z0), (.ref z1)] 6 = mkF m 0 #[.val (.ref z0), .val (.ref z1), .unset, .unset, .unset, .unset] [] := by first | (simp [entryFrame, mkF, argsToLocals, Value.category]; done) | rfl
set_option maxRecDepth 65536 in
set_option maxHeartbeats 40000000 in
theorem rm1_1 (l : Launch) (Z : State) (a0 : Array Value) (hw : ∀ d ∈ tables_1, d.before a0 Z = true) (ws : List Jvm.Cond) (a b : Addr) (k : ClassId) (x0 : Int32) (h0 : Heap) (n0 : Nat) (Z0 : n0 ≤ h0.size) (E_a : Exa Z h0 a "com/example/hush5/hush5/model/Transformation") (F_levels_a : Fld Z h0 a "com/example/hush5/hush5/model/Transformation" "levels" "[I" .null) (V_b : Arv Z h0 b k .int (1 : Int32) [(.int x0)] (.int (0 : Int32))) (E_b : Exa Z h0 b "[I") (ne_a_b : a ≠ b) (ne_b_a : b ≠ a) (g_a : n0 ≤ a) (nx0 : ¬ x0 < 0) :
    own_Met l Z (⟨"com/example/hush5/hush5/model/Transformation", "<init>", "([I)V"⟩ : MethodName) prog_36_method_1_code 6 none ({ frames := 1, cells := 1, slots := 1, locals := 15 } : Room) ws #[(.ref a), (.ref b)] h0 (fun v h L => ∃ d : Addr, v = none ∧ Fr n0 L ∧ Keep h0 h [a] ∧ (Exa Z h a "com/example/hush5/hush5/model/Transformation") ∧ (Fld Z h a "com/example/hush5/hush5/model/Transformation" "levels" "[I" (.ref d)) ∧ (Arv Z h d k .int (1 : Int32) [(.int x0)] (.int (0 : Int32))) ∧ (Exa Z h d "[I")) 1 1 := by
  refine own_enter pf1 (fun m => ef_rm1_1 m a b) ?_
  intro p e s m below meth c T0 hx hby hml hown hnm hret hlk hZ X0 e0
  have N0 := Fr.nil n0
  show own_Go p e s below _ _ _ T0 (mkF m 0 #[.val (.ref a), .val (.ref b), .unset, .unset, .unset, .unset] [])
  have K_0 := Keep.refl h0 [a]
  refine own_st (fun _ k => XS.aloadN X0.here hx rfl (hb hby d1_0) rfl rfl k) ?_
  show own_Go p e s below _ _ _ T0 (mkF m 1 #[.val (.ref a), .val (.ref b), .unset, .unset, .unset, .unset] [(.ref a)])
  obtain ⟨T9, X9, e9, st9⟩ := initO X0 hx hZ hown (hw _ (List.mem_of_getElem? (i := 8) rfl)) (hw _ (List.mem_of_getElem? (i := 9) rfl)) (hw _ (List.mem_of_getElem? (i := 10) rfl)) e0 (g := (mkF m 1 #[.val (.ref a), .val (.ref b), .unset, .unset, .unset, .unset] [(.ref a)])) rfl (by rw [hml]; rfl) rfl (hb hby d1_1) (by decide) (W := 0) (by show 2 * 0 + _ ≤ _; exact Nat.le_of_eq rfl) (by decide)
  refine own_st st9 ?_
  show own_Go p e s below _ _ _ T9 (mkF m 4 #[.val (.ref a), .val (.ref b), .unset, .unset, .unset, .unset] [])
  refine own_st (fun _ k => XS.aloadN X9.here hx rfl (hb hby d1_4) rfl rfl k) ?_
  show own_Go p e s below _ _ _ T9 (mkF m 5 #[.val (.ref a), .val (.ref b), .unset, .unset, .unset, .unset] [(.ref b)])
  refine own_st (fun _ k => XS.astoreN X9.here hx rfl (hb hby d1_5) rfl rfl (l' := #[.val (.ref a), .val (.ref b), .val (.ref b), .unset, .unset, .unset]) rfl k) ?_
  show own_Go p e s below _ _ _ T9 (mkF m 6 #[.val (.ref a), .val (.ref b), .val (.ref b), .unset, .unset, .unset] [])
  refine own_st (fun _ k => XS.aloadN X9.here hx rfl (hb hby d1_6) rfl rfl k) ?_
  show own_Go p e s below _ _ _ T9 (mkF m 7 #[.val (.ref a), .val (.ref b), .val (.ref b), .unset, .unset, .unset] [(.ref b)])
  refine own_st (own_len X9 hx hZ e9 V_b (g := (mkF m 7 #[.val (.ref a), .val (.ref b), .val (.ref b), .unset, .unset, .unset] [(.ref b)])) rfl rfl (hb hby d1_7)) ?_
  show own_Go p e s below _ _ _ T9 (mkF m 8 #[.val (.ref a), .val (.ref b), .val (.ref b), .unset, .unset, .unset] [(.int (1 : Int32))])
  refine own_st (fun _ k => XS.istoreN X9.here hx rfl (hb hby d1_8) rfl (l' := #[.val (.ref a), .val (.ref b), .val (.ref b), .val (.int (1 : Int32)), .unset, .unset]) rfl k) ?_
  show own_Go p e s below _ _ _ T9 (mkF m 9 #[.val (.ref a), .val (.ref b), .val (.ref b), .val (.int (1 : Int32)), .unset, .unset] [])
  refine own_st (fun _ k => XS.iconst X9.here hx rfl (hb hby d1_9) k) ?_
  show own_Go p e s below _ _ _ T9 (mkF m 10 #[.val (.ref a), .val (.ref b), .val (.ref b), .val (.int (1 : Int32)), .unset, .unset] [(.int (0 : Int32))])
  refine own_st (fun _ k => XS.istore X9.here hx rfl (hb hby d1_10) rfl (l' := #[.val (.ref a), .val (.ref b), .val (.ref b), .val (.int (1 : Int32)), .val (.int (0 : Int32)), .unset]) rfl k) ?_
  show own_Go p e s below _ _ _ T9 (mkF m 12 #[.val (.ref a), .val (.ref b), .val (.ref b), .val (.int (1 : Int32)), .val (.int (0 : Int32)), .unset] [])
  refine own_st (fun _ k => XS.iload X9.here hx rfl (hb hby d1_12) rfl k) ?_
  show own_Go p e s below _ _ _ T9 (mkF m 14 #[.val (.ref a), .val (.ref b), .val (.ref b), .val (.int (1 : Int32)), .val (.int (0 : Int32)), .unset] [(.int (0 : Int32))])
  refine own_st (fun _ k => XS.iloadN X9.here hx rfl (hb hby d1_14) rfl k) ?_
  show own_Go p e s below _ _ _ T9 (mkF m 15 #[.val (.ref a), .val (.ref b), .val (.ref b), .val (.int (1 : Int32)), .val (.int (0 : Int32)), .unset] [(.int (1 : Int32)), (.int (0 : Int32))])
  refine own_st (fun _ k => XS.icmpNo X9.here hx rfl (hb hby d1_15) rfl (by decide) k) ?_
  show own_Go p e s below _ _ _ T9 (mkF m 18 #[.val (.ref a), .val (.ref b), .val (.ref b), .val (.int (1 : Int32)), .val (.int (0 : Int32)), .unset] [])
  refine own_st (fun _ k => XS.aloadN X9.here hx rfl (hb hby d1_18) rfl rfl k) ?_
  show own_Go p e s below _ _ _ T9 (mkF m 19 #[.val (.ref a), .val (.ref b), .val (.ref b), .val (.int (1 : Int32)), .val (.int (0 : Int32)), .unset] [(.ref b)])
  refine own_st (fun _ k => XS.iload X9.here hx rfl (hb hby d1_19) rfl k) ?_
  show own_Go p e s below _ _ _ T9 (mkF m 21 #[.val (.ref a), .val (.ref b), .val (.ref b), .val (.int (1 : Int32)), .val (.int (0 : Int32)), .unset] [(.int (0 : Int32)), (.ref b)])
  refine own_st (own_ldI X9 hx hZ e9 V_b (j := (0 : Int32)) (x := x0) ⟨by decide, by decide⟩ rfl (g := (mkF m 21 #[.val (.ref a), .val (.ref b), .val (.ref b), .val (.int (1 : Int32)), .val (.int (0 : Int32)), .unset] [(.int (0 : Int32)), (.ref b)])) rfl rfl (hb hby d1_21)) ?_
  show own_Go p e s below _ _ _ T9 (mkF m 22 #[.val (.ref a), .val (.ref b), .val (.ref b), .val (.int (1 : Int32)), .val (.int (0 : Int32)), .unset] [(.int x0)])
  refine own_st (fun _ k => XS.istore X9.here hx rfl (hb hby d1_22) rfl (l' := #[.val (.ref a), .val (.ref b), .val (.ref b), .val (.int (1 : Int32)), .val (.int (0 : Int32)), .val (.int x0)]) rfl k) ?_
  show own_Go p e s below _ _ _ T9 (mkF m 24 #[.val (.ref a), .val (.ref b), .val (.ref b), .val (.int (1 : Int32)), .val (.int (0 : Int32)), .val (.int x0)] [])
  refine own_st (fun _ k => XS.iload X9.here hx rfl (hb hby d1_24) rfl k) ?_
  show own_Go p e s below _ _ _ T9 (mkF m 26 #[.val (.ref a), .val (.ref b), .val (.ref b), .val (.int (1 : Int32)), .val (.int (0 : Int32)), .val (.int x0)] [(.int x0)])
  refine own_st (fun _ k => XS.ifYes X9.here hx rfl (pc0 := 26) (pc' := 44) rfl (hb hby d1_26) rfl ((if0 _ _).trans (flt nx0).2.1) (by decide) (by decide) k) ?_
  show own_Go p e s below _ _ _ T9 (mkF m 44 #[.val (.ref a), .val (.ref b), .val (.ref b), .val (.int (1 : Int32)), .val (.int (0 : Int32)), .val (.int x0)] [])
  refine own_st (fun _ k => XS.iinc X9.here hx rfl (hb hby d1_44) rfl (l' := #[.val (.ref a), .val (.ref b), .val (.ref b), .val (.int (1 : Int32)), .val (.int (1 : Int32)), .val (.int x0)]) rfl k) ?_
  show own_Go p e s below _ _ _ T9 (mkF m 47 #[.val (.ref a), .val (.ref b), .val (.ref b), .val (.int (1 : Int32)), .val (.int (1 : Int32)), .val (.int x0)] [])
  refine own_st (fun _ k => XS.goto X9.here hx rfl (pc0 := 47) (pc' := 12) rfl (hb hby d1_47) (by decide) (by decide) k) ?_
  show own_Go p e s below _ _ _ T9 (mkF m 12 #[.val (.ref a), .val (.ref b), .val (.ref b), .val (.int (1 : Int32)), .val (.int (1 : Int32)), .val (.int x0)] [])
  refine own_st (fun _ k => XS.iload X9.here hx rfl (hb hby d1_12) rfl k) ?_
  show own_Go p e s below _ _ _ T9 (mkF m 14 #[.val (.ref a), .val (.ref b), .val (.ref b), .val (.int (1 : Int32)), .val (.int (1 : Int32)), .val (.int x0)] [(.int (1 : Int32))])
  refine own_st (fun _ k => XS.iloadN X9.here hx rfl (hb hby d1_14) rfl k) ?_
  show own_Go p e s below _ _ _ T9 (mkF m 15 #[.val (.ref a), .val (.ref b), .val (.ref b), .val (.int (1 : Int32)), .val (.int (1 : Int32)), .val (.int x0)] [(.int (1 : Int32)), (.int (1 : Int32))])
  refine own_st (fun _ k => XS.icmpYes X9.here hx rfl (pc0 := 15) (pc' := 50) rfl (hb hby d1_15) rfl (by decide) (by decide) (by decide) k) ?_
  show own_Go p e s below _ _ _ T9 (mkF m 50 #[.val (.ref a), .val (.ref b), .val (.ref b), .val (.int (1 : Int32)), .val (.int (1 : Int32)), .val (.int x0)] [])
  refine own_st (fun _ k => XS.aloadN X9.here hx rfl (hb hby d1_50) rfl rfl k) ?_
  show own_Go p e s below _ _ _ T9 (mkF m 51 #[.val (.ref a), .val (.ref b), .val (.ref b), .val (.int (1 : Int32)), .val (.int (1 : Int32)), .val (.int x0)] [(.ref a)])
  refine own_st (fun _ k => XS.aloadN X9.here hx rfl (hb hby d1_51) rfl rfl k) ?_
  show own_Go p e s below _ _ _ T9 (mkF m 52 #[.val (.ref a), .val (.ref b), .val (.ref b), .val (.int (1 : Int32)), .val (.int (1 : Int32)), .val (.int x0)] [(.ref b), (.ref a)])
  obtain ⟨T10, h10, X10, e10, E10, V10, A10, st10⟩ := cloneH X9 hx hZ hown (hw _ (List.mem_of_getElem? (i := 11) rfl)) (hw _ (List.mem_of_getElem? (i := 12) rfl)) (hw _ (List.mem_of_getElem? (i := 16) rfl)) (hw _ (List.mem_of_getElem? (i := 14) rfl)) (hw _ (List.mem_of_getElem? (i := 15) rfl)) (hw _ (List.mem_of_getElem? (i := 17) rfl)) e9 V_b.arh E_b (g := (mkF m 52 #[.val (.ref a), .val (.ref b), .val (.ref b), .val (.int (1 : Int32)), .val (.int (1 : Int32)), .val (.int x0)] [(.ref b), (.ref a)])) rfl (by rw [hml]; rfl) rfl (hb hby d1_52) (by decide) (W := 1) (by show 2 * 0 + _ ≤ _; exact Nat.le_of_eq rfl) (by decide) (cap := 1) (by decide) (by decide) (by decide)
  obtain ⟨d, g10⟩ : ∃ z, z = h0.size := ⟨_, rfl⟩
  rw [← g10] at V10 A10 st10
  have g_d : n0 ≤ d := Nat.le_trans Z0 (Nat.le_of_eq g10.symm)
  have ne_a_d : a ≠ d := Nat.ne_of_lt (Nat.lt_of_lt_of_le E_a.lt (Nat.le_of_eq g10.symm))
  have ne_d_a := Ne.symm ne_a_d
  have ne_b_d : b ≠ d := Nat.ne_of_lt (Nat.lt_of_lt_of_le V_b.lt (Nat.le_of_eq g10.symm))
  have ne_d_b := Ne.symm ne_b_d
  have sz_d := Nat.le_trans K_0.1 (Nat.le_of_eq g10.symm)
  replace E_a := E_a.ext E10
  replace F_levels_a := F_levels_a.ext E10
  replace V_b := V_b.ext E10
  replace E_b := E_b.ext E10
  have Z11 := Nat.le_trans Z0 E10.1
  have K12 := K_0.ext E10
  have V_d : Arv Z h10 d k .int (1 : Int32) [(.int x0)] (.int (0 : Int32)) := V10
  have E_d := A10
  refine own_st st10 ?_
  show own_Go p e s below _ _ _ T10 (mkF m 55 #[.val (.ref a), .val (.ref b), .val (.ref b), .val (.int (1 : Int32)), .val (.int (1 : Int32)), .val (.int x0)] [(.ref d), (.ref a)])
  obtain ⟨T13, X13, e13, st13⟩ := castY X10 hx hZ hown (hw _ (List.mem_of_getElem? (i := 18) rfl)) e10 (Ins.self E_d) (g := (mkF m 55 #[.val (.ref a), .val (.ref b), .val (.ref b), .val (.int (1 : Int32)), .val (.int (1 : Int32)), .val (.int x0)] [(.ref d), (.ref a)])) rfl rfl (hb hby d1_55)
  refine own_st st13 ?_
  show own_Go p e s below _ _ _ T13 (mkF m 58 #[.val (.ref a), .val (.ref b), .val (.ref b), .val (.int (1 : Int32)), .val (.int (1 : Int32)), .val (.int x0)] [(.ref d), (.ref a)])
  obtain ⟨T14, h14, X14, e14, W14, st14⟩ := putF X13 hx hZ hown (host := "") (Or.inl (hw _ (List.mem_of_getElem? (i := 20) rfl))) Via.refl e13 F_levels_a E_a (Or.inr ⟨hw _ (List.mem_of_getElem? (i := 21) rfl), rfl, hnm⟩) (hw _ (List.mem_of_getElem? (i := 3) rfl)) (ty := (.array .int)) (by decide) rfl rfl (g := (mkF m 58 #[.val (.ref a), .val (.ref b), .val (.ref b), .val (.int (1 : Int32)), .val (.int (1 : Int32)), .val (.int x0)] [(.ref d), (.ref a)])) rfl rfl (hb hby d1_58)
  refine own_st st14 ?_
  replace F_levels_a := F_levels_a.same W14
  replace E_a := E_a.wr W14
  replace V_b := V_b.other W14 ne_b_a
  replace E_b := E_b.wr W14
  replace V_d := V_d.other W14 ne_d_a
  replace E_d := E_d.wr W14
  have Z15 := Nat.le_trans Z11 (Keep.of_wr W14).1
  have K16 := K12.wr W14 (Or.inl (List.mem_of_getElem? (i := 0) rfl))
  have N14 := Fr.snoc X14 N0 g_a
  show own_Go p e s below _ _ _ T14 (mkF m 61 #[.val (.ref a), .val (.ref b), .val (.ref b), .val (.int (1 : Int32)), .val (.int (1 : Int32)), .val (.int x0)] [])
  exact own_ret0 X14 hx hlk hret (hb hby d1_61) (by decide) (by decide) (by rw [e14]; exact ⟨d, rfl, N14, K16, E_a, F_levels_a, V_d, E_d⟩)
theorem ef_rm1_2 (m : MethodId) (z0 : Addr) (z1 : Addr) : entryFrame m #[(.ref z0), (.ref z1)] 6 = mkF m 0 #[.val (.ref z0), .val (.ref z1), .unset, .unset, .unset, .unset] [] := by first | (simp [entryFrame, mkF, argsToLocals, Value.category]; done) | rfl
set_option maxRecDepth 65536 in
set_option maxHeartbeats 40000000 in
theorem rm1_2 (l : Launch) (Z : State) (a0 : Array Value) (hw : ∀ d ∈ tables_1, d.before a0 Z = true) (ws : List Jvm.Cond) (a b : Addr) (k : ClassId) (x0 : Int32) (x1 : Int32) (h0 : Heap) (n0 : Nat) (Z0 : n0 ≤ h0.size) (E_a : Exa Z h0 a "com/example/hush5/hush5/model/Transformation") (F_levels_a : Fld Z h0 a "com/example/hush5/hush5/model/Transformation" "levels" "[I" .null) (V_b : Arv Z h0 b k .int (2 : Int32) [(.int x0), (.int x1)] (.int (0 : Int32))) (E_b : Exa Z h0 b "[I") (ne_a_b : a ≠ b) (ne_b_a : b ≠ a) (g_a : n0 ≤ a) (nx0 : ¬ x0 < 0) (nx1 : ¬ x1 < 0) :
    own_Met l Z (⟨"com/example/hush5/hush5/model/Transformation", "<init>", "([I)V"⟩ : MethodName) prog_36_method_1_code 6 none ({ frames := 1, cells := 1, slots := 2, locals := 15 } : Room) ws #[(.ref a), (.ref b)] h0 (fun v h L => ∃ d : Addr, v = none ∧ Fr n0 L ∧ Keep h0 h [a] ∧ (Exa Z h a "com/example/hush5/hush5/model/Transformation") ∧ (Fld Z h a "com/example/hush5/hush5/model/Transformation" "levels" "[I" (.ref d)) ∧ (Arv Z h d k .int (2 : Int32) [(.int x0), (.int x1)] (.int (0 : Int32))) ∧ (Exa Z h d "[I")) 1 2 := by
  refine own_enter pf1 (fun m => ef_rm1_2 m a b) ?_
  intro p e s m below meth c T0 hx hby hml hown hnm hret hlk hZ X0 e0
  have N0 := Fr.nil n0
  show own_Go p e s below _ _ _ T0 (mkF m 0 #[.val (.ref a), .val (.ref b), .unset, .unset, .unset, .unset] [])
  have K_0 := Keep.refl h0 [a]
  refine own_st (fun _ k => XS.aloadN X0.here hx rfl (hb hby d1_0) rfl rfl k) ?_
  show own_Go p e s below _ _ _ T0 (mkF m 1 #[.val (.ref a), .val (.ref b), .unset, .unset, .unset, .unset] [(.ref a)])
  obtain ⟨T17, X17, e17, st17⟩ := initO X0 hx hZ hown (hw _ (List.mem_of_getElem? (i := 8) rfl)) (hw _ (List.mem_of_getElem? (i := 9) rfl)) (hw _ (List.mem_of_getElem? (i := 10) rfl)) e0 (g := (mkF m 1 #[.val (.ref a), .val (.ref b), .unset, .unset, .unset, .unset] [(.ref a)])) rfl (by rw [hml]; rfl) rfl (hb hby d1_1) (by decide) (W := 0) (by show 2 * 0 + _ ≤ _; exact Nat.le_of_eq rfl) (by decide)
  refine own_st st17 ?_
  show own_Go p e s below _ _ _ T17 (mkF m 4 #[.val (.ref a), .val (.ref b), .unset, .unset, .unset, .unset] [])
  refine own_st (fun _ k => XS.aloadN X17.here hx rfl (hb hby d1_4) rfl rfl k) ?_
  show own_Go p e s below _ _ _ T17 (mkF m 5 #[.val (.ref a), .val (.ref b), .unset, .unset, .unset, .unset] [(.ref b)])
  refine own_st (fun _ k => XS.astoreN X17.here hx rfl (hb hby d1_5) rfl rfl (l' := #[.val (.ref a), .val (.ref b), .val (.ref b), .unset, .unset, .unset]) rfl k) ?_
  show own_Go p e s below _ _ _ T17 (mkF m 6 #[.val (.ref a), .val (.ref b), .val (.ref b), .unset, .unset, .unset] [])
  refine own_st (fun _ k => XS.aloadN X17.here hx rfl (hb hby d1_6) rfl rfl k) ?_
  show own_Go p e s below _ _ _ T17 (mkF m 7 #[.val (.ref a), .val (.ref b), .val (.ref b), .unset, .unset, .unset] [(.ref b)])
  refine own_st (own_len X17 hx hZ e17 V_b (g := (mkF m 7 #[.val (.ref a), .val (.ref b), .val (.ref b), .unset, .unset, .unset] [(.ref b)])) rfl rfl (hb hby d1_7)) ?_
  show own_Go p e s below _ _ _ T17 (mkF m 8 #[.val (.ref a), .val (.ref b), .val (.ref b), .unset, .unset, .unset] [(.int (2 : Int32))])
  refine own_st (fun _ k => XS.istoreN X17.here hx rfl (hb hby d1_8) rfl (l' := #[.val (.ref a), .val (.ref b), .val (.ref b), .val (.int (2 : Int32)), .unset, .unset]) rfl k) ?_
  show own_Go p e s below _ _ _ T17 (mkF m 9 #[.val (.ref a), .val (.ref b), .val (.ref b), .val (.int (2 : Int32)), .unset, .unset] [])
  refine own_st (fun _ k => XS.iconst X17.here hx rfl (hb hby d1_9) k) ?_
  show own_Go p e s below _ _ _ T17 (mkF m 10 #[.val (.ref a), .val (.ref b), .val (.ref b), .val (.int (2 : Int32)), .unset, .unset] [(.int (0 : Int32))])
  refine own_st (fun _ k => XS.istore X17.here hx rfl (hb hby d1_10) rfl (l' := #[.val (.ref a), .val (.ref b), .val (.ref b), .val (.int (2 : Int32)), .val (.int (0 : Int32)), .unset]) rfl k) ?_
  show own_Go p e s below _ _ _ T17 (mkF m 12 #[.val (.ref a), .val (.ref b), .val (.ref b), .val (.int (2 : Int32)), .val (.int (0 : Int32)), .unset] [])
  refine own_st (fun _ k => XS.iload X17.here hx rfl (hb hby d1_12) rfl k) ?_
  show own_Go p e s below _ _ _ T17 (mkF m 14 #[.val (.ref a), .val (.ref b), .val (.ref b), .val (.int (2 : Int32)), .val (.int (0 : Int32)), .unset] [(.int (0 : Int32))])
  refine own_st (fun _ k => XS.iloadN X17.here hx rfl (hb hby d1_14) rfl k) ?_
  show own_Go p e s below _ _ _ T17 (mkF m 15 #[.val (.ref a), .val (.ref b), .val (.ref b), .val (.int (2 : Int32)), .val (.int (0 : Int32)), .unset] [(.int (2 : Int32)), (.int (0 : Int32))])
  refine own_st (fun _ k => XS.icmpNo X17.here hx rfl (hb hby d1_15) rfl (by decide) k) ?_
  show own_Go p e s below _ _ _ T17 (mkF m 18 #[.val (.ref a), .val (.ref b), .val (.ref b), .val (.int (2 : Int32)), .val (.int (0 : Int32)), .unset] [])
  refine own_st (fun _ k => XS.aloadN X17.here hx rfl (hb hby d1_18) rfl rfl k) ?_
  show own_Go p e s below _ _ _ T17 (mkF m 19 #[.val (.ref a), .val (.ref b), .val (.ref b), .val (.int (2 : Int32)), .val (.int (0 : Int32)), .unset] [(.ref b)])
  refine own_st (fun _ k => XS.iload X17.here hx rfl (hb hby d1_19) rfl k) ?_
  show own_Go p e s below _ _ _ T17 (mkF m 21 #[.val (.ref a), .val (.ref b), .val (.ref b), .val (.int (2 : Int32)), .val (.int (0 : Int32)), .unset] [(.int (0 : Int32)), (.ref b)])
  refine own_st (own_ldI X17 hx hZ e17 V_b (j := (0 : Int32)) (x := x0) ⟨by decide, by decide⟩ rfl (g := (mkF m 21 #[.val (.ref a), .val (.ref b), .val (.ref b), .val (.int (2 : Int32)), .val (.int (0 : Int32)), .unset] [(.int (0 : Int32)), (.ref b)])) rfl rfl (hb hby d1_21)) ?_
  show own_Go p e s below _ _ _ T17 (mkF m 22 #[.val (.ref a), .val (.ref b), .val (.ref b), .val (.int (2 : Int32)), .val (.int (0 : Int32)), .unset] [(.int x0)])
  refine own_st (fun _ k => XS.istore X17.here hx rfl (hb hby d1_22) rfl (l' := #[.val (.ref a), .val (.ref b), .val (.ref b), .val (.int (2 : Int32)), .val (.int (0 : Int32)), .val (.int x0)]) rfl k) ?_
  show own_Go p e s below _ _ _ T17 (mkF m 24 #[.val (.ref a), .val (.ref b), .val (.ref b), .val (.int (2 : Int32)), .val (.int (0 : Int32)), .val (.int x0)] [])
  refine own_st (fun _ k => XS.iload X17.here hx rfl (hb hby d1_24) rfl k) ?_
  show own_Go p e s below _ _ _ T17 (mkF m 26 #[.val (.ref a), .val (.ref b), .val (.ref b), .val (.int (2 : Int32)), .val (.int (0 : Int32)), .val (.int x0)] [(.int x0)])
  refine own_st (fun _ k => XS.ifYes X17.here hx rfl (pc0 := 26) (pc' := 44) rfl (hb hby d1_26) rfl ((if0 _ _).trans (flt nx0).2.1) (by decide) (by decide) k) ?_
  show own_Go p e s below _ _ _ T17 (mkF m 44 #[.val (.ref a), .val (.ref b), .val (.ref b), .val (.int (2 : Int32)), .val (.int (0 : Int32)), .val (.int x0)] [])
  refine own_st (fun _ k => XS.iinc X17.here hx rfl (hb hby d1_44) rfl (l' := #[.val (.ref a), .val (.ref b), .val (.ref b), .val (.int (2 : Int32)), .val (.int (1 : Int32)), .val (.int x0)]) rfl k) ?_
  show own_Go p e s below _ _ _ T17 (mkF m 47 #[.val (.ref a), .val (.ref b), .val (.ref b), .val (.int (2 : Int32)), .val (.int (1 : Int32)), .val (.int x0)] [])
  refine own_st (fun _ k => XS.goto X17.here hx rfl (pc0 := 47) (pc' := 12) rfl (hb hby d1_47) (by decide) (by decide) k) ?_
  show own_Go p e s below _ _ _ T17 (mkF m 12 #[.val (.ref a), .val (.ref b), .val (.ref b), .val (.int (2 : Int32)), .val (.int (1 : Int32)), .val (.int x0)] [])
  refine own_st (fun _ k => XS.iload X17.here hx rfl (hb hby d1_12) rfl k) ?_
  show own_Go p e s below _ _ _ T17 (mkF m 14 #[.val (.ref a), .val (.ref b), .val (.ref b), .val (.int (2 : Int32)), .val (.int (1 : Int32)), .val (.int x0)] [(.int (1 : Int32))])
  refine own_st (fun _ k => XS.iloadN X17.here hx rfl (hb hby d1_14) rfl k) ?_
  show own_Go p e s below _ _ _ T17 (mkF m 15 #[.val (.ref a), .val (.ref b), .val (.ref b), .val (.int (2 : Int32)), .val (.int (1 : Int32)), .val (.int x0)] [(.int (2 : Int32)), (.int (1 : Int32))])
  refine own_st (fun _ k => XS.icmpNo X17.here hx rfl (hb hby d1_15) rfl (by decide) k) ?_
  show own_Go p e s below _ _ _ T17 (mkF m 18 #[.val (.ref a), .val (.ref b), .val (.ref b), .val (.int (2 : Int32)), .val (.int (1 : Int32)), .val (.int x0)] [])
  refine own_st (fun _ k => XS.aloadN X17.here hx rfl (hb hby d1_18) rfl rfl k) ?_
  show own_Go p e s below _ _ _ T17 (mkF m 19 #[.val (.ref a), .val (.ref b), .val (.ref b), .val (.int (2 : Int32)), .val (.int (1 : Int32)), .val (.int x0)] [(.ref b)])
  refine own_st (fun _ k => XS.iload X17.here hx rfl (hb hby d1_19) rfl k) ?_
  show own_Go p e s below _ _ _ T17 (mkF m 21 #[.val (.ref a), .val (.ref b), .val (.ref b), .val (.int (2 : Int32)), .val (.int (1 : Int32)), .val (.int x0)] [(.int (1 : Int32)), (.ref b)])
  refine own_st (own_ldI X17 hx hZ e17 V_b (j := (1 : Int32)) (x := x1) ⟨by decide, by decide⟩ rfl (g := (mkF m 21 #[.val (.ref a), .val (.ref b), .val (.ref b), .val (.int (2 : Int32)), .val (.int (1 : Int32)), .val (.int x0)] [(.int (1 : Int32)), (.ref b)])) rfl rfl (hb hby d1_21)) ?_
  show own_Go p e s below _ _ _ T17 (mkF m 22 #[.val (.ref a), .val (.ref b), .val (.ref b), .val (.int (2 : Int32)), .val (.int (1 : Int32)), .val (.int x0)] [(.int x1)])
  refine own_st (fun _ k => XS.istore X17.here hx rfl (hb hby d1_22) rfl (l' := #[.val (.ref a), .val (.ref b), .val (.ref b), .val (.int (2 : Int32)), .val (.int (1 : Int32)), .val (.int x1)]) rfl k) ?_
  show own_Go p e s below _ _ _ T17 (mkF m 24 #[.val (.ref a), .val (.ref b), .val (.ref b), .val (.int (2 : Int32)), .val (.int (1 : Int32)), .val (.int x1)] [])
  refine own_st (fun _ k => XS.iload X17.here hx rfl (hb hby d1_24) rfl k) ?_
  show own_Go p e s below _ _ _ T17 (mkF m 26 #[.val (.ref a), .val (.ref b), .val (.ref b), .val (.int (2 : Int32)), .val (.int (1 : Int32)), .val (.int x1)] [(.int x1)])
  refine own_st (fun _ k => XS.ifYes X17.here hx rfl (pc0 := 26) (pc' := 44) rfl (hb hby d1_26) rfl ((if0 _ _).trans (flt nx1).2.1) (by decide) (by decide) k) ?_
  show own_Go p e s below _ _ _ T17 (mkF m 44 #[.val (.ref a), .val (.ref b), .val (.ref b), .val (.int (2 : Int32)), .val (.int (1 : Int32)), .val (.int x1)] [])
  refine own_st (fun _ k => XS.iinc X17.here hx rfl (hb hby d1_44) rfl (l' := #[.val (.ref a), .val (.ref b), .val (.ref b), .val (.int (2 : Int32)), .val (.int (2 : Int32)), .val (.int x1)]) rfl k) ?_
  show own_Go p e s below _ _ _ T17 (mkF m 47 #[.val (.ref a), .val (.ref b), .val (.ref b), .val (.int (2 : Int32)), .val (.int (2 : Int32)), .val (.int x1)] [])
  refine own_st (fun _ k => XS.goto X17.here hx rfl (pc0 := 47) (pc' := 12) rfl (hb hby d1_47) (by decide) (by decide) k) ?_
  show own_Go p e s below _ _ _ T17 (mkF m 12 #[.val (.ref a), .val (.ref b), .val (.ref b), .val (.int (2 : Int32)), .val (.int (2 : Int32)), .val (.int x1)] [])
  refine own_st (fun _ k => XS.iload X17.here hx rfl (hb hby d1_12) rfl k) ?_
  show own_Go p e s below _ _ _ T17 (mkF m 14 #[.val (.ref a), .val (.ref b), .val (.ref b), .val (.int (2 : Int32)), .val (.int (2 : Int32)), .val (.int x1)] [(.int (2 : Int32))])
  refine own_st (fun _ k => XS.iloadN X17.here hx rfl (hb hby d1_14) rfl k) ?_
  show own_Go p e s below _ _ _ T17 (mkF m 15 #[.val (.ref a), .val (.ref b), .val (.ref b), .val (.int (2 : Int32)), .val (.int (2 : Int32)), .val (.int x1)] [(.int (2 : Int32)), (.int (2 : Int32))])
  refine own_st (fun _ k => XS.icmpYes X17.here hx rfl (pc0 := 15) (pc' := 50) rfl (hb hby d1_15) rfl (by decide) (by decide) (by decide) k) ?_
  show own_Go p e s below _ _ _ T17 (mkF m 50 #[.val (.ref a), .val (.ref b), .val (.ref b), .val (.int (2 : Int32)), .val (.int (2 : Int32)), .val (.int x1)] [])
  refine own_st (fun _ k => XS.aloadN X17.here hx rfl (hb hby d1_50) rfl rfl k) ?_
  show own_Go p e s below _ _ _ T17 (mkF m 51 #[.val (.ref a), .val (.ref b), .val (.ref b), .val (.int (2 : Int32)), .val (.int (2 : Int32)), .val (.int x1)] [(.ref a)])
  refine own_st (fun _ k => XS.aloadN X17.here hx rfl (hb hby d1_51) rfl rfl k) ?_
  show own_Go p e s below _ _ _ T17 (mkF m 52 #[.val (.ref a), .val (.ref b), .val (.ref b), .val (.int (2 : Int32)), .val (.int (2 : Int32)), .val (.int x1)] [(.ref b), (.ref a)])
  obtain ⟨T18, h18, X18, e18, E18, V18, A18, st18⟩ := cloneH X17 hx hZ hown (hw _ (List.mem_of_getElem? (i := 11) rfl)) (hw _ (List.mem_of_getElem? (i := 12) rfl)) (hw _ (List.mem_of_getElem? (i := 16) rfl)) (hw _ (List.mem_of_getElem? (i := 14) rfl)) (hw _ (List.mem_of_getElem? (i := 15) rfl)) (hw _ (List.mem_of_getElem? (i := 17) rfl)) e17 V_b.arh E_b (g := (mkF m 52 #[.val (.ref a), .val (.ref b), .val (.ref b), .val (.int (2 : Int32)), .val (.int (2 : Int32)), .val (.int x1)] [(.ref b), (.ref a)])) rfl (by rw [hml]; rfl) rfl (hb hby d1_52) (by decide) (W := 1) (by show 2 * 0 + _ ≤ _; exact Nat.le_of_eq rfl) (by decide) (cap := 2) (by decide) (by decide) (by decide)
  obtain ⟨d, g18⟩ : ∃ z, z = h0.size := ⟨_, rfl⟩
  rw [← g18] at V18 A18 st18
  have g_d : n0 ≤ d := Nat.le_trans Z0 (Nat.le_of_eq g18.symm)
  have ne_a_d : a ≠ d := Nat.ne_of_lt (Nat.lt_of_lt_of_le E_a.lt (Nat.le_of_eq g18.symm))
  have ne_d_a := Ne.symm ne_a_d
  have ne_b_d : b ≠ d := Nat.ne_of_lt (Nat.lt_of_lt_of_le V_b.lt (Nat.le_of_eq g18.symm))
  have ne_d_b := Ne.symm ne_b_d
  have sz_d := Nat.le_trans K_0.1 (Nat.le_of_eq g18.symm)
  replace E_a := E_a.ext E18
  replace F_levels_a := F_levels_a.ext E18
  replace V_b := V_b.ext E18
  replace E_b := E_b.ext E18
  have Z19 := Nat.le_trans Z0 E18.1
  have K20 := K_0.ext E18
  have V_d : Arv Z h18 d k .int (2 : Int32) [(.int x0), (.int x1)] (.int (0 : Int32)) := V18
  have E_d := A18
  refine own_st st18 ?_
  show own_Go p e s below _ _ _ T18 (mkF m 55 #[.val (.ref a), .val (.ref b), .val (.ref b), .val (.int (2 : Int32)), .val (.int (2 : Int32)), .val (.int x1)] [(.ref d), (.ref a)])
  obtain ⟨T21, X21, e21, st21⟩ := castY X18 hx hZ hown (hw _ (List.mem_of_getElem? (i := 18) rfl)) e18 (Ins.self E_d) (g := (mkF m 55 #[.val (.ref a), .val (.ref b), .val (.ref b), .val (.int (2 : Int32)), .val (.int (2 : Int32)), .val (.int x1)] [(.ref d), (.ref a)])) rfl rfl (hb hby d1_55)
  refine own_st st21 ?_
  show own_Go p e s below _ _ _ T21 (mkF m 58 #[.val (.ref a), .val (.ref b), .val (.ref b), .val (.int (2 : Int32)), .val (.int (2 : Int32)), .val (.int x1)] [(.ref d), (.ref a)])
  obtain ⟨T22, h22, X22, e22, W22, st22⟩ := putF X21 hx hZ hown (host := "") (Or.inl (hw _ (List.mem_of_getElem? (i := 20) rfl))) Via.refl e21 F_levels_a E_a (Or.inr ⟨hw _ (List.mem_of_getElem? (i := 21) rfl), rfl, hnm⟩) (hw _ (List.mem_of_getElem? (i := 3) rfl)) (ty := (.array .int)) (by decide) rfl rfl (g := (mkF m 58 #[.val (.ref a), .val (.ref b), .val (.ref b), .val (.int (2 : Int32)), .val (.int (2 : Int32)), .val (.int x1)] [(.ref d), (.ref a)])) rfl rfl (hb hby d1_58)
  refine own_st st22 ?_
  replace F_levels_a := F_levels_a.same W22
  replace E_a := E_a.wr W22
  replace V_b := V_b.other W22 ne_b_a
  replace E_b := E_b.wr W22
  replace V_d := V_d.other W22 ne_d_a
  replace E_d := E_d.wr W22
  have Z23 := Nat.le_trans Z19 (Keep.of_wr W22).1
  have K24 := K20.wr W22 (Or.inl (List.mem_of_getElem? (i := 0) rfl))
  have N22 := Fr.snoc X22 N0 g_a
  show own_Go p e s below _ _ _ T22 (mkF m 61 #[.val (.ref a), .val (.ref b), .val (.ref b), .val (.int (2 : Int32)), .val (.int (2 : Int32)), .val (.int x1)] [])
  exact own_ret0 X22 hx hlk hret (hb hby d1_61) (by decide) (by decide) (by rw [e22]; exact ⟨d, rfl, N22, K24, E_a, F_levels_a, V_d, E_d⟩)
theorem ef_rm1_3 (m : MethodId) (z0 : Addr) (z1 : Addr) : entryFrame m #[(.ref z0), (.ref z1)] 6 = mkF m 0 #[.val (.ref z0), .val (.ref z1), .unset, .unset, .unset, .unset] [] := by first | (simp [entryFrame, mkF, argsToLocals, Value.category]; done) | rfl
set_option maxRecDepth 65536 in
set_option maxHeartbeats 40000000 in
theorem rm1_3 (l : Launch) (Z : State) (a0 : Array Value) (hw : ∀ d ∈ tables_1, d.before a0 Z = true) (ws : List Jvm.Cond) (a b : Addr) (k : ClassId) (x0 : Int32) (x1 : Int32) (x2 : Int32) (h0 : Heap) (n0 : Nat) (Z0 : n0 ≤ h0.size) (E_a : Exa Z h0 a "com/example/hush5/hush5/model/Transformation") (F_levels_a : Fld Z h0 a "com/example/hush5/hush5/model/Transformation" "levels" "[I" .null) (V_b : Arv Z h0 b k .int (3 : Int32) [(.int x0), (.int x1), (.int x2)] (.int (0 : Int32))) (E_b : Exa Z h0 b "[I") (ne_a_b : a ≠ b) (ne_b_a : b ≠ a) (g_a : n0 ≤ a) (nx0 : ¬ x0 < 0) (nx1 : ¬ x1 < 0) (nx2 : ¬ x2 < 0) :
    own_Met l Z (⟨"com/example/hush5/hush5/model/Transformation", "<init>", "([I)V"⟩ : MethodName) prog_36_method_1_code 6 none ({ frames := 1, cells := 1, slots := 3, locals := 15 } : Room) ws #[(.ref a), (.ref b)] h0 (fun v h L => ∃ d : Addr, v = none ∧ Fr n0 L ∧ Keep h0 h [a] ∧ (Exa Z h a "com/example/hush5/hush5/model/Transformation") ∧ (Fld Z h a "com/example/hush5/hush5/model/Transformation" "levels" "[I" (.ref d)) ∧ (Arv Z h d k .int (3 : Int32) [(.int x0), (.int x1), (.int x2)] (.int (0 : Int32))) ∧ (Exa Z h d "[I")) 1 3 := by
  refine own_enter pf1 (fun m => ef_rm1_3 m a b) ?_
  intro p e s m below meth c T0 hx hby hml hown hnm hret hlk hZ X0 e0
  have N0 := Fr.nil n0
  show own_Go p e s below _ _ _ T0 (mkF m 0 #[.val (.ref a), .val (.ref b), .unset, .unset, .unset, .unset] [])
  have K_0 := Keep.refl h0 [a]
  refine own_st (fun _ k => XS.aloadN X0.here hx rfl (hb hby d1_0) rfl rfl k) ?_
  show own_Go p e s below _ _ _ T0 (mkF m 1 #[.val (.ref a), .val (.ref b), .unset, .unset, .unset, .unset] [(.ref a)])
  obtain ⟨T25, X25, e25, st25⟩ := initO X0 hx hZ hown (hw _ (List.mem_of_getElem? (i := 8) rfl)) (hw _ (List.mem_of_getElem? (i := 9) rfl)) (hw _ (List.mem_of_getElem? (i := 10) rfl)) e0 (g := (mkF m 1 #[.val (.ref a), .val (.ref b), .unset, .unset, .unset, .unset] [(.ref a)])) rfl (by rw [hml]; rfl) rfl (hb hby d1_1) (by decide) (W := 0) (by show 2 * 0 + _ ≤ _; exact Nat.le_of_eq rfl) (by decide)
  refine own_st st25 ?_
  show own_Go p e s below _ _ _ T25 (mkF m 4 #[.val (.ref a), .val (.ref b), .unset, .unset, .unset, .unset] [])
  refine own_st (fun _ k => XS.aloadN X25.here hx rfl (hb hby d1_4) rfl rfl k) ?_
  show own_Go p e s below _ _ _ T25 (mkF m 5 #[.val (.ref a), .val (.ref b), .unset, .unset, .unset, .unset] [(.ref b)])
  refine own_st (fun _ k => XS.astoreN X25.here hx rfl (hb hby d1_5) rfl rfl (l' := #[.val (.ref a), .val (.ref b), .val (.ref b), .unset, .unset, .unset]) rfl k) ?_
  show own_Go p e s below _ _ _ T25 (mkF m 6 #[.val (.ref a), .val (.ref b), .val (.ref b), .unset, .unset, .unset] [])
  refine own_st (fun _ k => XS.aloadN X25.here hx rfl (hb hby d1_6) rfl rfl k) ?_
  show own_Go p e s below _ _ _ T25 (mkF m 7 #[.val (.ref a), .val (.ref b), .val (.ref b), .unset, .unset, .unset] [(.ref b)])
  refine own_st (own_len X25 hx hZ e25 V_b (g := (mkF m 7 #[.val (.ref a), .val (.ref b), .val (.ref b), .unset, .unset, .unset] [(.ref b)])) rfl rfl (hb hby d1_7)) ?_
  show own_Go p e s below _ _ _ T25 (mkF m 8 #[.val (.ref a), .val (.ref b), .val (.ref b), .unset, .unset, .unset] [(.int (3 : Int32))])
  refine own_st (fun _ k => XS.istoreN X25.here hx rfl (hb hby d1_8) rfl (l' := #[.val (.ref a), .val (.ref b), .val (.ref b), .val (.int (3 : Int32)), .unset, .unset]) rfl k) ?_
  show own_Go p e s below _ _ _ T25 (mkF m 9 #[.val (.ref a), .val (.ref b), .val (.ref b), .val (.int (3 : Int32)), .unset, .unset] [])
  refine own_st (fun _ k => XS.iconst X25.here hx rfl (hb hby d1_9) k) ?_
  show own_Go p e s below _ _ _ T25 (mkF m 10 #[.val (.ref a), .val (.ref b), .val (.ref b), .val (.int (3 : Int32)), .unset, .unset] [(.int (0 : Int32))])
  refine own_st (fun _ k => XS.istore X25.here hx rfl (hb hby d1_10) rfl (l' := #[.val (.ref a), .val (.ref b), .val (.ref b), .val (.int (3 : Int32)), .val (.int (0 : Int32)), .unset]) rfl k) ?_
  show own_Go p e s below _ _ _ T25 (mkF m 12 #[.val (.ref a), .val (.ref b), .val (.ref b), .val (.int (3 : Int32)), .val (.int (0 : Int32)), .unset] [])
  refine own_st (fun _ k => XS.iload X25.here hx rfl (hb hby d1_12) rfl k) ?_
  show own_Go p e s below _ _ _ T25 (mkF m 14 #[.val (.ref a), .val (.ref b), .val (.ref b), .val (.int (3 : Int32)), .val (.int (0 : Int32)), .unset] [(.int (0 : Int32))])
  refine own_st (fun _ k => XS.iloadN X25.here hx rfl (hb hby d1_14) rfl k) ?_
  show own_Go p e s below _ _ _ T25 (mkF m 15 #[.val (.ref a), .val (.ref b), .val (.ref b), .val (.int (3 : Int32)), .val (.int (0 : Int32)), .unset] [(.int (3 : Int32)), (.int (0 : Int32))])
  refine own_st (fun _ k => XS.icmpNo X25.here hx rfl (hb hby d1_15) rfl (by decide) k) ?_
  show own_Go p e s below _ _ _ T25 (mkF m 18 #[.val (.ref a), .val (.ref b), .val (.ref b), .val (.int (3 : Int32)), .val (.int (0 : Int32)), .unset] [])
  refine own_st (fun _ k => XS.aloadN X25.here hx rfl (hb hby d1_18) rfl rfl k) ?_
  show own_Go p e s below _ _ _ T25 (mkF m 19 #[.val (.ref a), .val (.ref b), .val (.ref b), .val (.int (3 : Int32)), .val (.int (0 : Int32)), .unset] [(.ref b)])
  refine own_st (fun _ k => XS.iload X25.here hx rfl (hb hby d1_19) rfl k) ?_
  show own_Go p e s below _ _ _ T25 (mkF m 21 #[.val (.ref a), .val (.ref b), .val (.ref b), .val (.int (3 : Int32)), .val (.int (0 : Int32)), .unset] [(.int (0 : Int32)), (.ref b)])
  refine own_st (own_ldI X25 hx hZ e25 V_b (j := (0 : Int32)) (x := x0) ⟨by decide, by decide⟩ rfl (g := (mkF m 21 #[.val (.ref a), .val (.ref b), .val (.ref b), .val (.int (3 : Int32)), .val (.int (0 : Int32)), .unset] [(.int (0 : Int32)), (.ref b)])) rfl rfl (hb hby d1_21)) ?_
  show own_Go p e s below _ _ _ T25 (mkF m 22 #[.val (.ref a), .val (.ref b), .val (.ref b), .val (.int (3 : Int32)), .val (.int (0 : Int32)), .unset] [(.int x0)])
  refine own_st (fun _ k => XS.istore X25.here hx rfl (hb hby d1_22) rfl (l' := #[.val (.ref a), .val (.ref b), .val (.ref b), .val (.int (3 : Int32)), .val (.int (0 : Int32)), .val (.int x0)]) rfl k) ?_
  show own_Go p e s below _ _ _ T25 (mkF m 24 #[.val (.ref a), .val (.ref b), .val (.ref b), .val (.int (3 : Int32)), .val (.int (0 : Int32)), .val (.int x0)] [])
  refine own_st (fun _ k => XS.iload X25.here hx rfl (hb hby d1_24) rfl k) ?_
  show own_Go p e s below _ _ _ T25 (mkF m 26 #[.val (.ref a), .val (.ref b), .val (.ref b), .val (.int (3 : Int32)), .val (.int (0 : Int32)), .val (.int x0)] [(.int x0)])
  refine own_st (fun _ k => XS.ifYes X25.here hx rfl (pc0 := 26) (pc' := 44) rfl (hb hby d1_26) rfl ((if0 _ _).trans (flt nx0).2.1) (by decide) (by decide) k) ?_
  show own_Go p e s below _ _ _ T25 (mkF m 44 #[.val (.ref a), .val (.ref b), .val (.ref b), .val (.int (3 : Int32)), .val (.int (0 : Int32)), .val (.int x0)] [])
  refine own_st (fun _ k => XS.iinc X25.here hx rfl (hb hby d1_44) rfl (l' := #[.val (.ref a), .val (.ref b), .val (.ref b), .val (.int (3 : Int32)), .val (.int (1 : Int32)), .val (.int x0)]) rfl k) ?_
  show own_Go p e s below _ _ _ T25 (mkF m 47 #[.val (.ref a), .val (.ref b), .val (.ref b), .val (.int (3 : Int32)), .val (.int (1 : Int32)), .val (.int x0)] [])
  refine own_st (fun _ k => XS.goto X25.here hx rfl (pc0 := 47) (pc' := 12) rfl (hb hby d1_47) (by decide) (by decide) k) ?_
  show own_Go p e s below _ _ _ T25 (mkF m 12 #[.val (.ref a), .val (.ref b), .val (.ref b), .val (.int (3 : Int32)), .val (.int (1 : Int32)), .val (.int x0)] [])
  refine own_st (fun _ k => XS.iload X25.here hx rfl (hb hby d1_12) rfl k) ?_
  show own_Go p e s below _ _ _ T25 (mkF m 14 #[.val (.ref a), .val (.ref b), .val (.ref b), .val (.int (3 : Int32)), .val (.int (1 : Int32)), .val (.int x0)] [(.int (1 : Int32))])
  refine own_st (fun _ k => XS.iloadN X25.here hx rfl (hb hby d1_14) rfl k) ?_
  show own_Go p e s below _ _ _ T25 (mkF m 15 #[.val (.ref a), .val (.ref b), .val (.ref b), .val (.int (3 : Int32)), .val (.int (1 : Int32)), .val (.int x0)] [(.int (3 : Int32)), (.int (1 : Int32))])
  refine own_st (fun _ k => XS.icmpNo X25.here hx rfl (hb hby d1_15) rfl (by decide) k) ?_
  show own_Go p e s below _ _ _ T25 (mkF m 18 #[.val (.ref a), .val (.ref b), .val (.ref b), .val (.int (3 : Int32)), .val (.int (1 : Int32)), .val (.int x0)] [])
  refine own_st (fun _ k => XS.aloadN X25.here hx rfl (hb hby d1_18) rfl rfl k) ?_
  show own_Go p e s below _ _ _ T25 (mkF m 19 #[.val (.ref a), .val (.ref b), .val (.ref b), .val (.int (3 : Int32)), .val (.int (1 : Int32)), .val (.int x0)] [(.ref b)])
  refine own_st (fun _ k => XS.iload X25.here hx rfl (hb hby d1_19) rfl k) ?_
  show own_Go p e s below _ _ _ T25 (mkF m 21 #[.val (.ref a), .val (.ref b), .val (.ref b), .val (.int (3 : Int32)), .val (.int (1 : Int32)), .val (.int x0)] [(.int (1 : Int32)), (.ref b)])
  refine own_st (own_ldI X25 hx hZ e25 V_b (j := (1 : Int32)) (x := x1) ⟨by decide, by decide⟩ rfl (g := (mkF m 21 #[.val (.ref a), .val (.ref b), .val (.ref b), .val (.int (3 : Int32)), .val (.int (1 : Int32)), .val (.int x0)] [(.int (1 : Int32)), (.ref b)])) rfl rfl (hb hby d1_21)) ?_
  show own_Go p e s below _ _ _ T25 (mkF m 22 #[.val (.ref a), .val (.ref b), .val (.ref b), .val (.int (3 : Int32)), .val (.int (1 : Int32)), .val (.int x0)] [(.int x1)])
  refine own_st (fun _ k => XS.istore X25.here hx rfl (hb hby d1_22) rfl (l' := #[.val (.ref a), .val (.ref b), .val (.ref b), .val (.int (3 : Int32)), .val (.int (1 : Int32)), .val (.int x1)]) rfl k) ?_
  show own_Go p e s below _ _ _ T25 (mkF m 24 #[.val (.ref a), .val (.ref b), .val (.ref b), .val (.int (3 : Int32)), .val (.int (1 : Int32)), .val (.int x1)] [])
  refine own_st (fun _ k => XS.iload X25.here hx rfl (hb hby d1_24) rfl k) ?_
  show own_Go p e s below _ _ _ T25 (mkF m 26 #[.val (.ref a), .val (.ref b), .val (.ref b), .val (.int (3 : Int32)), .val (.int (1 : Int32)), .val (.int x1)] [(.int x1)])
  refine own_st (fun _ k => XS.ifYes X25.here hx rfl (pc0 := 26) (pc' := 44) rfl (hb hby d1_26) rfl ((if0 _ _).trans (flt nx1).2.1) (by decide) (by decide) k) ?_
  show own_Go p e s below _ _ _ T25 (mkF m 44 #[.val (.ref a), .val (.ref b), .val (.ref b), .val (.int (3 : Int32)), .val (.int (1 : Int32)), .val (.int x1)] [])
  refine own_st (fun _ k => XS.iinc X25.here hx rfl (hb hby d1_44) rfl (l' := #[.val (.ref a), .val (.ref b), .val (.ref b), .val (.int (3 : Int32)), .val (.int (2 : Int32)), .val (.int x1)]) rfl k) ?_
  show own_Go p e s below _ _ _ T25 (mkF m 47 #[.val (.ref a), .val (.ref b), .val (.ref b), .val (.int (3 : Int32)), .val (.int (2 : Int32)), .val (.int x1)] [])
  refine own_st (fun _ k => XS.goto X25.here hx rfl (pc0 := 47) (pc' := 12) rfl (hb hby d1_47) (by decide) (by decide) k) ?_
  show own_Go p e s below _ _ _ T25 (mkF m 12 #[.val (.ref a), .val (.ref b), .val (.ref b), .val (.int (3 : Int32)), .val (.int (2 : Int32)), .val (.int x1)] [])
  refine own_st (fun _ k => XS.iload X25.here hx rfl (hb hby d1_12) rfl k) ?_
  show own_Go p e s below _ _ _ T25 (mkF m 14 #[.val (.ref a), .val (.ref b), .val (.ref b), .val (.int (3 : Int32)), .val (.int (2 : Int32)), .val (.int x1)] [(.int (2 : Int32))])
  refine own_st (fun _ k => XS.iloadN X25.here hx rfl (hb hby d1_14) rfl k) ?_
  show own_Go p e s below _ _ _ T25 (mkF m 15 #[.val (.ref a), .val (.ref b), .val (.ref b), .val (.int (3 : Int32)), .val (.int (2 : Int32)), .val (.int x1)] [(.int (3 : Int32)), (.int (2 : Int32))])
  refine own_st (fun _ k => XS.icmpNo X25.here hx rfl (hb hby d1_15) rfl (by decide) k) ?_
  show own_Go p e s below _ _ _ T25 (mkF m 18 #[.val (.ref a), .val (.ref b), .val (.ref b), .val (.int (3 : Int32)), .val (.int (2 : Int32)), .val (.int x1)] [])
  refine own_st (fun _ k => XS.aloadN X25.here hx rfl (hb hby d1_18) rfl rfl k) ?_
  show own_Go p e s below _ _ _ T25 (mkF m 19 #[.val (.ref a), .val (.ref b), .val (.ref b), .val (.int (3 : Int32)), .val (.int (2 : Int32)), .val (.int x1)] [(.ref b)])
  refine own_st (fun _ k => XS.iload X25.here hx rfl (hb hby d1_19) rfl k) ?_
  show own_Go p e s below _ _ _ T25 (mkF m 21 #[.val (.ref a), .val (.ref b), .val (.ref b), .val (.int (3 : Int32)), .val (.int (2 : Int32)), .val (.int x1)] [(.int (2 : Int32)), (.ref b)])
  refine own_st (own_ldI X25 hx hZ e25 V_b (j := (2 : Int32)) (x := x2) ⟨by decide, by decide⟩ rfl (g := (mkF m 21 #[.val (.ref a), .val (.ref b), .val (.ref b), .val (.int (3 : Int32)), .val (.int (2 : Int32)), .val (.int x1)] [(.int (2 : Int32)), (.ref b)])) rfl rfl (hb hby d1_21)) ?_
  show own_Go p e s below _ _ _ T25 (mkF m 22 #[.val (.ref a), .val (.ref b), .val (.ref b), .val (.int (3 : Int32)), .val (.int (2 : Int32)), .val (.int x1)] [(.int x2)])
  refine own_st (fun _ k => XS.istore X25.here hx rfl (hb hby d1_22) rfl (l' := #[.val (.ref a), .val (.ref b), .val (.ref b), .val (.int (3 : Int32)), .val (.int (2 : Int32)), .val (.int x2)]) rfl k) ?_
  show own_Go p e s below _ _ _ T25 (mkF m 24 #[.val (.ref a), .val (.ref b), .val (.ref b), .val (.int (3 : Int32)), .val (.int (2 : Int32)), .val (.int x2)] [])
  refine own_st (fun _ k => XS.iload X25.here hx rfl (hb hby d1_24) rfl k) ?_
  show own_Go p e s below _ _ _ T25 (mkF m 26 #[.val (.ref a), .val (.ref b), .val (.ref b), .val (.int (3 : Int32)), .val (.int (2 : Int32)), .val (.int x2)] [(.int x2)])
  refine own_st (fun _ k => XS.ifYes X25.here hx rfl (pc0 := 26) (pc' := 44) rfl (hb hby d1_26) rfl ((if0 _ _).trans (flt nx2).2.1) (by decide) (by decide) k) ?_
  show own_Go p e s below _ _ _ T25 (mkF m 44 #[.val (.ref a), .val (.ref b), .val (.ref b), .val (.int (3 : Int32)), .val (.int (2 : Int32)), .val (.int x2)] [])
  refine own_st (fun _ k => XS.iinc X25.here hx rfl (hb hby d1_44) rfl (l' := #[.val (.ref a), .val (.ref b), .val (.ref b), .val (.int (3 : Int32)), .val (.int (3 : Int32)), .val (.int x2)]) rfl k) ?_
  show own_Go p e s below _ _ _ T25 (mkF m 47 #[.val (.ref a), .val (.ref b), .val (.ref b), .val (.int (3 : Int32)), .val (.int (3 : Int32)), .val (.int x2)] [])
  refine own_st (fun _ k => XS.goto X25.here hx rfl (pc0 := 47) (pc' := 12) rfl (hb hby d1_47) (by decide) (by decide) k) ?_
  show own_Go p e s below _ _ _ T25 (mkF m 12 #[.val (.ref a), .val (.ref b), .val (.ref b), .val (.int (3 : Int32)), .val (.int (3 : Int32)), .val (.int x2)] [])
  refine own_st (fun _ k => XS.iload X25.here hx rfl (hb hby d1_12) rfl k) ?_
  show own_Go p e s below _ _ _ T25 (mkF m 14 #[.val (.ref a), .val (.ref b), .val (.ref b), .val (.int (3 : Int32)), .val (.int (3 : Int32)), .val (.int x2)] [(.int (3 : Int32))])
  refine own_st (fun _ k => XS.iloadN X25.here hx rfl (hb hby d1_14) rfl k) ?_
  show own_Go p e s below _ _ _ T25 (mkF m 15 #[.val (.ref a), .val (.ref b), .val (.ref b), .val (.int (3 : Int32)), .val (.int (3 : Int32)), .val (.int x2)] [(.int (3 : Int32)), (.int (3 : Int32))])
  refine own_st (fun _ k => XS.icmpYes X25.here hx rfl (pc0 := 15) (pc' := 50) rfl (hb hby d1_15) rfl (by decide) (by decide) (by decide) k) ?_
  show own_Go p e s below _ _ _ T25 (mkF m 50 #[.val (.ref a), .val (.ref b), .val (.ref b), .val (.int (3 : Int32)), .val (.int (3 : Int32)), .val (.int x2)] [])
  refine own_st (fun _ k => XS.aloadN X25.here hx rfl (hb hby d1_50) rfl rfl k) ?_
  show own_Go p e s below _ _ _ T25 (mkF m 51 #[.val (.ref a), .val (.ref b), .val (.ref b), .val (.int (3 : Int32)), .val (.int (3 : Int32)), .val (.int x2)] [(.ref a)])
  refine own_st (fun _ k => XS.aloadN X25.here hx rfl (hb hby d1_51) rfl rfl k) ?_
  show own_Go p e s below _ _ _ T25 (mkF m 52 #[.val (.ref a), .val (.ref b), .val (.ref b), .val (.int (3 : Int32)), .val (.int (3 : Int32)), .val (.int x2)] [(.ref b), (.ref a)])
  obtain ⟨T26, h26, X26, e26, E26, V26, A26, st26⟩ := cloneH X25 hx hZ hown (hw _ (List.mem_of_getElem? (i := 11) rfl)) (hw _ (List.mem_of_getElem? (i := 12) rfl)) (hw _ (List.mem_of_getElem? (i := 16) rfl)) (hw _ (List.mem_of_getElem? (i := 14) rfl)) (hw _ (List.mem_of_getElem? (i := 15) rfl)) (hw _ (List.mem_of_getElem? (i := 17) rfl)) e25 V_b.arh E_b (g := (mkF m 52 #[.val (.ref a), .val (.ref b), .val (.ref b), .val (.int (3 : Int32)), .val (.int (3 : Int32)), .val (.int x2)] [(.ref b), (.ref a)])) rfl (by rw [hml]; rfl) rfl (hb hby d1_52) (by decide) (W := 1) (by show 2 * 0 + _ ≤ _; exact Nat.le_of_eq rfl) (by decide) (cap := 3) (by decide) (by decide) (by decide)
  obtain ⟨d, g26⟩ : ∃ z, z = h0.size := ⟨_, rfl⟩
  rw [← g26] at V26 A26 st26
  have g_d : n0 ≤ d := Nat.le_trans Z0 (Nat.le_of_eq g26.symm)
  have ne_a_d : a ≠ d := Nat.ne_of_lt (Nat.lt_of_lt_of_le E_a.lt (Nat.le_of_eq g26.symm))
  have ne_d_a := Ne.symm ne_a_d
  have ne_b_d : b ≠ d := Nat.ne_of_lt (Nat.lt_of_lt_of_le V_b.lt (Nat.le_of_eq g26.symm))
  have ne_d_b := Ne.symm ne_b_d
  have sz_d := Nat.le_trans K_0.1 (Nat.le_of_eq g26.symm)
  replace E_a := E_a.ext E26
  replace F_levels_a := F_levels_a.ext E26
  replace V_b := V_b.ext E26
  replace E_b := E_b.ext E26
  have Z27 := Nat.le_trans Z0 E26.1
  have K28 := K_0.ext E26
  have V_d : Arv Z h26 d k .int (3 : Int32) [(.int x0), (.int x1), (.int x2)] (.int (0 : Int32)) := V26
  have E_d := A26
  refine own_st st26 ?_
  show own_Go p e s below _ _ _ T26 (mkF m 55 #[.val (.ref a), .val (.ref b), .val (.ref b), .val (.int (3 : Int32)), .val (.int (3 : Int32)), .val (.int x2)] [(.ref d), (.ref a)])
  obtain ⟨T29, X29, e29, st29⟩ := castY X26 hx hZ hown (hw _ (List.mem_of_getElem? (i := 18) rfl)) e26 (Ins.self E_d) (g := (mkF m 55 #[.val (.ref a), .val (.ref b), .val (.ref b), .val (.int (3 : Int32)), .val (.int (3 : Int32)), .val (.int x2)] [(.ref d), (.ref a)])) rfl rfl (hb hby d1_55)
  refine own_st st29 ?_
  show own_Go p e s below _ _ _ T29 (mkF m 58 #[.val (.ref a), .val (.ref b), .val (.ref b), .val (.int (3 : Int32)), .val (.int (3 : Int32)), .val (.int x2)] [(.ref d), (.ref a)])
  obtain ⟨T30, h30, X30, e30, W30, st30⟩ := putF X29 hx hZ hown (host := "") (Or.inl (hw _ (List.mem_of_getElem? (i := 20) rfl))) Via.refl e29 F_levels_a E_a (Or.inr ⟨hw _ (List.mem_of_getElem? (i := 21) rfl), rfl, hnm⟩) (hw _ (List.mem_of_getElem? (i := 3) rfl)) (ty := (.array .int)) (by decide) rfl rfl (g := (mkF m 58 #[.val (.ref a), .val (.ref b), .val (.ref b), .val (.int (3 : Int32)), .val (.int (3 : Int32)), .val (.int x2)] [(.ref d), (.ref a)])) rfl rfl (hb hby d1_58)
  refine own_st st30 ?_
  replace F_levels_a := F_levels_a.same W30
  replace E_a := E_a.wr W30
  replace V_b := V_b.other W30 ne_b_a
  replace E_b := E_b.wr W30
  replace V_d := V_d.other W30 ne_d_a
  replace E_d := E_d.wr W30
  have Z31 := Nat.le_trans Z27 (Keep.of_wr W30).1
  have K32 := K28.wr W30 (Or.inl (List.mem_of_getElem? (i := 0) rfl))
  have N30 := Fr.snoc X30 N0 g_a
  show own_Go p e s below _ _ _ T30 (mkF m 61 #[.val (.ref a), .val (.ref b), .val (.ref b), .val (.int (3 : Int32)), .val (.int (3 : Int32)), .val (.int x2)] [])
  exact own_ret0 X30 hx hlk hret (hb hby d1_61) (by decide) (by decide) (by rw [e30]; exact ⟨d, rfl, N30, K32, E_a, F_levels_a, V_d, E_d⟩)
theorem ef_rm3_0_0 (m : MethodId) (z0 : Addr) (z1 : Addr) : entryFrame m #[(.ref z0), (.ref z1)] 3 = mkF m 0 #[.val (.ref z0), .val (.ref z1), .unset] [] := by first | (simp [entryFrame, mkF, argsToLocals, Value.category]; done) | rfl
set_option maxRecDepth 65536 in
set_option maxHeartbeats 40000000 in
theorem rm3_0_0 (l : Launch) (Z : State) (a0 : Array Value) (hw : ∀ d ∈ tables_1, d.before a0 Z = true) (ws : List Jvm.Cond) (a b d d' : Addr) (k k' : ClassId)   (h0 : Heap) (n0 : Nat) (Z0 : n0 ≤ h0.size) (F_levels_a : Fld Z h0 a "com/example/hush5/hush5/model/Transformation" "levels" "[I" (.ref d)) (F_levels_b : Fld Z h0 b "com/example/hush5/hush5/model/Transformation" "levels" "[I" (.ref d')) (V_d : Arv Z h0 d k .int (0 : Int32) [] (.int (0 : Int32))) (V_d' : Arv Z h0 d' k' .int (0 : Int32) [] (.int (0 : Int32))) :
    own_Met l Z (⟨"com/example/hush5/hush5/model/Transformation", "liesAtOrBelow", "(Lcom/example/hush5/hush5/model/Transformation;)Z"⟩ : MethodName) prog_36_method_5_code 3 (some .boolean) ({ frames := 0, cells := 0, slots := 0, locals := 0 } : Room) ws #[(.ref a), (.ref b)] h0 (fun v h L => v = some (.int (own_b (True))) ∧ Fr n0 L ∧ h = h0) 0 0 := by
  refine own_enter pf3 (fun m => ef_rm3_0_0 m a b) ?_
  intro p e s m below meth c T0 hx hby hml hown hnm hret hlk hZ X0 e0
  have N0 := Fr.nil n0
  show own_Go p e s below _ _ _ T0 (mkF m 0 #[.val (.ref a), .val (.ref b), .unset] [])
  refine own_st (fun _ k => XS.iconst X0.here hx rfl (hb hby d3_0) k) ?_
  show own_Go p e s below _ _ _ T0 (mkF m 1 #[.val (.ref a), .val (.ref b), .unset] [(.int (0 : Int32))])
  refine own_st (fun _ k => XS.istoreN X0.here hx rfl (hb hby d3_1) rfl (l' := #[.val (.ref a), .val (.ref b), .val (.int (0 : Int32))]) rfl k) ?_
  show own_Go p e s below _ _ _ T0 (mkF m 2 #[.val (.ref a), .val (.ref b), .val (.int (0 : Int32))] [])
  refine own_st (fun _ k => XS.iloadN X0.here hx rfl (hb hby d3_2) rfl k) ?_
  show own_Go p e s below _ _ _ T0 (mkF m 3 #[.val (.ref a), .val (.ref b), .val (.int (0 : Int32))] [(.int (0 : Int32))])
  refine own_st (fun _ k => XS.aloadN X0.here hx rfl (hb hby d3_3) rfl rfl k) ?_
  show own_Go p e s below _ _ _ T0 (mkF m 4 #[.val (.ref a), .val (.ref b), .val (.int (0 : Int32))] [(.ref a), (.int (0 : Int32))])
  obtain ⟨T33, X33, e33, st33⟩ := getF X0 hx hZ hown (host := "") (Or.inl (hw _ (List.mem_of_getElem? (i := 20) rfl))) Via.refl e0 F_levels_a (g := (mkF m 4 #[.val (.ref a), .val (.ref b), .val (.int (0 : Int32))] [(.ref a), (.int (0 : Int32))])) rfl rfl (hb hby d3_4)
  refine own_st st33 ?_
  show own_Go p e s below _ _ _ T33 (mkF m 7 #[.val (.ref a), .val (.ref b), .val (.int (0 : Int32))] [(.ref d), (.int (0 : Int32))])
  refine own_st (own_len X33 hx hZ e33 V_d (g := (mkF m 7 #[.val (.ref a), .val (.ref b), .val (.int (0 : Int32))] [(.ref d), (.int (0 : Int32))])) rfl rfl (hb hby d3_7)) ?_
  show own_Go p e s below _ _ _ T33 (mkF m 8 #[.val (.ref a), .val (.ref b), .val (.int (0 : Int32))] [(.int (0 : Int32)), (.int (0 : Int32))])
  refine own_st (fun _ k => XS.icmpYes X33.here hx rfl (pc0 := 8) (pc' := 34) rfl (hb hby d3_8) rfl (by decide) (by decide) (by decide) k) ?_
  show own_Go p e s below _ _ _ T33 (mkF m 34 #[.val (.ref a), .val (.ref b), .val (.int (0 : Int32))] [])
  refine own_st (fun _ k => XS.iconst X33.here hx rfl (hb hby d3_34) k) ?_
  show own_Go p e s below _ _ _ T33 (mkF m 35 #[.val (.ref a), .val (.ref b), .val (.int (0 : Int32))] [(.int (1 : Int32))])
  exact own_retN X33 hx hlk (t := .boolean) hret (by simp) (hb hby d3_35) (z' := (1 : Int32)) rfl (by decide) (by decide) ⟨by rw [own_bt (by simp [])], N0, e33⟩
theorem ef_rm3_0_3 (m : MethodId) (z0 : Addr) (z1 : Addr) : entryFrame m #[(.ref z0), (.ref z1)] 3 = mkF m 0 #[.val (.ref z0), .val (.ref z1), .unset] [] := by first | (simp [entryFrame, mkF, argsToLocals, Value.category]; done) | rfl
set_option maxRecDepth 65536 in
set_option maxHeartbeats 40000000 in
theorem rm3_0_3 (l : Launch) (Z : State) (a0 : Array Value) (hw : ∀ d ∈ tables_1, d.before a0 Z = true) (ws : List Jvm.Cond) (a b d d' : Addr) (k k' : ClassId)  (y0 : Int32) (y1 : Int32) (y2 : Int32) (h0 : Heap) (n0 : Nat) (Z0 : n0 ≤ h0.size) (F_levels_a : Fld Z h0 a "com/example/hush5/hush5/model/Transformation" "levels" "[I" (.ref d)) (F_levels_b : Fld Z h0 b "com/example/hush5/hush5/model/Transformation" "levels" "[I" (.ref d')) (V_d : Arv Z h0 d k .int (0 : Int32) [] (.int (0 : Int32))) (V_d' : Arv Z h0 d' k' .int (3 : Int32) [(.int y0), (.int y1), (.int y2)] (.int (0 : Int32))) :
    own_Met l Z (⟨"com/example/hush5/hush5/model/Transformation", "liesAtOrBelow", "(Lcom/example/hush5/hush5/model/Transformation;)Z"⟩ : MethodName) prog_36_method_5_code 3 (some .boolean) ({ frames := 0, cells := 0, slots := 0, locals := 0 } : Room) ws #[(.ref a), (.ref b)] h0 (fun v h L => v = some (.int (own_b (True))) ∧ Fr n0 L ∧ h = h0) 0 0 := by
  refine own_enter pf3 (fun m => ef_rm3_0_3 m a b) ?_
  intro p e s m below meth c T0 hx hby hml hown hnm hret hlk hZ X0 e0
  have N0 := Fr.nil n0
  show own_Go p e s below _ _ _ T0 (mkF m 0 #[.val (.ref a), .val (.ref b), .unset] [])
  refine own_st (fun _ k => XS.iconst X0.here hx rfl (hb hby d3_0) k) ?_
  show own_Go p e s below _ _ _ T0 (mkF m 1 #[.val (.ref a), .val (.ref b), .unset] [(.int (0 : Int32))])
  refine own_st (fun _ k => XS.istoreN X0.here hx rfl (hb hby d3_1) rfl (l' := #[.val (.ref a), .val (.ref b), .val (.int (0 : Int32))]) rfl k) ?_
  show own_Go p e s below _ _ _ T0 (mkF m 2 #[.val (.ref a), .val (.ref b), .val (.int (0 : Int32))] [])
  refine own_st (fun _ k => XS.iloadN X0.here hx rfl (hb hby d3_2) rfl k) ?_
  show own_Go p e s below _ _ _ T0 (mkF m 3 #[.val (.ref a), .val (.ref b), .val (.int (0 : Int32))] [(.int (0 : Int32))])
  refine own_st (fun _ k => XS.aloadN X0.here hx rfl (hb hby d3_3) rfl rfl k) ?_
  show own_Go p e s below _ _ _ T0 (mkF m 4 #[.val (.ref a), .val (.ref b), .val (.int (0 : Int32))] [(.ref a), (.int (0 : Int32))])
  obtain ⟨T34, X34, e34, st34⟩ := getF X0 hx hZ hown (host := "") (Or.inl (hw _ (List.mem_of_getElem? (i := 20) rfl))) Via.refl e0 F_levels_a (g := (mkF m 4 #[.val (.ref a), .val (.ref b), .val (.int (0 : Int32))] [(.ref a), (.int (0 : Int32))])) rfl rfl (hb hby d3_4)
  refine own_st st34 ?_
  show own_Go p e s below _ _ _ T34 (mkF m 7 #[.val (.ref a), .val (.ref b), .val (.int (0 : Int32))] [(.ref d), (.int (0 : Int32))])
  refine own_st (own_len X34 hx hZ e34 V_d (g := (mkF m 7 #[.val (.ref a), .val (.ref b), .val (.int (0 : Int32))] [(.ref d), (.int (0 : Int32))])) rfl rfl (hb hby d3_7)) ?_
  show own_Go p e s below _ _ _ T34 (mkF m 8 #[.val (.ref a), .val (.ref b), .val (.int (0 : Int32))] [(.int (0 : Int32)), (.int (0 : Int32))])
  refine own_st (fun _ k => XS.icmpYes X34.here hx rfl (pc0 := 8) (pc' := 34) rfl (hb hby d3_8) rfl (by decide) (by decide) (by decide) k) ?_
  show own_Go p e s below _ _ _ T34 (mkF m 34 #[.val (.ref a), .val (.ref b), .val (.int (0 : Int32))] [])
  refine own_st (fun _ k => XS.iconst X34.here hx rfl (hb hby d3_34) k) ?_
  show own_Go p e s below _ _ _ T34 (mkF m 35 #[.val (.ref a), .val (.ref b), .val (.int (0 : Int32))] [(.int (1 : Int32))])
  exact own_retN X34 hx hlk (t := .boolean) hret (by simp) (hb hby d3_35) (z' := (1 : Int32)) rfl (by decide) (by decide) ⟨by rw [own_bt (by simp [])], N0, e34⟩
theorem ef_rm3_1_1 (m : MethodId) (z0 : Addr) (z1 : Addr) : entryFrame m #[(.ref z0), (.ref z1)] 3 = mkF m 0 #[.val (.ref z0), .val (.ref z1), .unset] [] := by first | (simp [entryFrame, mkF, argsToLocals, Value.category]; done) | rfl
set_option maxRecDepth 65536 in
set_option maxHeartbeats 40000000 in
theorem rm3_1_1 (l : Launch) (Z : State) (a0 : Array Value) (hw : ∀ d ∈ tables_1, d.before a0 Z = true) (ws : List Jvm.Cond) (a b d d' : Addr) (k k' : ClassId) (x0 : Int32) (y0 : Int32) (h0 : Heap) (n0 : Nat) (Z0 : n0 ≤ h0.size) (F_levels_a : Fld Z h0 a "com/example/hush5/hush5/model/Transformation" "levels" "[I" (.ref d)) (F_levels_b : Fld Z h0 b "com/example/hush5/hush5/model/Transformation" "levels" "[I" (.ref d')) (V_d : Arv Z h0 d k .int (1 : Int32) [(.int x0)] (.int (0 : Int32))) (V_d' : Arv Z h0 d' k' .int (1 : Int32) [(.int y0)] (.int (0 : Int32))) :
    own_Met l Z (⟨"com/example/hush5/hush5/model/Transformation", "liesAtOrBelow", "(Lcom/example/hush5/hush5/model/Transformation;)Z"⟩ : MethodName) prog_36_method_5_code 3 (some .boolean) ({ frames := 0, cells := 0, slots := 0, locals := 0 } : Room) ws #[(.ref a), (.ref b)] h0 (fun v h L => v = some (.int (own_b (¬ y0 < x0))) ∧ Fr n0 L ∧ h = h0) 0 0 := by
  refine own_enter pf3 (fun m => ef_rm3_1_1 m a b) ?_
  intro p e s m below meth c T0 hx hby hml hown hnm hret hlk hZ X0 e0
  have N0 := Fr.nil n0
  show own_Go p e s below _ _ _ T0 (mkF m 0 #[.val (.ref a), .val (.ref b), .unset] [])
  refine own_st (fun _ k => XS.iconst X0.here hx rfl (hb hby d3_0) k) ?_
  show own_Go p e s below _ _ _ T0 (mkF m 1 #[.val (.ref a), .val (.ref b), .unset] [(.int (0 : Int32))])
  refine own_st (fun _ k => XS.istoreN X0.here hx rfl (hb hby d3_1) rfl (l' := #[.val (.ref a), .val (.ref b), .val (.int (0 : Int32))]) rfl k) ?_
  show own_Go p e s below _ _ _ T0 (mkF m 2 #[.val (.ref a), .val (.ref b), .val (.int (0 : Int32))] [])
  refine own_st (fun _ k => XS.iloadN X0.here hx rfl (hb hby d3_2) rfl k) ?_
  show own_Go p e s below _ _ _ T0 (mkF m 3 #[.val (.ref a), .val (.ref b), .val (.int (0 : Int32))] [(.int (0 : Int32))])
  refine own_st (fun _ k => XS.aloadN X0.here hx rfl (hb hby d3_3) rfl rfl k) ?_
  show own_Go p e s below _ _ _ T0 (mkF m 4 #[.val (.ref a), .val (.ref b), .val (.int (0 : Int32))] [(.ref a), (.int (0 : Int32))])
  obtain ⟨T35, X35, e35, st35⟩ := getF X0 hx hZ hown (host := "") (Or.inl (hw _ (List.mem_of_getElem? (i := 20) rfl))) Via.refl e0 F_levels_a (g := (mkF m 4 #[.val (.ref a), .val (.ref b), .val (.int (0 : Int32))] [(.ref a), (.int (0 : Int32))])) rfl rfl (hb hby d3_4)
  refine own_st st35 ?_
  show own_Go p e s below _ _ _ T35 (mkF m 7 #[.val (.ref a), .val (.ref b), .val (.int (0 : Int32))] [(.ref d), (.int (0 : Int32))])
  refine own_st (own_len X35 hx hZ e35 V_d (g := (mkF m 7 #[.val (.ref a), .val (.ref b), .val (.int (0 : Int32))] [(.ref d), (.int (0 : Int32))])) rfl rfl (hb hby d3_7)) ?_
  show own_Go p e s below _ _ _ T35 (mkF m 8 #[.val (.ref a), .val (.ref b), .val (.int (0 : Int32))] [(.int (1 : Int32)), (.int (0 : Int32))])
  refine own_st (fun _ k => XS.icmpNo X35.here hx rfl (hb hby d3_8) rfl (by decide) k) ?_
  show own_Go p e s below _ _ _ T35 (mkF m 11 #[.val (.ref a), .val (.ref b), .val (.int (0 : Int32))] [])
  refine own_st (fun _ k => XS.aloadN X35.here hx rfl (hb hby d3_11) rfl rfl k) ?_
  show own_Go p e s below _ _ _ T35 (mkF m 12 #[.val (.ref a), .val (.ref b), .val (.int (0 : Int32))] [(.ref a)])
  obtain ⟨T36, X36, e36, st36⟩ := getF X35 hx hZ hown (host := "") (Or.inl (hw _ (List.mem_of_getElem? (i := 20) rfl))) Via.refl e35 F_levels_a (g := (mkF m 12 #[.val (.ref a), .val (.ref b), .val (.int (0 : Int32))] [(.ref a)])) rfl rfl (hb hby d3_12)
  refine own_st st36 ?_
  show own_Go p e s below _ _ _ T36 (mkF m 15 #[.val (.ref a), .val (.ref b), .val (.int (0 : Int32))] [(.ref d)])
  refine own_st (fun _ k => XS.iloadN X36.here hx rfl (hb hby d3_15) rfl k) ?_
  show own_Go p e s below _ _ _ T36 (mkF m 16 #[.val (.ref a), .val (.ref b), .val (.int (0 : Int32))] [(.int (0 : Int32)), (.ref d)])
  refine own_st (own_ldI X36 hx hZ e36 V_d (j := (0 : Int32)) (x := x0) ⟨by decide, by decide⟩ rfl (g := (mkF m 16 #[.val (.ref a), .val (.ref b), .val (.int (0 : Int32))] [(.int (0 : Int32)), (.ref d)])) rfl rfl (hb hby d3_16)) ?_
  show own_Go p e s below _ _ _ T36 (mkF m 17 #[.val (.ref a), .val (.ref b), .val (.int (0 : Int32))] [(.int x0)])
  refine own_st (fun _ k => XS.aloadN X36.here hx rfl (hb hby d3_17) rfl rfl k) ?_
  show own_Go p e s below _ _ _ T36 (mkF m 18 #[.val (.ref a), .val (.ref b), .val (.int (0 : Int32))] [(.ref b), (.int x0)])
  obtain ⟨T37, X37, e37, st37⟩ := getF X36 hx hZ hown (host := "") (Or.inl (hw _ (List.mem_of_getElem? (i := 20) rfl))) Via.refl e36 F_levels_b (g := (mkF m 18 #[.val (.ref a), .val (.ref b), .val (.int (0 : Int32))] [(.ref b), (.int x0)])) rfl rfl (hb hby d3_18)
  refine own_st st37 ?_
  show own_Go p e s below _ _ _ T37 (mkF m 21 #[.val (.ref a), .val (.ref b), .val (.int (0 : Int32))] [(.ref d'), (.int x0)])
  refine own_st (fun _ k => XS.iloadN X37.here hx rfl (hb hby d3_21) rfl k) ?_
  show own_Go p e s below _ _ _ T37 (mkF m 22 #[.val (.ref a), .val (.ref b), .val (.int (0 : Int32))] [(.int (0 : Int32)), (.ref d'), (.int x0)])
  refine own_st (own_ldI X37 hx hZ e37 V_d' (j := (0 : Int32)) (x := y0) ⟨by decide, by decide⟩ rfl (g := (mkF m 22 #[.val (.ref a), .val (.ref b), .val (.int (0 : Int32))] [(.int (0 : Int32)), (.ref d'), (.int x0)])) rfl rfl (hb hby d3_22)) ?_
  show own_Go p e s below _ _ _ T37 (mkF m 23 #[.val (.ref a), .val (.ref b), .val (.int (0 : Int32))] [(.int y0), (.int x0)])
  by_cases c23_38 : y0 < x0
  · refine own_st (fun _ k => XS.icmpNo X37.here hx rfl (hb hby d3_23) rfl (tlt c23_38).2.2.2 k) ?_
    show own_Go p e s below _ _ _ T37 (mkF m 26 #[.val (.ref a), .val (.ref b), .val (.int (0 : Int32))] [])
    refine own_st (fun _ k => XS.iconst X37.here hx rfl (hb hby d3_26) k) ?_
    show own_Go p e s below _ _ _ T37 (mkF m 27 #[.val (.ref a), .val (.ref b), .val (.int (0 : Int32))] [(.int (0 : Int32))])
    exact own_retN X37 hx hlk (t := .boolean) hret (by simp) (hb hby d3_27) (z' := (0 : Int32)) rfl (by decide) (by decide) ⟨by rw [own_bf (by simp [c23_38])], N0, e37⟩
  · refine own_st (fun _ k => XS.icmpYes X37.here hx rfl (pc0 := 23) (pc' := 28) rfl (hb hby d3_23) rfl (flt c23_38).2.2.2 (by decide) (by decide) k) ?_
    show own_Go p e s below _ _ _ T37 (mkF m 28 #[.val (.ref a), .val (.ref b), .val (.int (0 : Int32))] [])
    refine own_st (fun _ k => XS.iinc X37.here hx rfl (hb hby d3_28) rfl (l' := #[.val (.ref a), .val (.ref b), .val (.int (1 : Int32))]) rfl k) ?_
    show own_Go p e s below _ _ _ T37 (mkF m 31 #[.val (.ref a), .val (.ref b), .val (.int (1 : Int32))] [])
    refine own_st (fun _ k => XS.goto X37.here hx rfl (pc0 := 31) (pc' := 2) rfl (hb hby d3_31) (by decide) (by decide) k) ?_
    show own_Go p e s below _ _ _ T37 (mkF m 2 #[.val (.ref a), .val (.ref b), .val (.int (1 : Int32))] [])
    refine own_st (fun _ k => XS.iloadN X37.here hx rfl (hb hby d3_2) rfl k) ?_
    show own_Go p e s below _ _ _ T37 (mkF m 3 #[.val (.ref a), .val (.ref b), .val (.int (1 : Int32))] [(.int (1 : Int32))])
    refine own_st (fun _ k => XS.aloadN X37.here hx rfl (hb hby d3_3) rfl rfl k) ?_
    show own_Go p e s below _ _ _ T37 (mkF m 4 #[.val (.ref a), .val (.ref b), .val (.int (1 : Int32))] [(.ref a), (.int (1 : Int32))])
    obtain ⟨T39, X39, e39, st39⟩ := getF X37 hx hZ hown (host := "") (Or.inl (hw _ (List.mem_of_getElem? (i := 20) rfl))) Via.refl e37 F_levels_a (g := (mkF m 4 #[.val (.ref a), .val (.ref b), .val (.int (1 : Int32))] [(.ref a), (.int (1 : Int32))])) rfl rfl (hb hby d3_4)
    refine own_st st39 ?_
    show own_Go p e s below _ _ _ T39 (mkF m 7 #[.val (.ref a), .val (.ref b), .val (.int (1 : Int32))] [(.ref d), (.int (1 : Int32))])
    refine own_st (own_len X39 hx hZ e39 V_d (g := (mkF m 7 #[.val (.ref a), .val (.ref b), .val (.int (1 : Int32))] [(.ref d), (.int (1 : Int32))])) rfl rfl (hb hby d3_7)) ?_
    show own_Go p e s below _ _ _ T39 (mkF m 8 #[.val (.ref a), .val (.ref b), .val (.int (1 : Int32))] [(.int (1 : Int32)), (.int (1 : Int32))])
    refine own_st (fun _ k => XS.icmpYes X39.here hx rfl (pc0 := 8) (pc' := 34) rfl (hb hby d3_8) rfl (by decide) (by decide) (by decide) k) ?_
    show own_Go p e s below _ _ _ T39 (mkF m 34 #[.val (.ref a), .val (.ref b), .val (.int (1 : Int32))] [])
    refine own_st (fun _ k => XS.iconst X39.here hx rfl (hb hby d3_34) k) ?_
    show own_Go p e s below _ _ _ T39 (mkF m 35 #[.val (.ref a), .val (.ref b), .val (.int (1 : Int32))] [(.int (1 : Int32))])
    exact own_retN X39 hx hlk (t := .boolean) hret (by simp) (hb hby d3_35) (z' := (1 : Int32)) rfl (by decide) (by decide) ⟨by rw [own_bt (by simp [c23_38])], N0, e39⟩
theorem ef_rm3_1_3 (m : MethodId) (z0 : Addr) (z1 : Addr) : entryFrame m #[(.ref z0), (.ref z1)] 3 = mkF m 0 #[.val (.ref z0), .val (.ref z1), .unset] [] := by first | (simp [entryFrame, mkF, argsToLocals, Value.category]; done) | rfl
set_option maxRecDepth 65536 in
set_option maxHeartbeats 40000000 in
theorem rm3_1_3 (l : Launch) (Z : State) (a0 : Array Value) (hw : ∀ d ∈ tables_1, d.before a0 Z = true) (ws : List Jvm.Cond) (a b d d' : Addr) (k k' : ClassId) (x0 : Int32) (y0 : Int32) (y1 : Int32) (y2 : Int32) (h0 : Heap) (n0 : Nat) (Z0 : n0 ≤ h0.size) (F_levels_a : Fld Z h0 a "com/example/hush5/hush5/model/Transformation" "levels" "[I" (.ref d)) (F_levels_b : Fld Z h0 b "com/example/hush5/hush5/model/Transformation" "levels" "[I" (.ref d')) (V_d : Arv Z h0 d k .int (1 : Int32) [(.int x0)] (.int (0 : Int32))) (V_d' : Arv Z h0 d' k' .int (3 : Int32) [(.int y0), (.int y1), (.int y2)] (.int (0 : Int32))) :
    own_Met l Z (⟨"com/example/hush5/hush5/model/Transformation", "liesAtOrBelow", "(Lcom/example/hush5/hush5/model/Transformation;)Z"⟩ : MethodName) prog_36_method_5_code 3 (some .boolean) ({ frames := 0, cells := 0, slots := 0, locals := 0 } : Room) ws #[(.ref a), (.ref b)] h0 (fun v h L => v = some (.int (own_b (¬ y0 < x0))) ∧ Fr n0 L ∧ h = h0) 0 0 := by
  refine own_enter pf3 (fun m => ef_rm3_1_3 m a b) ?_
  intro p e s m below meth c T0 hx hby hml hown hnm hret hlk hZ X0 e0
  have N0 := Fr.nil n0
  show own_Go p e s below _ _ _ T0 (mkF m 0 #[.val (.ref a), .val (.ref b), .unset] [])
  refine own_st (fun _ k => XS.iconst X0.here hx rfl (hb hby d3_0) k) ?_
  show own_Go p e s below _ _ _ T0 (mkF m 1 #[.val (.ref a), .val (.ref b), .unset] [(.int (0 : Int32))])
  refine own_st (fun _ k => XS.istoreN X0.here hx rfl (hb hby d3_1) rfl (l' := #[.val (.ref a), .val (.ref b), .val (.int (0 : Int32))]) rfl k) ?_
  show own_Go p e s below _ _ _ T0 (mkF m 2 #[.val (.ref a), .val (.ref b), .val (.int (0 : Int32))] [])
  refine own_st (fun _ k => XS.iloadN X0.here hx rfl (hb hby d3_2) rfl k) ?_
  show own_Go p e s below _ _ _ T0 (mkF m 3 #[.val (.ref a), .val (.ref b), .val (.int (0 : Int32))] [(.int (0 : Int32))])
  refine own_st (fun _ k => XS.aloadN X0.here hx rfl (hb hby d3_3) rfl rfl k) ?_
  show own_Go p e s below _ _ _ T0 (mkF m 4 #[.val (.ref a), .val (.ref b), .val (.int (0 : Int32))] [(.ref a), (.int (0 : Int32))])
  obtain ⟨T40, X40, e40, st40⟩ := getF X0 hx hZ hown (host := "") (Or.inl (hw _ (List.mem_of_getElem? (i := 20) rfl))) Via.refl e0 F_levels_a (g := (mkF m 4 #[.val (.ref a), .val (.ref b), .val (.int (0 : Int32))] [(.ref a), (.int (0 : Int32))])) rfl rfl (hb hby d3_4)
  refine own_st st40 ?_
  show own_Go p e s below _ _ _ T40 (mkF m 7 #[.val (.ref a), .val (.ref b), .val (.int (0 : Int32))] [(.ref d), (.int (0 : Int32))])
  refine own_st (own_len X40 hx hZ e40 V_d (g := (mkF m 7 #[.val (.ref a), .val (.ref b), .val (.int (0 : Int32))] [(.ref d), (.int (0 : Int32))])) rfl rfl (hb hby d3_7)) ?_
  show own_Go p e s below _ _ _ T40 (mkF m 8 #[.val (.ref a), .val (.ref b), .val (.int (0 : Int32))] [(.int (1 : Int32)), (.int (0 : Int32))])
  refine own_st (fun _ k => XS.icmpNo X40.here hx rfl (hb hby d3_8) rfl (by decide) k) ?_
  show own_Go p e s below _ _ _ T40 (mkF m 11 #[.val (.ref a), .val (.ref b), .val (.int (0 : Int32))] [])
  refine own_st (fun _ k => XS.aloadN X40.here hx rfl (hb hby d3_11) rfl rfl k) ?_
  show own_Go p e s below _ _ _ T40 (mkF m 12 #[.val (.ref a), .val (.ref b), .val (.int (0 : Int32))] [(.ref a)])
  obtain ⟨T41, X41, e41, st41⟩ := getF X40 hx hZ hown (host := "") (Or.inl (hw _ (List.mem_of_getElem? (i := 20) rfl))) Via.refl e40 F_levels_a (g := (mkF m 12 #[.val (.ref a), .val (.ref b), .val (.int (0 : Int32))] [(.ref a)])) rfl rfl (hb hby d3_12)
  refine own_st st41 ?_
  show own_Go p e s below _ _ _ T41 (mkF m 15 #[.val (.ref a), .val (.ref b), .val (.int (0 : Int32))] [(.ref d)])
  refine own_st (fun _ k => XS.iloadN X41.here hx rfl (hb hby d3_15) rfl k) ?_
  show own_Go p e s below _ _ _ T41 (mkF m 16 #[.val (.ref a), .val (.ref b), .val (.int (0 : Int32))] [(.int (0 : Int32)), (.ref d)])
  refine own_st (own_ldI X41 hx hZ e41 V_d (j := (0 : Int32)) (x := x0) ⟨by decide, by decide⟩ rfl (g := (mkF m 16 #[.val (.ref a), .val (.ref b), .val (.int (0 : Int32))] [(.int (0 : Int32)), (.ref d)])) rfl rfl (hb hby d3_16)) ?_
  show own_Go p e s below _ _ _ T41 (mkF m 17 #[.val (.ref a), .val (.ref b), .val (.int (0 : Int32))] [(.int x0)])
  refine own_st (fun _ k => XS.aloadN X41.here hx rfl (hb hby d3_17) rfl rfl k) ?_
  show own_Go p e s below _ _ _ T41 (mkF m 18 #[.val (.ref a), .val (.ref b), .val (.int (0 : Int32))] [(.ref b), (.int x0)])
  obtain ⟨T42, X42, e42, st42⟩ := getF X41 hx hZ hown (host := "") (Or.inl (hw _ (List.mem_of_getElem? (i := 20) rfl))) Via.refl e41 F_levels_b (g := (mkF m 18 #[.val (.ref a), .val (.ref b), .val (.int (0 : Int32))] [(.ref b), (.int x0)])) rfl rfl (hb hby d3_18)
  refine own_st st42 ?_
  show own_Go p e s below _ _ _ T42 (mkF m 21 #[.val (.ref a), .val (.ref b), .val (.int (0 : Int32))] [(.ref d'), (.int x0)])
  refine own_st (fun _ k => XS.iloadN X42.here hx rfl (hb hby d3_21) rfl k) ?_
  show own_Go p e s below _ _ _ T42 (mkF m 22 #[.val (.ref a), .val (.ref b), .val (.int (0 : Int32))] [(.int (0 : Int32)), (.ref d'), (.int x0)])
  refine own_st (own_ldI X42 hx hZ e42 V_d' (j := (0 : Int32)) (x := y0) ⟨by decide, by decide⟩ rfl (g := (mkF m 22 #[.val (.ref a), .val (.ref b), .val (.int (0 : Int32))] [(.int (0 : Int32)), (.ref d'), (.int x0)])) rfl rfl (hb hby d3_22)) ?_
  show own_Go p e s below _ _ _ T42 (mkF m 23 #[.val (.ref a), .val (.ref b), .val (.int (0 : Int32))] [(.int y0), (.int x0)])
  by_cases c23_43 : y0 < x0
  · refine own_st (fun _ k => XS.icmpNo X42.here hx rfl (hb hby d3_23) rfl (tlt c23_43).2.2.2 k) ?_
    show own_Go p e s below _ _ _ T42 (mkF m 26 #[.val (.ref a), .val (.ref b), .val (.int (0 : Int32))] [])
    refine own_st (fun _ k => XS.iconst X42.here hx rfl (hb hby d3_26) k) ?_
    show own_Go p e s below _ _ _ T42 (mkF m 27 #[.val (.ref a), .val (.ref b), .val (.int (0 : Int32))] [(.int (0 : Int32))])
    exact own_retN X42 hx hlk (t := .boolean) hret (by simp) (hb hby d3_27) (z' := (0 : Int32)) rfl (by decide) (by decide) ⟨by rw [own_bf (by simp [c23_43])], N0, e42⟩
  · refine own_st (fun _ k => XS.icmpYes X42.here hx rfl (pc0 := 23) (pc' := 28) rfl (hb hby d3_23) rfl (flt c23_43).2.2.2 (by decide) (by decide) k) ?_
    show own_Go p e s below _ _ _ T42 (mkF m 28 #[.val (.ref a), .val (.ref b), .val (.int (0 : Int32))] [])
    refine own_st (fun _ k => XS.iinc X42.here hx rfl (hb hby d3_28) rfl (l' := #[.val (.ref a), .val (.ref b), .val (.int (1 : Int32))]) rfl k) ?_
    show own_Go p e s below _ _ _ T42 (mkF m 31 #[.val (.ref a), .val (.ref b), .val (.int (1 : Int32))] [])
    refine own_st (fun _ k => XS.goto X42.here hx rfl (pc0 := 31) (pc' := 2) rfl (hb hby d3_31) (by decide) (by decide) k) ?_
    show own_Go p e s below _ _ _ T42 (mkF m 2 #[.val (.ref a), .val (.ref b), .val (.int (1 : Int32))] [])
    refine own_st (fun _ k => XS.iloadN X42.here hx rfl (hb hby d3_2) rfl k) ?_
    show own_Go p e s below _ _ _ T42 (mkF m 3 #[.val (.ref a), .val (.ref b), .val (.int (1 : Int32))] [(.int (1 : Int32))])
    refine own_st (fun _ k => XS.aloadN X42.here hx rfl (hb hby d3_3) rfl rfl k) ?_
    show own_Go p e s below _ _ _ T42 (mkF m 4 #[.val (.ref a), .val (.ref b), .val (.int (1 : Int32))] [(.ref a), (.int (1 : Int32))])
    obtain ⟨T44, X44, e44, st44⟩ := getF X42 hx hZ hown (host := "") (Or.inl (hw _ (List.mem_of_getElem? (i := 20) rfl))) Via.refl e42 F_levels_a (g := (mkF m 4 #[.val (.ref a), .val (.ref b), .val (.int (1 : Int32))] [(.ref a), (.int (1 : Int32))])) rfl rfl (hb hby d3_4)
    refine own_st st44 ?_
    show own_Go p e s below _ _ _ T44 (mkF m 7 #[.val (.ref a), .val (.ref b), .val (.int (1 : Int32))] [(.ref d), (.int (1 : Int32))])
    refine own_st (own_len X44 hx hZ e44 V_d (g := (mkF m 7 #[.val (.ref a), .val (.ref b), .val (.int (1 : Int32))] [(.ref d), (.int (1 : Int32))])) rfl rfl (hb hby d3_7)) ?_
    show own_Go p e s below _ _ _ T44 (mkF m 8 #[.val (.ref a), .val (.ref b), .val (.int (1 : Int32))] [(.int (1 : Int32)), (.int (1 : Int32))])
    refine own_st (fun _ k => XS.icmpYes X44.here hx rfl (pc0 := 8) (pc' := 34) rfl (hb hby d3_8) rfl (by decide) (by decide) (by decide) k) ?_
    show own_Go p e s below _ _ _ T44 (mkF m 34 #[.val (.ref a), .val (.ref b), .val (.int (1 : Int32))] [])
    refine own_st (fun _ k => XS.iconst X44.here hx rfl (hb hby d3_34) k) ?_
    show own_Go p e s below _ _ _ T44 (mkF m 35 #[.val (.ref a), .val (.ref b), .val (.int (1 : Int32))] [(.int (1 : Int32))])
    exact own_retN X44 hx hlk (t := .boolean) hret (by simp) (hb hby d3_35) (z' := (1 : Int32)) rfl (by decide) (by decide) ⟨by rw [own_bt (by simp [c23_43])], N0, e44⟩
theorem ef_rm3_2_2 (m : MethodId) (z0 : Addr) (z1 : Addr) : entryFrame m #[(.ref z0), (.ref z1)] 3 = mkF m 0 #[.val (.ref z0), .val (.ref z1), .unset] [] := by first | (simp [entryFrame, mkF, argsToLocals, Value.category]; done) | rfl
set_option maxRecDepth 65536 in
set_option maxHeartbeats 40000000 in
theorem rm3_2_2 (l : Launch) (Z : State) (a0 : Array Value) (hw : ∀ d ∈ tables_1, d.before a0 Z = true) (ws : List Jvm.Cond) (a b d d' : Addr) (k k' : ClassId) (x0 : Int32) (x1 : Int32) (y0 : Int32) (y1 : Int32) (h0 : Heap) (n0 : Nat) (Z0 : n0 ≤ h0.size) (F_levels_a : Fld Z h0 a "com/example/hush5/hush5/model/Transformation" "levels" "[I" (.ref d)) (F_levels_b : Fld Z h0 b "com/example/hush5/hush5/model/Transformation" "levels" "[I" (.ref d')) (V_d : Arv Z h0 d k .int (2 : Int32) [(.int x0), (.int x1)] (.int (0 : Int32))) (V_d' : Arv Z h0 d' k' .int (2 : Int32) [(.int y0), (.int y1)] (.int (0 : Int32))) :
    own_Met l Z (⟨"com/example/hush5/hush5/model/Transformation", "liesAtOrBelow", "(Lcom/example/hush5/hush5/model/Transformation;)Z"⟩ : MethodName) prog_36_method_5_code 3 (some .boolean) ({ frames := 0, cells := 0, slots := 0, locals := 0 } : Room) ws #[(.ref a), (.ref b)] h0 (fun v h L => v = some (.int (own_b (¬ y0 < x0 ∧ ¬ y1 < x1))) ∧ Fr n0 L ∧ h = h0) 0 0 := by
  refine own_enter pf3 (fun m => ef_rm3_2_2 m a b) ?_
  intro p e s m below meth c T0 hx hby hml hown hnm hret hlk hZ X0 e0
  have N0 := Fr.nil n0
  show own_Go p e s below _ _ _ T0 (mkF m 0 #[.val (.ref a), .val (.ref b), .unset] [])
  refine own_st (fun _ k => XS.iconst X0.here hx rfl (hb hby d3_0) k) ?_
  show own_Go p e s below _ _ _ T0 (mkF m 1 #[.val (.ref a), .val (.ref b), .unset] [(.int (0 : Int32))])
  refine own_st (fun _ k => XS.istoreN X0.here hx rfl (hb hby d3_1) rfl (l' := #[.val (.ref a), .val (.ref b), .val (.int (0 : Int32))]) rfl k) ?_
  show own_Go p e s below _ _ _ T0 (mkF m 2 #[.val (.ref a), .val (.ref b), .val (.int (0 : Int32))] [])
  refine own_st (fun _ k => XS.iloadN X0.here hx rfl (hb hby d3_2) rfl k) ?_
  show own_Go p e s below _ _ _ T0 (mkF m 3 #[.val (.ref a), .val (.ref b), .val (.int (0 : Int32))] [(.int (0 : Int32))])
  refine own_st (fun _ k => XS.aloadN X0.here hx rfl (hb hby d3_3) rfl rfl k) ?_
  show own_Go p e s below _ _ _ T0 (mkF m 4 #[.val (.ref a), .val (.ref b), .val (.int (0 : Int32))] [(.ref a), (.int (0 : Int32))])
  obtain ⟨T45, X45, e45, st45⟩ := getF X0 hx hZ hown (host := "") (Or.inl (hw _ (List.mem_of_getElem? (i := 20) rfl))) Via.refl e0 F_levels_a (g := (mkF m 4 #[.val (.ref a), .val (.ref b), .val (.int (0 : Int32))] [(.ref a), (.int (0 : Int32))])) rfl rfl (hb hby d3_4)
  refine own_st st45 ?_
  show own_Go p e s below _ _ _ T45 (mkF m 7 #[.val (.ref a), .val (.ref b), .val (.int (0 : Int32))] [(.ref d), (.int (0 : Int32))])
  refine own_st (own_len X45 hx hZ e45 V_d (g := (mkF m 7 #[.val (.ref a), .val (.ref b), .val (.int (0 : Int32))] [(.ref d), (.int (0 : Int32))])) rfl rfl (hb hby d3_7)) ?_
  show own_Go p e s below _ _ _ T45 (mkF m 8 #[.val (.ref a), .val (.ref b), .val (.int (0 : Int32))] [(.int (2 : Int32)), (.int (0 : Int32))])
  refine own_st (fun _ k => XS.icmpNo X45.here hx rfl (hb hby d3_8) rfl (by decide) k) ?_
  show own_Go p e s below _ _ _ T45 (mkF m 11 #[.val (.ref a), .val (.ref b), .val (.int (0 : Int32))] [])
  refine own_st (fun _ k => XS.aloadN X45.here hx rfl (hb hby d3_11) rfl rfl k) ?_
  show own_Go p e s below _ _ _ T45 (mkF m 12 #[.val (.ref a), .val (.ref b), .val (.int (0 : Int32))] [(.ref a)])
  obtain ⟨T46, X46, e46, st46⟩ := getF X45 hx hZ hown (host := "") (Or.inl (hw _ (List.mem_of_getElem? (i := 20) rfl))) Via.refl e45 F_levels_a (g := (mkF m 12 #[.val (.ref a), .val (.ref b), .val (.int (0 : Int32))] [(.ref a)])) rfl rfl (hb hby d3_12)
  refine own_st st46 ?_
  show own_Go p e s below _ _ _ T46 (mkF m 15 #[.val (.ref a), .val (.ref b), .val (.int (0 : Int32))] [(.ref d)])
  refine own_st (fun _ k => XS.iloadN X46.here hx rfl (hb hby d3_15) rfl k) ?_
  show own_Go p e s below _ _ _ T46 (mkF m 16 #[.val (.ref a), .val (.ref b), .val (.int (0 : Int32))] [(.int (0 : Int32)), (.ref d)])
  refine own_st (own_ldI X46 hx hZ e46 V_d (j := (0 : Int32)) (x := x0) ⟨by decide, by decide⟩ rfl (g := (mkF m 16 #[.val (.ref a), .val (.ref b), .val (.int (0 : Int32))] [(.int (0 : Int32)), (.ref d)])) rfl rfl (hb hby d3_16)) ?_
  show own_Go p e s below _ _ _ T46 (mkF m 17 #[.val (.ref a), .val (.ref b), .val (.int (0 : Int32))] [(.int x0)])
  refine own_st (fun _ k => XS.aloadN X46.here hx rfl (hb hby d3_17) rfl rfl k) ?_
  show own_Go p e s below _ _ _ T46 (mkF m 18 #[.val (.ref a), .val (.ref b), .val (.int (0 : Int32))] [(.ref b), (.int x0)])
  obtain ⟨T47, X47, e47, st47⟩ := getF X46 hx hZ hown (host := "") (Or.inl (hw _ (List.mem_of_getElem? (i := 20) rfl))) Via.refl e46 F_levels_b (g := (mkF m 18 #[.val (.ref a), .val (.ref b), .val (.int (0 : Int32))] [(.ref b), (.int x0)])) rfl rfl (hb hby d3_18)
  refine own_st st47 ?_
  show own_Go p e s below _ _ _ T47 (mkF m 21 #[.val (.ref a), .val (.ref b), .val (.int (0 : Int32))] [(.ref d'), (.int x0)])
  refine own_st (fun _ k => XS.iloadN X47.here hx rfl (hb hby d3_21) rfl k) ?_
  show own_Go p e s below _ _ _ T47 (mkF m 22 #[.val (.ref a), .val (.ref b), .val (.int (0 : Int32))] [(.int (0 : Int32)), (.ref d'), (.int x0)])
  refine own_st (own_ldI X47 hx hZ e47 V_d' (j := (0 : Int32)) (x := y0) ⟨by decide, by decide⟩ rfl (g := (mkF m 22 #[.val (.ref a), .val (.ref b), .val (.int (0 : Int32))] [(.int (0 : Int32)), (.ref d'), (.int x0)])) rfl rfl (hb hby d3_22)) ?_
  show own_Go p e s below _ _ _ T47 (mkF m 23 #[.val (.ref a), .val (.ref b), .val (.int (0 : Int32))] [(.int y0), (.int x0)])
  by_cases c23_48 : y0 < x0
  · refine own_st (fun _ k => XS.icmpNo X47.here hx rfl (hb hby d3_23) rfl (tlt c23_48).2.2.2 k) ?_
    show own_Go p e s below _ _ _ T47 (mkF m 26 #[.val (.ref a), .val (.ref b), .val (.int (0 : Int32))] [])
    refine own_st (fun _ k => XS.iconst X47.here hx rfl (hb hby d3_26) k) ?_
    show own_Go p e s below _ _ _ T47 (mkF m 27 #[.val (.ref a), .val (.ref b), .val (.int (0 : Int32))] [(.int (0 : Int32))])
    exact own_retN X47 hx hlk (t := .boolean) hret (by simp) (hb hby d3_27) (z' := (0 : Int32)) rfl (by decide) (by decide) ⟨by rw [own_bf (by simp [c23_48])], N0, e47⟩
  · refine own_st (fun _ k => XS.icmpYes X47.here hx rfl (pc0 := 23) (pc' := 28) rfl (hb hby d3_23) rfl (flt c23_48).2.2.2 (by decide) (by decide) k) ?_
    show own_Go p e s below _ _ _ T47 (mkF m 28 #[.val (.ref a), .val (.ref b), .val (.int (0 : Int32))] [])
    refine own_st (fun _ k => XS.iinc X47.here hx rfl (hb hby d3_28) rfl (l' := #[.val (.ref a), .val (.ref b), .val (.int (1 : Int32))]) rfl k) ?_
    show own_Go p e s below _ _ _ T47 (mkF m 31 #[.val (.ref a), .val (.ref b), .val (.int (1 : Int32))] [])
    refine own_st (fun _ k => XS.goto X47.here hx rfl (pc0 := 31) (pc' := 2) rfl (hb hby d3_31) (by decide) (by decide) k) ?_
    show own_Go p e s below _ _ _ T47 (mkF m 2 #[.val (.ref a), .val (.ref b), .val (.int (1 : Int32))] [])
    refine own_st (fun _ k => XS.iloadN X47.here hx rfl (hb hby d3_2) rfl k) ?_
    show own_Go p e s below _ _ _ T47 (mkF m 3 #[.val (.ref a), .val (.ref b), .val (.int (1 : Int32))] [(.int (1 : Int32))])
    refine own_st (fun _ k => XS.aloadN X47.here hx rfl (hb hby d3_3) rfl rfl k) ?_
    show own_Go p e s below _ _ _ T47 (mkF m 4 #[.val (.ref a), .val (.ref b), .val (.int (1 : Int32))] [(.ref a), (.int (1 : Int32))])
    obtain ⟨T49, X49, e49, st49⟩ := getF X47 hx hZ hown (host := "") (Or.inl (hw _ (List.mem_of_getElem? (i := 20) rfl))) Via.refl e47 F_levels_a (g := (mkF m 4 #[.val (.ref a), .val (.ref b), .val (.int (1 : Int32))] [(.ref a), (.int (1 : Int32))])) rfl rfl (hb hby d3_4)
    refine own_st st49 ?_
    show own_Go p e s below _ _ _ T49 (mkF m 7 #[.val (.ref a), .val (.ref b), .val (.int (1 : Int32))] [(.ref d), (.int (1 : Int32))])
    refine own_st (own_len X49 hx hZ e49 V_d (g := (mkF m 7 #[.val (.ref a), .val (.ref b), .val (.int (1 : Int32))] [(.ref d), (.int (1 : Int32))])) rfl rfl (hb hby d3_7)) ?_
    show own_Go p e s below _ _ _ T49 (mkF m 8 #[.val (.ref a), .val (.ref b), .val (.int (1 : Int32))] [(.int (2 : Int32)), (.int (1 : Int32))])
    refine own_st (fun _ k => XS.icmpNo X49.here hx rfl (hb hby d3_8) rfl (by decide) k) ?_
    show own_Go p e s below _ _ _ T49 (mkF m 11 #[.val (.ref a), .val (.ref b), .val (.int (1 : Int32))] [])
    refine own_st (fun _ k => XS.aloadN X49.here hx rfl (hb hby d3_11) rfl rfl k) ?_
    show own_Go p e s below _ _ _ T49 (mkF m 12 #[.val (.ref a), .val (.ref b), .val (.int (1 : Int32))] [(.ref a)])
    obtain ⟨T50, X50, e50, st50⟩ := getF X49 hx hZ hown (host := "") (Or.inl (hw _ (List.mem_of_getElem? (i := 20) rfl))) Via.refl e49 F_levels_a (g := (mkF m 12 #[.val (.ref a), .val (.ref b), .val (.int (1 : Int32))] [(.ref a)])) rfl rfl (hb hby d3_12)
    refine own_st st50 ?_
    show own_Go p e s below _ _ _ T50 (mkF m 15 #[.val (.ref a), .val (.ref b), .val (.int (1 : Int32))] [(.ref d)])
    refine own_st (fun _ k => XS.iloadN X50.here hx rfl (hb hby d3_15) rfl k) ?_
    show own_Go p e s below _ _ _ T50 (mkF m 16 #[.val (.ref a), .val (.ref b), .val (.int (1 : Int32))] [(.int (1 : Int32)), (.ref d)])
    refine own_st (own_ldI X50 hx hZ e50 V_d (j := (1 : Int32)) (x := x1) ⟨by decide, by decide⟩ rfl (g := (mkF m 16 #[.val (.ref a), .val (.ref b), .val (.int (1 : Int32))] [(.int (1 : Int32)), (.ref d)])) rfl rfl (hb hby d3_16)) ?_
    show own_Go p e s below _ _ _ T50 (mkF m 17 #[.val (.ref a), .val (.ref b), .val (.int (1 : Int32))] [(.int x1)])
    refine own_st (fun _ k => XS.aloadN X50.here hx rfl (hb hby d3_17) rfl rfl k) ?_
    show own_Go p e s below _ _ _ T50 (mkF m 18 #[.val (.ref a), .val (.ref b), .val (.int (1 : Int32))] [(.ref b), (.int x1)])
    obtain ⟨T51, X51, e51, st51⟩ := getF X50 hx hZ hown (host := "") (Or.inl (hw _ (List.mem_of_getElem? (i := 20) rfl))) Via.refl e50 F_levels_b (g := (mkF m 18 #[.val (.ref a), .val (.ref b), .val (.int (1 : Int32))] [(.ref b), (.int x1)])) rfl rfl (hb hby d3_18)
    refine own_st st51 ?_
    show own_Go p e s below _ _ _ T51 (mkF m 21 #[.val (.ref a), .val (.ref b), .val (.int (1 : Int32))] [(.ref d'), (.int x1)])
    refine own_st (fun _ k => XS.iloadN X51.here hx rfl (hb hby d3_21) rfl k) ?_
    show own_Go p e s below _ _ _ T51 (mkF m 22 #[.val (.ref a), .val (.ref b), .val (.int (1 : Int32))] [(.int (1 : Int32)), (.ref d'), (.int x1)])
    refine own_st (own_ldI X51 hx hZ e51 V_d' (j := (1 : Int32)) (x := y1) ⟨by decide, by decide⟩ rfl (g := (mkF m 22 #[.val (.ref a), .val (.ref b), .val (.int (1 : Int32))] [(.int (1 : Int32)), (.ref d'), (.int x1)])) rfl rfl (hb hby d3_22)) ?_
    show own_Go p e s below _ _ _ T51 (mkF m 23 #[.val (.ref a), .val (.ref b), .val (.int (1 : Int32))] [(.int y1), (.int x1)])
    by_cases c23_52 : y1 < x1
    · refine own_st (fun _ k => XS.icmpNo X51.here hx rfl (hb hby d3_23) rfl (tlt c23_52).2.2.2 k) ?_
      show own_Go p e s below _ _ _ T51 (mkF m 26 #[.val (.ref a), .val (.ref b), .val (.int (1 : Int32))] [])
      refine own_st (fun _ k => XS.iconst X51.here hx rfl (hb hby d3_26) k) ?_
      show own_Go p e s below _ _ _ T51 (mkF m 27 #[.val (.ref a), .val (.ref b), .val (.int (1 : Int32))] [(.int (0 : Int32))])
      exact own_retN X51 hx hlk (t := .boolean) hret (by simp) (hb hby d3_27) (z' := (0 : Int32)) rfl (by decide) (by decide) ⟨by rw [own_bf (by simp [c23_48, c23_52])], N0, e51⟩
    · refine own_st (fun _ k => XS.icmpYes X51.here hx rfl (pc0 := 23) (pc' := 28) rfl (hb hby d3_23) rfl (flt c23_52).2.2.2 (by decide) (by decide) k) ?_
      show own_Go p e s below _ _ _ T51 (mkF m 28 #[.val (.ref a), .val (.ref b), .val (.int (1 : Int32))] [])
      refine own_st (fun _ k => XS.iinc X51.here hx rfl (hb hby d3_28) rfl (l' := #[.val (.ref a), .val (.ref b), .val (.int (2 : Int32))]) rfl k) ?_
      show own_Go p e s below _ _ _ T51 (mkF m 31 #[.val (.ref a), .val (.ref b), .val (.int (2 : Int32))] [])
      refine own_st (fun _ k => XS.goto X51.here hx rfl (pc0 := 31) (pc' := 2) rfl (hb hby d3_31) (by decide) (by decide) k) ?_
      show own_Go p e s below _ _ _ T51 (mkF m 2 #[.val (.ref a), .val (.ref b), .val (.int (2 : Int32))] [])
      refine own_st (fun _ k => XS.iloadN X51.here hx rfl (hb hby d3_2) rfl k) ?_
      show own_Go p e s below _ _ _ T51 (mkF m 3 #[.val (.ref a), .val (.ref b), .val (.int (2 : Int32))] [(.int (2 : Int32))])
      refine own_st (fun _ k => XS.aloadN X51.here hx rfl (hb hby d3_3) rfl rfl k) ?_
      show own_Go p e s below _ _ _ T51 (mkF m 4 #[.val (.ref a), .val (.ref b), .val (.int (2 : Int32))] [(.ref a), (.int (2 : Int32))])
      obtain ⟨T53, X53, e53, st53⟩ := getF X51 hx hZ hown (host := "") (Or.inl (hw _ (List.mem_of_getElem? (i := 20) rfl))) Via.refl e51 F_levels_a (g := (mkF m 4 #[.val (.ref a), .val (.ref b), .val (.int (2 : Int32))] [(.ref a), (.int (2 : Int32))])) rfl rfl (hb hby d3_4)
      refine own_st st53 ?_
      show own_Go p e s below _ _ _ T53 (mkF m 7 #[.val (.ref a), .val (.ref b), .val (.int (2 : Int32))] [(.ref d), (.int (2 : Int32))])
      refine own_st (own_len X53 hx hZ e53 V_d (g := (mkF m 7 #[.val (.ref a), .val (.ref b), .val (.int (2 : Int32))] [(.ref d), (.int (2 : Int32))])) rfl rfl (hb hby d3_7)) ?_
      show own_Go p e s below _ _ _ T53 (mkF m 8 #[.val (.ref a), .val (.ref b), .val (.int (2 : Int32))] [(.int (2 : Int32)), (.int (2 : Int32))])
      refine own_st (fun _ k => XS.icmpYes X53.here hx rfl (pc0 := 8) (pc' := 34) rfl (hb hby d3_8) rfl (by decide) (by decide) (by decide) k) ?_
      show own_Go p e s below _ _ _ T53 (mkF m 34 #[.val (.ref a), .val (.ref b), .val (.int (2 : Int32))] [])
      refine own_st (fun _ k => XS.iconst X53.here hx rfl (hb hby d3_34) k) ?_
      show own_Go p e s below _ _ _ T53 (mkF m 35 #[.val (.ref a), .val (.ref b), .val (.int (2 : Int32))] [(.int (1 : Int32))])
      exact own_retN X53 hx hlk (t := .boolean) hret (by simp) (hb hby d3_35) (z' := (1 : Int32)) rfl (by decide) (by decide) ⟨by rw [own_bt (by simp [c23_48, c23_52])], N0, e53⟩
theorem ef_rm3_2_3 (m : MethodId) (z0 : Addr) (z1 : Addr) : entryFrame m #[(.ref z0), (.ref z1)] 3 = mkF m 0 #[.val (.ref z0), .val (.ref z1), .unset] [] := by first | (simp [entryFrame, mkF, argsToLocals, Value.category]; done) | rfl
set_option maxRecDepth 65536 in
set_option maxHeartbeats 40000000 in
theorem rm3_2_3 (l : Launch) (Z : State) (a0 : Array Value) (hw : ∀ d ∈ tables_1, d.before a0 Z = true) (ws : List Jvm.Cond) (a b d d' : Addr) (k k' : ClassId) (x0 : Int32) (x1 : Int32) (y0 : Int32) (y1 : Int32) (y2 : Int32) (h0 : Heap) (n0 : Nat) (Z0 : n0 ≤ h0.size) (F_levels_a : Fld Z h0 a "com/example/hush5/hush5/model/Transformation" "levels" "[I" (.ref d)) (F_levels_b : Fld Z h0 b "com/example/hush5/hush5/model/Transformation" "levels" "[I" (.ref d')) (V_d : Arv Z h0 d k .int (2 : Int32) [(.int x0), (.int x1)] (.int (0 : Int32))) (V_d' : Arv Z h0 d' k' .int (3 : Int32) [(.int y0), (.int y1), (.int y2)] (.int (0 : Int32))) :
    own_Met l Z (⟨"com/example/hush5/hush5/model/Transformation", "liesAtOrBelow", "(Lcom/example/hush5/hush5/model/Transformation;)Z"⟩ : MethodName) prog_36_method_5_code 3 (some .boolean) ({ frames := 0, cells := 0, slots := 0, locals := 0 } : Room) ws #[(.ref a), (.ref b)] h0 (fun v h L => v = some (.int (own_b (¬ y0 < x0 ∧ ¬ y1 < x1))) ∧ Fr n0 L ∧ h = h0) 0 0 := by
  refine own_enter pf3 (fun m => ef_rm3_2_3 m a b) ?_
  intro p e s m below meth c T0 hx hby hml hown hnm hret hlk hZ X0 e0
  have N0 := Fr.nil n0
  show own_Go p e s below _ _ _ T0 (mkF m 0 #[.val (.ref a), .val (.ref b), .unset] [])
  refine own_st (fun _ k => XS.iconst X0.here hx rfl (hb hby d3_0) k) ?_
  show own_Go p e s below _ _ _ T0 (mkF m 1 #[.val (.ref a), .val (.ref b), .unset] [(.int (0 : Int32))])
  refine own_st (fun _ k => XS.istoreN X0.here hx rfl (hb hby d3_1) rfl (l' := #[.val (.ref a), .val (.ref b), .val (.int (0 : Int32))]) rfl k) ?_
  show own_Go p e s below _ _ _ T0 (mkF m 2 #[.val (.ref a), .val (.ref b), .val (.int (0 : Int32))] [])
  refine own_st (fun _ k => XS.iloadN X0.here hx rfl (hb hby d3_2) rfl k) ?_
  show own_Go p e s below _ _ _ T0 (mkF m 3 #[.val (.ref a), .val (.ref b), .val (.int (0 : Int32))] [(.int (0 : Int32))])
  refine own_st (fun _ k => XS.aloadN X0.here hx rfl (hb hby d3_3) rfl rfl k) ?_
  show own_Go p e s below _ _ _ T0 (mkF m 4 #[.val (.ref a), .val (.ref b), .val (.int (0 : Int32))] [(.ref a), (.int (0 : Int32))])
  obtain ⟨T54, X54, e54, st54⟩ := getF X0 hx hZ hown (host := "") (Or.inl (hw _ (List.mem_of_getElem? (i := 20) rfl))) Via.refl e0 F_levels_a (g := (mkF m 4 #[.val (.ref a), .val (.ref b), .val (.int (0 : Int32))] [(.ref a), (.int (0 : Int32))])) rfl rfl (hb hby d3_4)
  refine own_st st54 ?_
  show own_Go p e s below _ _ _ T54 (mkF m 7 #[.val (.ref a), .val (.ref b), .val (.int (0 : Int32))] [(.ref d), (.int (0 : Int32))])
  refine own_st (own_len X54 hx hZ e54 V_d (g := (mkF m 7 #[.val (.ref a), .val (.ref b), .val (.int (0 : Int32))] [(.ref d), (.int (0 : Int32))])) rfl rfl (hb hby d3_7)) ?_
  show own_Go p e s below _ _ _ T54 (mkF m 8 #[.val (.ref a), .val (.ref b), .val (.int (0 : Int32))] [(.int (2 : Int32)), (.int (0 : Int32))])
  refine own_st (fun _ k => XS.icmpNo X54.here hx rfl (hb hby d3_8) rfl (by decide) k) ?_
  show own_Go p e s below _ _ _ T54 (mkF m 11 #[.val (.ref a), .val (.ref b), .val (.int (0 : Int32))] [])
  refine own_st (fun _ k => XS.aloadN X54.here hx rfl (hb hby d3_11) rfl rfl k) ?_
  show own_Go p e s below _ _ _ T54 (mkF m 12 #[.val (.ref a), .val (.ref b), .val (.int (0 : Int32))] [(.ref a)])
  obtain ⟨T55, X55, e55, st55⟩ := getF X54 hx hZ hown (host := "") (Or.inl (hw _ (List.mem_of_getElem? (i := 20) rfl))) Via.refl e54 F_levels_a (g := (mkF m 12 #[.val (.ref a), .val (.ref b), .val (.int (0 : Int32))] [(.ref a)])) rfl rfl (hb hby d3_12)
  refine own_st st55 ?_
  show own_Go p e s below _ _ _ T55 (mkF m 15 #[.val (.ref a), .val (.ref b), .val (.int (0 : Int32))] [(.ref d)])
  refine own_st (fun _ k => XS.iloadN X55.here hx rfl (hb hby d3_15) rfl k) ?_
  show own_Go p e s below _ _ _ T55 (mkF m 16 #[.val (.ref a), .val (.ref b), .val (.int (0 : Int32))] [(.int (0 : Int32)), (.ref d)])
  refine own_st (own_ldI X55 hx hZ e55 V_d (j := (0 : Int32)) (x := x0) ⟨by decide, by decide⟩ rfl (g := (mkF m 16 #[.val (.ref a), .val (.ref b), .val (.int (0 : Int32))] [(.int (0 : Int32)), (.ref d)])) rfl rfl (hb hby d3_16)) ?_
  show own_Go p e s below _ _ _ T55 (mkF m 17 #[.val (.ref a), .val (.ref b), .val (.int (0 : Int32))] [(.int x0)])
  refine own_st (fun _ k => XS.aloadN X55.here hx rfl (hb hby d3_17) rfl rfl k) ?_
  show own_Go p e s below _ _ _ T55 (mkF m 18 #[.val (.ref a), .val (.ref b), .val (.int (0 : Int32))] [(.ref b), (.int x0)])
  obtain ⟨T56, X56, e56, st56⟩ := getF X55 hx hZ hown (host := "") (Or.inl (hw _ (List.mem_of_getElem? (i := 20) rfl))) Via.refl e55 F_levels_b (g := (mkF m 18 #[.val (.ref a), .val (.ref b), .val (.int (0 : Int32))] [(.ref b), (.int x0)])) rfl rfl (hb hby d3_18)
  refine own_st st56 ?_
  show own_Go p e s below _ _ _ T56 (mkF m 21 #[.val (.ref a), .val (.ref b), .val (.int (0 : Int32))] [(.ref d'), (.int x0)])
  refine own_st (fun _ k => XS.iloadN X56.here hx rfl (hb hby d3_21) rfl k) ?_
  show own_Go p e s below _ _ _ T56 (mkF m 22 #[.val (.ref a), .val (.ref b), .val (.int (0 : Int32))] [(.int (0 : Int32)), (.ref d'), (.int x0)])
  refine own_st (own_ldI X56 hx hZ e56 V_d' (j := (0 : Int32)) (x := y0) ⟨by decide, by decide⟩ rfl (g := (mkF m 22 #[.val (.ref a), .val (.ref b), .val (.int (0 : Int32))] [(.int (0 : Int32)), (.ref d'), (.int x0)])) rfl rfl (hb hby d3_22)) ?_
  show own_Go p e s below _ _ _ T56 (mkF m 23 #[.val (.ref a), .val (.ref b), .val (.int (0 : Int32))] [(.int y0), (.int x0)])
  by_cases c23_57 : y0 < x0
  · refine own_st (fun _ k => XS.icmpNo X56.here hx rfl (hb hby d3_23) rfl (tlt c23_57).2.2.2 k) ?_
    show own_Go p e s below _ _ _ T56 (mkF m 26 #[.val (.ref a), .val (.ref b), .val (.int (0 : Int32))] [])
    refine own_st (fun _ k => XS.iconst X56.here hx rfl (hb hby d3_26) k) ?_
    show own_Go p e s below _ _ _ T56 (mkF m 27 #[.val (.ref a), .val (.ref b), .val (.int (0 : Int32))] [(.int (0 : Int32))])
    exact own_retN X56 hx hlk (t := .boolean) hret (by simp) (hb hby d3_27) (z' := (0 : Int32)) rfl (by decide) (by decide) ⟨by rw [own_bf (by simp [c23_57])], N0, e56⟩
  · refine own_st (fun _ k => XS.icmpYes X56.here hx rfl (pc0 := 23) (pc' := 28) rfl (hb hby d3_23) rfl (flt c23_57).2.2.2 (by decide) (by decide) k) ?_
    show own_Go p e s below _ _ _ T56 (mkF m 28 #[.val (.ref a), .val (.ref b), .val (.int (0 : Int32))] [])
    refine own_st (fun _ k => XS.iinc X56.here hx rfl (hb hby d3_28) rfl (l' := #[.val (.ref a), .val (.ref b), .val (.int (1 : Int32))]) rfl k) ?_
    show own_Go p e s below _ _ _ T56 (mkF m 31 #[.val (.ref a), .val (.ref b), .val (.int (1 : Int32))] [])
    refine own_st (fun _ k => XS.goto X56.here hx rfl (pc0 := 31) (pc' := 2) rfl (hb hby d3_31) (by decide) (by decide) k) ?_
    show own_Go p e s below _ _ _ T56 (mkF m 2 #[.val (.ref a), .val (.ref b), .val (.int (1 : Int32))] [])
    refine own_st (fun _ k => XS.iloadN X56.here hx rfl (hb hby d3_2) rfl k) ?_
    show own_Go p e s below _ _ _ T56 (mkF m 3 #[.val (.ref a), .val (.ref b), .val (.int (1 : Int32))] [(.int (1 : Int32))])
    refine own_st (fun _ k => XS.aloadN X56.here hx rfl (hb hby d3_3) rfl rfl k) ?_
    show own_Go p e s below _ _ _ T56 (mkF m 4 #[.val (.ref a), .val (.ref b), .val (.int (1 : Int32))] [(.ref a), (.int (1 : Int32))])
    obtain ⟨T58, X58, e58, st58⟩ := getF X56 hx hZ hown (host := "") (Or.inl (hw _ (List.mem_of_getElem? (i := 20) rfl))) Via.refl e56 F_levels_a (g := (mkF m 4 #[.val (.ref a), .val (.ref b), .val (.int (1 : Int32))] [(.ref a), (.int (1 : Int32))])) rfl rfl (hb hby d3_4)
    refine own_st st58 ?_
    show own_Go p e s below _ _ _ T58 (mkF m 7 #[.val (.ref a), .val (.ref b), .val (.int (1 : Int32))] [(.ref d), (.int (1 : Int32))])
    refine own_st (own_len X58 hx hZ e58 V_d (g := (mkF m 7 #[.val (.ref a), .val (.ref b), .val (.int (1 : Int32))] [(.ref d), (.int (1 : Int32))])) rfl rfl (hb hby d3_7)) ?_
    show own_Go p e s below _ _ _ T58 (mkF m 8 #[.val (.ref a), .val (.ref b), .val (.int (1 : Int32))] [(.int (2 : Int32)), (.int (1 : Int32))])
    refine own_st (fun _ k => XS.icmpNo X58.here hx rfl (hb hby d3_8) rfl (by decide) k) ?_
    show own_Go p e s below _ _ _ T58 (mkF m 11 #[.val (.ref a), .val (.ref b), .val (.int (1 : Int32))] [])
    refine own_st (fun _ k => XS.aloadN X58.here hx rfl (hb hby d3_11) rfl rfl k) ?_
    show own_Go p e s below _ _ _ T58 (mkF m 12 #[.val (.ref a), .val (.ref b), .val (.int (1 : Int32))] [(.ref a)])
    obtain ⟨T59, X59, e59, st59⟩ := getF X58 hx hZ hown (host := "") (Or.inl (hw _ (List.mem_of_getElem? (i := 20) rfl))) Via.refl e58 F_levels_a (g := (mkF m 12 #[.val (.ref a), .val (.ref b), .val (.int (1 : Int32))] [(.ref a)])) rfl rfl (hb hby d3_12)
    refine own_st st59 ?_
    show own_Go p e s below _ _ _ T59 (mkF m 15 #[.val (.ref a), .val (.ref b), .val (.int (1 : Int32))] [(.ref d)])
    refine own_st (fun _ k => XS.iloadN X59.here hx rfl (hb hby d3_15) rfl k) ?_
    show own_Go p e s below _ _ _ T59 (mkF m 16 #[.val (.ref a), .val (.ref b), .val (.int (1 : Int32))] [(.int (1 : Int32)), (.ref d)])
    refine own_st (own_ldI X59 hx hZ e59 V_d (j := (1 : Int32)) (x := x1) ⟨by decide, by decide⟩ rfl (g := (mkF m 16 #[.val (.ref a), .val (.ref b), .val (.int (1 : Int32))] [(.int (1 : Int32)), (.ref d)])) rfl rfl (hb hby d3_16)) ?_
    show own_Go p e s below _ _ _ T59 (mkF m 17 #[.val (.ref a), .val (.ref b), .val (.int (1 : Int32))] [(.int x1)])
    refine own_st (fun _ k => XS.aloadN X59.here hx rfl (hb hby d3_17) rfl rfl k) ?_
    show own_Go p e s below _ _ _ T59 (mkF m 18 #[.val (.ref a), .val (.ref b), .val (.int (1 : Int32))] [(.ref b), (.int x1)])
    obtain ⟨T60, X60, e60, st60⟩ := getF X59 hx hZ hown (host := "") (Or.inl (hw _ (List.mem_of_getElem? (i := 20) rfl))) Via.refl e59 F_levels_b (g := (mkF m 18 #[.val (.ref a), .val (.ref b), .val (.int (1 : Int32))] [(.ref b), (.int x1)])) rfl rfl (hb hby d3_18)
    refine own_st st60 ?_
    show own_Go p e s below _ _ _ T60 (mkF m 21 #[.val (.ref a), .val (.ref b), .val (.int (1 : Int32))] [(.ref d'), (.int x1)])
    refine own_st (fun _ k => XS.iloadN X60.here hx rfl (hb hby d3_21) rfl k) ?_
    show own_Go p e s below _ _ _ T60 (mkF m 22 #[.val (.ref a), .val (.ref b), .val (.int (1 : Int32))] [(.int (1 : Int32)), (.ref d'), (.int x1)])
    refine own_st (own_ldI X60 hx hZ e60 V_d' (j := (1 : Int32)) (x := y1) ⟨by decide, by decide⟩ rfl (g := (mkF m 22 #[.val (.ref a), .val (.ref b), .val (.int (1 : Int32))] [(.int (1 : Int32)), (.ref d'), (.int x1)])) rfl rfl (hb hby d3_22)) ?_
    show own_Go p e s below _ _ _ T60 (mkF m 23 #[.val (.ref a), .val (.ref b), .val (.int (1 : Int32))] [(.int y1), (.int x1)])
    by_cases c23_61 : y1 < x1
    · refine own_st (fun _ k => XS.icmpNo X60.here hx rfl (hb hby d3_23) rfl (tlt c23_61).2.2.2 k) ?_
      show own_Go p e s below _ _ _ T60 (mkF m 26 #[.val (.ref a), .val (.ref b), .val (.int (1 : Int32))] [])
      refine own_st (fun _ k => XS.iconst X60.here hx rfl (hb hby d3_26) k) ?_
      show own_Go p e s below _ _ _ T60 (mkF m 27 #[.val (.ref a), .val (.ref b), .val (.int (1 : Int32))] [(.int (0 : Int32))])
      exact own_retN X60 hx hlk (t := .boolean) hret (by simp) (hb hby d3_27) (z' := (0 : Int32)) rfl (by decide) (by decide) ⟨by rw [own_bf (by simp [c23_57, c23_61])], N0, e60⟩
    · refine own_st (fun _ k => XS.icmpYes X60.here hx rfl (pc0 := 23) (pc' := 28) rfl (hb hby d3_23) rfl (flt c23_61).2.2.2 (by decide) (by decide) k) ?_
      show own_Go p e s below _ _ _ T60 (mkF m 28 #[.val (.ref a), .val (.ref b), .val (.int (1 : Int32))] [])
      refine own_st (fun _ k => XS.iinc X60.here hx rfl (hb hby d3_28) rfl (l' := #[.val (.ref a), .val (.ref b), .val (.int (2 : Int32))]) rfl k) ?_
      show own_Go p e s below _ _ _ T60 (mkF m 31 #[.val (.ref a), .val (.ref b), .val (.int (2 : Int32))] [])
      refine own_st (fun _ k => XS.goto X60.here hx rfl (pc0 := 31) (pc' := 2) rfl (hb hby d3_31) (by decide) (by decide) k) ?_
      show own_Go p e s below _ _ _ T60 (mkF m 2 #[.val (.ref a), .val (.ref b), .val (.int (2 : Int32))] [])
      refine own_st (fun _ k => XS.iloadN X60.here hx rfl (hb hby d3_2) rfl k) ?_
      show own_Go p e s below _ _ _ T60 (mkF m 3 #[.val (.ref a), .val (.ref b), .val (.int (2 : Int32))] [(.int (2 : Int32))])
      refine own_st (fun _ k => XS.aloadN X60.here hx rfl (hb hby d3_3) rfl rfl k) ?_
      show own_Go p e s below _ _ _ T60 (mkF m 4 #[.val (.ref a), .val (.ref b), .val (.int (2 : Int32))] [(.ref a), (.int (2 : Int32))])
      obtain ⟨T62, X62, e62, st62⟩ := getF X60 hx hZ hown (host := "") (Or.inl (hw _ (List.mem_of_getElem? (i := 20) rfl))) Via.refl e60 F_levels_a (g := (mkF m 4 #[.val (.ref a), .val (.ref b), .val (.int (2 : Int32))] [(.ref a), (.int (2 : Int32))])) rfl rfl (hb hby d3_4)
      refine own_st st62 ?_
      show own_Go p e s below _ _ _ T62 (mkF m 7 #[.val (.ref a), .val (.ref b), .val (.int (2 : Int32))] [(.ref d), (.int (2 : Int32))])
      refine own_st (own_len X62 hx hZ e62 V_d (g := (mkF m 7 #[.val (.ref a), .val (.ref b), .val (.int (2 : Int32))] [(.ref d), (.int (2 : Int32))])) rfl rfl (hb hby d3_7)) ?_
      show own_Go p e s below _ _ _ T62 (mkF m 8 #[.val (.ref a), .val (.ref b), .val (.int (2 : Int32))] [(.int (2 : Int32)), (.int (2 : Int32))])
      refine own_st (fun _ k => XS.icmpYes X62.here hx rfl (pc0 := 8) (pc' := 34) rfl (hb hby d3_8) rfl (by decide) (by decide) (by decide) k) ?_
      show own_Go p e s below _ _ _ T62 (mkF m 34 #[.val (.ref a), .val (.ref b), .val (.int (2 : Int32))] [])
      refine own_st (fun _ k => XS.iconst X62.here hx rfl (hb hby d3_34) k) ?_
      show own_Go p e s below _ _ _ T62 (mkF m 35 #[.val (.ref a), .val (.ref b), .val (.int (2 : Int32))] [(.int (1 : Int32))])
      exact own_retN X62 hx hlk (t := .boolean) hret (by simp) (hb hby d3_35) (z' := (1 : Int32)) rfl (by decide) (by decide) ⟨by rw [own_bt (by simp [c23_57, c23_61])], N0, e62⟩
theorem ef_rm3_3_3 (m : MethodId) (z0 : Addr) (z1 : Addr) : entryFrame m #[(.ref z0), (.ref z1)] 3 = mkF m 0 #[.val (.ref z0), .val (.ref z1), .unset] [] := by first | (simp [entryFrame, mkF, argsToLocals, Value.category]; done) | rfl
set_option maxRecDepth 65536 in
set_option maxHeartbeats 40000000 in
theorem rm3_3_3 (l : Launch) (Z : State) (a0 : Array Value) (hw : ∀ d ∈ tables_1, d.before a0 Z = true) (ws : List Jvm.Cond) (a b d d' : Addr) (k k' : ClassId) (x0 : Int32) (x1 : Int32) (x2 : Int32) (y0 : Int32) (y1 : Int32) (y2 : Int32) (h0 : Heap) (n0 : Nat) (Z0 : n0 ≤ h0.size) (F_levels_a : Fld Z h0 a "com/example/hush5/hush5/model/Transformation" "levels" "[I" (.ref d)) (F_levels_b : Fld Z h0 b "com/example/hush5/hush5/model/Transformation" "levels" "[I" (.ref d')) (V_d : Arv Z h0 d k .int (3 : Int32) [(.int x0), (.int x1), (.int x2)] (.int (0 : Int32))) (V_d' : Arv Z h0 d' k' .int (3 : Int32) [(.int y0), (.int y1), (.int y2)] (.int (0 : Int32))) :
    own_Met l Z (⟨"com/example/hush5/hush5/model/Transformation", "liesAtOrBelow", "(Lcom/example/hush5/hush5/model/Transformation;)Z"⟩ : MethodName) prog_36_method_5_code 3 (some .boolean) ({ frames := 0, cells := 0, slots := 0, locals := 0 } : Room) ws #[(.ref a), (.ref b)] h0 (fun v h L => v = some (.int (own_b (¬ y0 < x0 ∧ ¬ y1 < x1 ∧ ¬ y2 < x2))) ∧ Fr n0 L ∧ h = h0) 0 0 := by
  refine own_enter pf3 (fun m => ef_rm3_3_3 m a b) ?_
  intro p e s m below meth c T0 hx hby hml hown hnm hret hlk hZ X0 e0
  have N0 := Fr.nil n0
  show own_Go p e s below _ _ _ T0 (mkF m 0 #[.val (.ref a), .val (.ref b), .unset] [])
  refine own_st (fun _ k => XS.iconst X0.here hx rfl (hb hby d3_0) k) ?_
  show own_Go p e s below _ _ _ T0 (mkF m 1 #[.val (.ref a), .val (.ref b), .unset] [(.int (0 : Int32))])
  refine own_st (fun _ k => XS.istoreN X0.here hx rfl (hb hby d3_1) rfl (l' := #[.val (.ref a), .val (.ref b), .val (.int (0 : Int32))]) rfl k) ?_
  show own_Go p e s below _ _ _ T0 (mkF m 2 #[.val (.ref a), .val (.ref b), .val (.int (0 : Int32))] [])
  refine own_st (fun _ k => XS.iloadN X0.here hx rfl (hb hby d3_2) rfl k) ?_
  show own_Go p e s below _ _ _ T0 (mkF m 3 #[.val (.ref a), .val (.ref b), .val (.int (0 : Int32))] [(.int (0 : Int32))])
  refine own_st (fun _ k => XS.aloadN X0.here hx rfl (hb hby d3_3) rfl rfl k) ?_
  show own_Go p e s below _ _ _ T0 (mkF m 4 #[.val (.ref a), .val (.ref b), .val (.int (0 : Int32))] [(.ref a), (.int (0 : Int32))])
  obtain ⟨T63, X63, e63, st63⟩ := getF X0 hx hZ hown (host := "") (Or.inl (hw _ (List.mem_of_getElem? (i := 20) rfl))) Via.refl e0 F_levels_a (g := (mkF m 4 #[.val (.ref a), .val (.ref b), .val (.int (0 : Int32))] [(.ref a), (.int (0 : Int32))])) rfl rfl (hb hby d3_4)
  refine own_st st63 ?_
  show own_Go p e s below _ _ _ T63 (mkF m 7 #[.val (.ref a), .val (.ref b), .val (.int (0 : Int32))] [(.ref d), (.int (0 : Int32))])
  refine own_st (own_len X63 hx hZ e63 V_d (g := (mkF m 7 #[.val (.ref a), .val (.ref b), .val (.int (0 : Int32))] [(.ref d), (.int (0 : Int32))])) rfl rfl (hb hby d3_7)) ?_
  show own_Go p e s below _ _ _ T63 (mkF m 8 #[.val (.ref a), .val (.ref b), .val (.int (0 : Int32))] [(.int (3 : Int32)), (.int (0 : Int32))])
  refine own_st (fun _ k => XS.icmpNo X63.here hx rfl (hb hby d3_8) rfl (by decide) k) ?_
  show own_Go p e s below _ _ _ T63 (mkF m 11 #[.val (.ref a), .val (.ref b), .val (.int (0 : Int32))] [])
  refine own_st (fun _ k => XS.aloadN X63.here hx rfl (hb hby d3_11) rfl rfl k) ?_
  show own_Go p e s below _ _ _ T63 (mkF m 12 #[.val (.ref a), .val (.ref b), .val (.int (0 : Int32))] [(.ref a)])
  obtain ⟨T64, X64, e64, st64⟩ := getF X63 hx hZ hown (host := "") (Or.inl (hw _ (List.mem_of_getElem? (i := 20) rfl))) Via.refl e63 F_levels_a (g := (mkF m 12 #[.val (.ref a), .val (.ref b), .val (.int (0 : Int32))] [(.ref a)])) rfl rfl (hb hby d3_12)
  refine own_st st64 ?_
  show own_Go p e s below _ _ _ T64 (mkF m 15 #[.val (.ref a), .val (.ref b), .val (.int (0 : Int32))] [(.ref d)])
  refine own_st (fun _ k => XS.iloadN X64.here hx rfl (hb hby d3_15) rfl k) ?_
  show own_Go p e s below _ _ _ T64 (mkF m 16 #[.val (.ref a), .val (.ref b), .val (.int (0 : Int32))] [(.int (0 : Int32)), (.ref d)])
  refine own_st (own_ldI X64 hx hZ e64 V_d (j := (0 : Int32)) (x := x0) ⟨by decide, by decide⟩ rfl (g := (mkF m 16 #[.val (.ref a), .val (.ref b), .val (.int (0 : Int32))] [(.int (0 : Int32)), (.ref d)])) rfl rfl (hb hby d3_16)) ?_
  show own_Go p e s below _ _ _ T64 (mkF m 17 #[.val (.ref a), .val (.ref b), .val (.int (0 : Int32))] [(.int x0)])
  refine own_st (fun _ k => XS.aloadN X64.here hx rfl (hb hby d3_17) rfl rfl k) ?_
  show own_Go p e s below _ _ _ T64 (mkF m 18 #[.val (.ref a), .val (.ref b), .val (.int (0 : Int32))] [(.ref b), (.int x0)])
  obtain ⟨T65, X65, e65, st65⟩ := getF X64 hx hZ hown (host := "") (Or.inl (hw _ (List.mem_of_getElem? (i := 20) rfl))) Via.refl e64 F_levels_b (g := (mkF m 18 #[.val (.ref a), .val (.ref b), .val (.int (0 : Int32))] [(.ref b), (.int x0)])) rfl rfl (hb hby d3_18)
  refine own_st st65 ?_
  show own_Go p e s below _ _ _ T65 (mkF m 21 #[.val (.ref a), .val (.ref b), .val (.int (0 : Int32))] [(.ref d'), (.int x0)])
  refine own_st (fun _ k => XS.iloadN X65.here hx rfl (hb hby d3_21) rfl k) ?_
  show own_Go p e s below _ _ _ T65 (mkF m 22 #[.val (.ref a), .val (.ref b), .val (.int (0 : Int32))] [(.int (0 : Int32)), (.ref d'), (.int x0)])
  refine own_st (own_ldI X65 hx hZ e65 V_d' (j := (0 : Int32)) (x := y0) ⟨by decide, by decide⟩ rfl (g := (mkF m 22 #[.val (.ref a), .val (.ref b), .val (.int (0 : Int32))] [(.int (0 : Int32)), (.ref d'), (.int x0)])) rfl rfl (hb hby d3_22)) ?_
  show own_Go p e s below _ _ _ T65 (mkF m 23 #[.val (.ref a), .val (.ref b), .val (.int (0 : Int32))] [(.int y0), (.int x0)])
  by_cases c23_66 : y0 < x0
  · refine own_st (fun _ k => XS.icmpNo X65.here hx rfl (hb hby d3_23) rfl (tlt c23_66).2.2.2 k) ?_
    show own_Go p e s below _ _ _ T65 (mkF m 26 #[.val (.ref a), .val (.ref b), .val (.int (0 : Int32))] [])
    refine own_st (fun _ k => XS.iconst X65.here hx rfl (hb hby d3_26) k) ?_
    show own_Go p e s below _ _ _ T65 (mkF m 27 #[.val (.ref a), .val (.ref b), .val (.int (0 : Int32))] [(.int (0 : Int32))])
    exact own_retN X65 hx hlk (t := .boolean) hret (by simp) (hb hby d3_27) (z' := (0 : Int32)) rfl (by decide) (by decide) ⟨by rw [own_bf (by simp [c23_66])], N0, e65⟩
  · refine own_st (fun _ k => XS.icmpYes X65.here hx rfl (pc0 := 23) (pc' := 28) rfl (hb hby d3_23) rfl (flt c23_66).2.2.2 (by decide) (by decide) k) ?_
    show own_Go p e s below _ _ _ T65 (mkF m 28 #[.val (.ref a), .val (.ref b), .val (.int (0 : Int32))] [])
    refine own_st (fun _ k => XS.iinc X65.here hx rfl (hb hby d3_28) rfl (l' := #[.val (.ref a), .val (.ref b), .val (.int (1 : Int32))]) rfl k) ?_
    show own_Go p e s below _ _ _ T65 (mkF m 31 #[.val (.ref a), .val (.ref b), .val (.int (1 : Int32))] [])
    refine own_st (fun _ k => XS.goto X65.here hx rfl (pc0 := 31) (pc' := 2) rfl (hb hby d3_31) (by decide) (by decide) k) ?_
    show own_Go p e s below _ _ _ T65 (mkF m 2 #[.val (.ref a), .val (.ref b), .val (.int (1 : Int32))] [])
    refine own_st (fun _ k => XS.iloadN X65.here hx rfl (hb hby d3_2) rfl k) ?_
    show own_Go p e s below _ _ _ T65 (mkF m 3 #[.val (.ref a), .val (.ref b), .val (.int (1 : Int32))] [(.int (1 : Int32))])
    refine own_st (fun _ k => XS.aloadN X65.here hx rfl (hb hby d3_3) rfl rfl k) ?_
    show own_Go p e s below _ _ _ T65 (mkF m 4 #[.val (.ref a), .val (.ref b), .val (.int (1 : Int32))] [(.ref a), (.int (1 : Int32))])
    obtain ⟨T67, X67, e67, st67⟩ := getF X65 hx hZ hown (host := "") (Or.inl (hw _ (List.mem_of_getElem? (i := 20) rfl))) Via.refl e65 F_levels_a (g := (mkF m 4 #[.val (.ref a), .val (.ref b), .val (.int (1 : Int32))] [(.ref a), (.int (1 : Int32))])) rfl rfl (hb hby d3_4)
    refine own_st st67 ?_
    show own_Go p e s below _ _ _ T67 (mkF m 7 #[.val (.ref a), .val (.ref b), .val (.int (1 : Int32))] [(.ref d), (.int (1 : Int32))])
    refine own_st (own_len X67 hx hZ e67 V_d (g := (mkF m 7 #[.val (.ref a), .val (.ref b), .val (.int (1 : Int32))] [(.ref d), (.int (1 : Int32))])) rfl rfl (hb hby d3_7)) ?_
    show own_Go p e s below _ _ _ T67 (mkF m 8 #[.val (.ref a), .val (.ref b), .val (.int (1 : Int32))] [(.int (3 : Int32)), (.int (1 : Int32))])
    refine own_st (fun _ k => XS.icmpNo X67.here hx rfl (hb hby d3_8) rfl (by decide) k) ?_
    show own_Go p e s below _ _ _ T67 (mkF m 11 #[.val (.ref a), .val (.ref b), .val (.int (1 : Int32))] [])
    refine own_st (fun _ k => XS.aloadN X67.here hx rfl (hb hby d3_11) rfl rfl k) ?_
    show own_Go p e s below _ _ _ T67 (mkF m 12 #[.val (.ref a), .val (.ref b), .val (.int (1 : Int32))] [(.ref a)])
    obtain ⟨T68, X68, e68, st68⟩ := getF X67 hx hZ hown (host := "") (Or.inl (hw _ (List.mem_of_getElem? (i := 20) rfl))) Via.refl e67 F_levels_a (g := (mkF m 12 #[.val (.ref a), .val (.ref b), .val (.int (1 : Int32))] [(.ref a)])) rfl rfl (hb hby d3_12)
    refine own_st st68 ?_
    show own_Go p e s below _ _ _ T68 (mkF m 15 #[.val (.ref a), .val (.ref b), .val (.int (1 : Int32))] [(.ref d)])
    refine own_st (fun _ k => XS.iloadN X68.here hx rfl (hb hby d3_15) rfl k) ?_
    show own_Go p e s below _ _ _ T68 (mkF m 16 #[.val (.ref a), .val (.ref b), .val (.int (1 : Int32))] [(.int (1 : Int32)), (.ref d)])
    refine own_st (own_ldI X68 hx hZ e68 V_d (j := (1 : Int32)) (x := x1) ⟨by decide, by decide⟩ rfl (g := (mkF m 16 #[.val (.ref a), .val (.ref b), .val (.int (1 : Int32))] [(.int (1 : Int32)), (.ref d)])) rfl rfl (hb hby d3_16)) ?_
    show own_Go p e s below _ _ _ T68 (mkF m 17 #[.val (.ref a), .val (.ref b), .val (.int (1 : Int32))] [(.int x1)])
    refine own_st (fun _ k => XS.aloadN X68.here hx rfl (hb hby d3_17) rfl rfl k) ?_
    show own_Go p e s below _ _ _ T68 (mkF m 18 #[.val (.ref a), .val (.ref b), .val (.int (1 : Int32))] [(.ref b), (.int x1)])
    obtain ⟨T69, X69, e69, st69⟩ := getF X68 hx hZ hown (host := "") (Or.inl (hw _ (List.mem_of_getElem? (i := 20) rfl))) Via.refl e68 F_levels_b (g := (mkF m 18 #[.val (.ref a), .val (.ref b), .val (.int (1 : Int32))] [(.ref b), (.int x1)])) rfl rfl (hb hby d3_18)
    refine own_st st69 ?_
    show own_Go p e s below _ _ _ T69 (mkF m 21 #[.val (.ref a), .val (.ref b), .val (.int (1 : Int32))] [(.ref d'), (.int x1)])
    refine own_st (fun _ k => XS.iloadN X69.here hx rfl (hb hby d3_21) rfl k) ?_
    show own_Go p e s below _ _ _ T69 (mkF m 22 #[.val (.ref a), .val (.ref b), .val (.int (1 : Int32))] [(.int (1 : Int32)), (.ref d'), (.int x1)])
    refine own_st (own_ldI X69 hx hZ e69 V_d' (j := (1 : Int32)) (x := y1) ⟨by decide, by decide⟩ rfl (g := (mkF m 22 #[.val (.ref a), .val (.ref b), .val (.int (1 : Int32))] [(.int (1 : Int32)), (.ref d'), (.int x1)])) rfl rfl (hb hby d3_22)) ?_
    show own_Go p e s below _ _ _ T69 (mkF m 23 #[.val (.ref a), .val (.ref b), .val (.int (1 : Int32))] [(.int y1), (.int x1)])
    by_cases c23_70 : y1 < x1
    · refine own_st (fun _ k => XS.icmpNo X69.here hx rfl (hb hby d3_23) rfl (tlt c23_70).2.2.2 k) ?_
      show own_Go p e s below _ _ _ T69 (mkF m 26 #[.val (.ref a), .val (.ref b), .val (.int (1 : Int32))] [])
      refine own_st (fun _ k => XS.iconst X69.here hx rfl (hb hby d3_26) k) ?_
      show own_Go p e s below _ _ _ T69 (mkF m 27 #[.val (.ref a), .val (.ref b), .val (.int (1 : Int32))] [(.int (0 : Int32))])
      exact own_retN X69 hx hlk (t := .boolean) hret (by simp) (hb hby d3_27) (z' := (0 : Int32)) rfl (by decide) (by decide) ⟨by rw [own_bf (by simp [c23_66, c23_70])], N0, e69⟩
    · refine own_st (fun _ k => XS.icmpYes X69.here hx rfl (pc0 := 23) (pc' := 28) rfl (hb hby d3_23) rfl (flt c23_70).2.2.2 (by decide) (by decide) k) ?_
      show own_Go p e s below _ _ _ T69 (mkF m 28 #[.val (.ref a), .val (.ref b), .val (.int (1 : Int32))] [])
      refine own_st (fun _ k => XS.iinc X69.here hx rfl (hb hby d3_28) rfl (l' := #[.val (.ref a), .val (.ref b), .val (.int (2 : Int32))]) rfl k) ?_
      show own_Go p e s below _ _ _ T69 (mkF m 31 #[.val (.ref a), .val (.ref b), .val (.int (2 : Int32))] [])
      refine own_st (fun _ k => XS.goto X69.here hx rfl (pc0 := 31) (pc' := 2) rfl (hb hby d3_31) (by decide) (by decide) k) ?_
      show own_Go p e s below _ _ _ T69 (mkF m 2 #[.val (.ref a), .val (.ref b), .val (.int (2 : Int32))] [])
      refine own_st (fun _ k => XS.iloadN X69.here hx rfl (hb hby d3_2) rfl k) ?_
      show own_Go p e s below _ _ _ T69 (mkF m 3 #[.val (.ref a), .val (.ref b), .val (.int (2 : Int32))] [(.int (2 : Int32))])
      refine own_st (fun _ k => XS.aloadN X69.here hx rfl (hb hby d3_3) rfl rfl k) ?_
      show own_Go p e s below _ _ _ T69 (mkF m 4 #[.val (.ref a), .val (.ref b), .val (.int (2 : Int32))] [(.ref a), (.int (2 : Int32))])
      obtain ⟨T71, X71, e71, st71⟩ := getF X69 hx hZ hown (host := "") (Or.inl (hw _ (List.mem_of_getElem? (i := 20) rfl))) Via.refl e69 F_levels_a (g := (mkF m 4 #[.val (.ref a), .val (.ref b), .val (.int (2 : Int32))] [(.ref a), (.int (2 : Int32))])) rfl rfl (hb hby d3_4)
      refine own_st st71 ?_
      show own_Go p e s below _ _ _ T71 (mkF m 7 #[.val (.ref a), .val (.ref b), .val (.int (2 : Int32))] [(.ref d), (.int (2 : Int32))])
      refine own_st (own_len X71 hx hZ e71 V_d (g := (mkF m 7 #[.val (.ref a), .val (.ref b), .val (.int (2 : Int32))] [(.ref d), (.int (2 : Int32))])) rfl rfl (hb hby d3_7)) ?_
      show own_Go p e s below _ _ _ T71 (mkF m 8 #[.val (.ref a), .val (.ref b), .val (.int (2 : Int32))] [(.int (3 : Int32)), (.int (2 : Int32))])
      refine own_st (fun _ k => XS.icmpNo X71.here hx rfl (hb hby d3_8) rfl (by decide) k) ?_
      show own_Go p e s below _ _ _ T71 (mkF m 11 #[.val (.ref a), .val (.ref b), .val (.int (2 : Int32))] [])
      refine own_st (fun _ k => XS.aloadN X71.here hx rfl (hb hby d3_11) rfl rfl k) ?_
      show own_Go p e s below _ _ _ T71 (mkF m 12 #[.val (.ref a), .val (.ref b), .val (.int (2 : Int32))] [(.ref a)])
      obtain ⟨T72, X72, e72, st72⟩ := getF X71 hx hZ hown (host := "") (Or.inl (hw _ (List.mem_of_getElem? (i := 20) rfl))) Via.refl e71 F_levels_a (g := (mkF m 12 #[.val (.ref a), .val (.ref b), .val (.int (2 : Int32))] [(.ref a)])) rfl rfl (hb hby d3_12)
      refine own_st st72 ?_
      show own_Go p e s below _ _ _ T72 (mkF m 15 #[.val (.ref a), .val (.ref b), .val (.int (2 : Int32))] [(.ref d)])
      refine own_st (fun _ k => XS.iloadN X72.here hx rfl (hb hby d3_15) rfl k) ?_
      show own_Go p e s below _ _ _ T72 (mkF m 16 #[.val (.ref a), .val (.ref b), .val (.int (2 : Int32))] [(.int (2 : Int32)), (.ref d)])
      refine own_st (own_ldI X72 hx hZ e72 V_d (j := (2 : Int32)) (x := x2) ⟨by decide, by decide⟩ rfl (g := (mkF m 16 #[.val (.ref a), .val (.ref b), .val (.int (2 : Int32))] [(.int (2 : Int32)), (.ref d)])) rfl rfl (hb hby d3_16)) ?_
      show own_Go p e s below _ _ _ T72 (mkF m 17 #[.val (.ref a), .val (.ref b), .val (.int (2 : Int32))] [(.int x2)])
      refine own_st (fun _ k => XS.aloadN X72.here hx rfl (hb hby d3_17) rfl rfl k) ?_
      show own_Go p e s below _ _ _ T72 (mkF m 18 #[.val (.ref a), .val (.ref b), .val (.int (2 : Int32))] [(.ref b), (.int x2)])
      obtain ⟨T73, X73, e73, st73⟩ := getF X72 hx hZ hown (host := "") (Or.inl (hw _ (List.mem_of_getElem? (i := 20) rfl))) Via.refl e72 F_levels_b (g := (mkF m 18 #[.val (.ref a), .val (.ref b), .val (.int (2 : Int32))] [(.ref b), (.int x2)])) rfl rfl (hb hby d3_18)
      refine own_st st73 ?_
      show own_Go p e s below _ _ _ T73 (mkF m 21 #[.val (.ref a), .val (.ref b), .val (.int (2 : Int32))] [(.ref d'), (.int x2)])
      refine own_st (fun _ k => XS.iloadN X73.here hx rfl (hb hby d3_21) rfl k) ?_
      show own_Go p e s below _ _ _ T73 (mkF m 22 #[.val (.ref a), .val (.ref b), .val (.int (2 : Int32))] [(.int (2 : Int32)), (.ref d'), (.int x2)])
      refine own_st (own_ldI X73 hx hZ e73 V_d' (j := (2 : Int32)) (x := y2) ⟨by decide, by decide⟩ rfl (g := (mkF m 22 #[.val (.ref a), .val (.ref b), .val (.int (2 : Int32))] [(.int (2 : Int32)), (.ref d'), (.int x2)])) rfl rfl (hb hby d3_22)) ?_
      show own_Go p e s below _ _ _ T73 (mkF m 23 #[.val (.ref a), .val (.ref b), .val (.int (2 : Int32))] [(.int y2), (.int x2)])
      by_cases c23_74 : y2 < x2
      · refine own_st (fun _ k => XS.icmpNo X73.here hx rfl (hb hby d3_23) rfl (tlt c23_74).2.2.2 k) ?_
        show own_Go p e s below _ _ _ T73 (mkF m 26 #[.val (.ref a), .val (.ref b), .val (.int (2 : Int32))] [])
        refine own_st (fun _ k => XS.iconst X73.here hx rfl (hb hby d3_26) k) ?_
        show own_Go p e s below _ _ _ T73 (mkF m 27 #[.val (.ref a), .val (.ref b), .val (.int (2 : Int32))] [(.int (0 : Int32))])
        exact own_retN X73 hx hlk (t := .boolean) hret (by simp) (hb hby d3_27) (z' := (0 : Int32)) rfl (by decide) (by decide) ⟨by rw [own_bf (by simp [c23_66, c23_70, c23_74])], N0, e73⟩
      · refine own_st (fun _ k => XS.icmpYes X73.here hx rfl (pc0 := 23) (pc' := 28) rfl (hb hby d3_23) rfl (flt c23_74).2.2.2 (by decide) (by decide) k) ?_
        show own_Go p e s below _ _ _ T73 (mkF m 28 #[.val (.ref a), .val (.ref b), .val (.int (2 : Int32))] [])
        refine own_st (fun _ k => XS.iinc X73.here hx rfl (hb hby d3_28) rfl (l' := #[.val (.ref a), .val (.ref b), .val (.int (3 : Int32))]) rfl k) ?_
        show own_Go p e s below _ _ _ T73 (mkF m 31 #[.val (.ref a), .val (.ref b), .val (.int (3 : Int32))] [])
        refine own_st (fun _ k => XS.goto X73.here hx rfl (pc0 := 31) (pc' := 2) rfl (hb hby d3_31) (by decide) (by decide) k) ?_
        show own_Go p e s below _ _ _ T73 (mkF m 2 #[.val (.ref a), .val (.ref b), .val (.int (3 : Int32))] [])
        refine own_st (fun _ k => XS.iloadN X73.here hx rfl (hb hby d3_2) rfl k) ?_
        show own_Go p e s below _ _ _ T73 (mkF m 3 #[.val (.ref a), .val (.ref b), .val (.int (3 : Int32))] [(.int (3 : Int32))])
        refine own_st (fun _ k => XS.aloadN X73.here hx rfl (hb hby d3_3) rfl rfl k) ?_
        show own_Go p e s below _ _ _ T73 (mkF m 4 #[.val (.ref a), .val (.ref b), .val (.int (3 : Int32))] [(.ref a), (.int (3 : Int32))])
        obtain ⟨T75, X75, e75, st75⟩ := getF X73 hx hZ hown (host := "") (Or.inl (hw _ (List.mem_of_getElem? (i := 20) rfl))) Via.refl e73 F_levels_a (g := (mkF m 4 #[.val (.ref a), .val (.ref b), .val (.int (3 : Int32))] [(.ref a), (.int (3 : Int32))])) rfl rfl (hb hby d3_4)
        refine own_st st75 ?_
        show own_Go p e s below _ _ _ T75 (mkF m 7 #[.val (.ref a), .val (.ref b), .val (.int (3 : Int32))] [(.ref d), (.int (3 : Int32))])
        refine own_st (own_len X75 hx hZ e75 V_d (g := (mkF m 7 #[.val (.ref a), .val (.ref b), .val (.int (3 : Int32))] [(.ref d), (.int (3 : Int32))])) rfl rfl (hb hby d3_7)) ?_
        show own_Go p e s below _ _ _ T75 (mkF m 8 #[.val (.ref a), .val (.ref b), .val (.int (3 : Int32))] [(.int (3 : Int32)), (.int (3 : Int32))])
        refine own_st (fun _ k => XS.icmpYes X75.here hx rfl (pc0 := 8) (pc' := 34) rfl (hb hby d3_8) rfl (by decide) (by decide) (by decide) k) ?_
        show own_Go p e s below _ _ _ T75 (mkF m 34 #[.val (.ref a), .val (.ref b), .val (.int (3 : Int32))] [])
        refine own_st (fun _ k => XS.iconst X75.here hx rfl (hb hby d3_34) k) ?_
        show own_Go p e s below _ _ _ T75 (mkF m 35 #[.val (.ref a), .val (.ref b), .val (.int (3 : Int32))] [(.int (1 : Int32))])
        exact own_retN X75 hx hlk (t := .boolean) hret (by simp) (hb hby d3_35) (z' := (1 : Int32)) rfl (by decide) (by decide) ⟨by rw [own_bt (by simp [c23_66, c23_70, c23_74])], N0, e75⟩
theorem ef_rm0 (m : MethodId) (z0 : Int32) (z1 : Int32) (z2 : Int32) (z3 : Int32) (z4 : Int32) (z5 : Int32) : entryFrame m #[(.int z0), (.int z1), (.int z2), (.int z3), (.int z4), (.int z5)] maxLocals = mkF m 0 #[.val (.int z0), .val (.int z1), .val (.int z2), .val (.int z3), .val (.int z4), .val (.int z5), .unset, .unset, .unset, .unset, .unset, .unset, .unset, .unset, .unset, .unset, .unset, .unset, .unset] [] := by first | (simp [entryFrame, mkF, argsToLocals, Value.category, maxLocals]; done) | rfl
set_option maxRecDepth 65536 in
set_option maxHeartbeats 40000000 in
theorem rm0 (l : Launch) (Z : State) (a0 : Array Value) (hw : ∀ d ∈ tables_1, d.before a0 Z = true) (ws : List Jvm.Cond) (p0 p1 p2 p3 p4 p5 : Int32) (h0 : Heap) (n0 : Nat) (Z0 : n0 ≤ h0.size)  :
    own_Met l Z x code maxLocals ret room_1 ws #[(.int p0), (.int p1), (.int p2), (.int p3), (.int p4), (.int p5)] h0 (fun v h L => v = some (.int 1) ∧ Fr n0 L) 24 128 := by
  refine own_enter pf0 (fun m => ef_rm0 m p0 p1 p2 p3 p4 p5) ?_
  intro p e s m below meth c T0 hx hby hml hown hnm hret hlk hZ X0 e0
  have N0 := Fr.nil n0
  show own_Go p e s below _ _ _ T0 (mkF m 0 #[.val (.int p0), .val (.int p1), .val (.int p2), .val (.int p3), .val (.int p4), .val (.int p5), .unset, .unset, .unset, .unset, .unset, .unset, .unset, .unset, .unset, .unset, .unset, .unset, .unset] [])
  refine own_st (fun _ k => XS.iloadN X0.here hx rfl (hb hby at_0) rfl k) ?_
  show own_Go p e s below _ _ _ T0 (mkF m 1 #[.val (.int p0), .val (.int p1), .val (.int p2), .val (.int p3), .val (.int p4), .val (.int p5), .unset, .unset, .unset, .unset, .unset, .unset, .unset, .unset, .unset, .unset, .unset, .unset, .unset] [(.int p0)])
  refine own_st (fun _ k => XS.bipush X0.here hx rfl (hb hby at_1) k) ?_
  show own_Go p e s below _ _ _ T0 (mkF m 3 #[.val (.int p0), .val (.int p1), .val (.int p2), .val (.int p3), .val (.int p4), .val (.int p5), .unset, .unset, .unset, .unset, .unset, .unset, .unset, .unset, .unset, .unset, .unset, .unset, .unset] [(.int (31 : Int32)), (.int p0)])
  refine own_st (fun _ k => XS.iushr X0.here hx rfl (hb hby at_3) rfl k) ?_
  show own_Go p e s below _ _ _ T0 (mkF m 4 #[.val (.int p0), .val (.int p1), .val (.int p2), .val (.int p3), .val (.int p4), .val (.int p5), .unset, .unset, .unset, .unset, .unset, .unset, .unset, .unset, .unset, .unset, .unset, .unset, .unset] [(.int ((p0.toUInt32 >>> ((31 : Int32) &&& 31).toUInt32).toInt32))])
  refine own_st (fun _ k => XS.iloadN X0.here hx rfl (hb hby at_4) rfl k) ?_
  show own_Go p e s below _ _ _ T0 (mkF m 5 #[.val (.int p0), .val (.int p1), .val (.int p2), .val (.int p3), .val (.int p4), .val (.int p5), .unset, .unset, .unset, .unset, .unset, .unset, .unset, .unset, .unset, .unset, .unset, .unset, .unset] [(.int p1), (.int ((p0.toUInt32 >>> ((31 : Int32) &&& 31).toUInt32).toInt32))])
  refine own_st (fun _ k => XS.bipush X0.here hx rfl (hb hby at_5) k) ?_
  show own_Go p e s below _ _ _ T0 (mkF m 7 #[.val (.int p0), .val (.int p1), .val (.int p2), .val (.int p3), .val (.int p4), .val (.int p5), .unset, .unset, .unset, .unset, .unset, .unset, .unset, .unset, .unset, .unset, .unset, .unset, .unset] [(.int (31 : Int32)), (.int p1), (.int ((p0.toUInt32 >>> ((31 : Int32) &&& 31).toUInt32).toInt32))])
  refine own_st (fun _ k => XS.iushr X0.here hx rfl (hb hby at_7) rfl k) ?_
  show own_Go p e s below _ _ _ T0 (mkF m 8 #[.val (.int p0), .val (.int p1), .val (.int p2), .val (.int p3), .val (.int p4), .val (.int p5), .unset, .unset, .unset, .unset, .unset, .unset, .unset, .unset, .unset, .unset, .unset, .unset, .unset] [(.int ((p1.toUInt32 >>> ((31 : Int32) &&& 31).toUInt32).toInt32)), (.int ((p0.toUInt32 >>> ((31 : Int32) &&& 31).toUInt32).toInt32))])
  refine own_st (fun _ k => XS.iconst X0.here hx rfl (hb hby at_8) k) ?_
  show own_Go p e s below _ _ _ T0 (mkF m 9 #[.val (.int p0), .val (.int p1), .val (.int p2), .val (.int p3), .val (.int p4), .val (.int p5), .unset, .unset, .unset, .unset, .unset, .unset, .unset, .unset, .unset, .unset, .unset, .unset, .unset] [(.int (1 : Int32)), (.int ((p1.toUInt32 >>> ((31 : Int32) &&& 31).toUInt32).toInt32)), (.int ((p0.toUInt32 >>> ((31 : Int32) &&& 31).toUInt32).toInt32))])
  refine own_st (fun _ k => XS.ishl X0.here hx rfl (hb hby at_9) rfl k) ?_
  show own_Go p e s below _ _ _ T0 (mkF m 10 #[.val (.int p0), .val (.int p1), .val (.int p2), .val (.int p3), .val (.int p4), .val (.int p5), .unset, .unset, .unset, .unset, .unset, .unset, .unset, .unset, .unset, .unset, .unset, .unset, .unset] [(.int (((p1.toUInt32 >>> ((31 : Int32) &&& 31).toUInt32).toInt32) <<< ((1 : Int32) &&& 31))), (.int ((p0.toUInt32 >>> ((31 : Int32) &&& 31).toUInt32).toInt32))])
  refine own_st (fun _ k => XS.ior X0.here hx rfl (hb hby at_10) rfl k) ?_
  show own_Go p e s below _ _ _ T0 (mkF m 11 #[.val (.int p0), .val (.int p1), .val (.int p2), .val (.int p3), .val (.int p4), .val (.int p5), .unset, .unset, .unset, .unset, .unset, .unset, .unset, .unset, .unset, .unset, .unset, .unset, .unset] [(.int (((p0.toUInt32 >>> ((31 : Int32) &&& 31).toUInt32).toInt32) ||| (((p1.toUInt32 >>> ((31 : Int32) &&& 31).toUInt32).toInt32) <<< ((1 : Int32) &&& 31))))])
  have hN := own_N p0 p1
  generalize (((p0.toUInt32 >>> ((31 : Int32) &&& 31).toUInt32).toInt32) ||| (((p1.toUInt32 >>> ((31 : Int32) &&& 31).toUInt32).toInt32) <<< ((1 : Int32) &&& 31))) = nn at hN ⊢
  rcases hN with rfl | rfl | rfl | rfl
  · show own_Go p e s below _ _ _ T0 (mkF m 11 #[.val (.int p0), .val (.int p1), .val (.int p2), .val (.int p3), .val (.int p4), .val (.int p5), .unset, .unset, .unset, .unset, .unset, .unset, .unset, .unset, .unset, .unset, .unset, .unset, .unset] [(.int (0 : Int32))])
    refine own_st (fun _ k => XS.istore X0.here hx rfl (hb hby at_11) rfl (l' := #[.val (.int p0), .val (.int p1), .val (.int p2), .val (.int p3), .val (.int p4), .val (.int p5), .val (.int (0 : Int32)), .unset, .unset, .unset, .unset, .unset, .unset, .unset, .unset, .unset, .unset, .unset, .unset]) rfl k) ?_
    show own_Go p e s below _ _ _ T0 (mkF m 13 #[.val (.int p0), .val (.int p1), .val (.int p2), .val (.int p3), .val (.int p4), .val (.int p5), .val (.int (0 : Int32)), .unset, .unset, .unset, .unset, .unset, .unset, .unset, .unset, .unset, .unset, .unset, .unset] [])
    refine own_st (fun _ k => XS.iloadN X0.here hx rfl (hb hby at_13) rfl k) ?_
    show own_Go p e s below _ _ _ T0 (mkF m 14 #[.val (.int p0), .val (.int p1), .val (.int p2), .val (.int p3), .val (.int p4), .val (.int p5), .val (.int (0 : Int32)), .unset, .unset, .unset, .unset, .unset, .unset, .unset, .unset, .unset, .unset, .unset, .unset] [(.int p2)])
    refine own_st (fun _ k => XS.bipush X0.here hx rfl (hb hby at_14) k) ?_
    show own_Go p e s below _ _ _ T0 (mkF m 16 #[.val (.int p0), .val (.int p1), .val (.int p2), .val (.int p3), .val (.int p4), .val (.int p5), .val (.int (0 : Int32)), .unset, .unset, .unset, .unset, .unset, .unset, .unset, .unset, .unset, .unset, .unset, .unset] [(.int (31 : Int32)), (.int p2)])
    refine own_st (fun _ k => XS.iushr X0.here hx rfl (hb hby at_16) rfl k) ?_
    show own_Go p e s below _ _ _ T0 (mkF m 17 #[.val (.int p0), .val (.int p1), .val (.int p2), .val (.int p3), .val (.int p4), .val (.int p5), .val (.int (0 : Int32)), .unset, .unset, .unset, .unset, .unset, .unset, .unset, .unset, .unset, .unset, .unset, .unset] [(.int ((p2.toUInt32 >>> ((31 : Int32) &&& 31).toUInt32).toInt32))])
    by_cases c17_76 : ((p2.toUInt32 >>> ((31 : Int32) &&& 31).toUInt32).toInt32) = (0 : Int32)
    · refine own_st (fun _ k => XS.ifYes X0.here hx rfl (pc0 := 17) (pc' := 24) rfl (hb hby at_17) rfl ((if0 _ _).trans (teq c17_76).1) (by decide) (by decide) k) ?_
      show own_Go p e s below _ _ _ T0 (mkF m 24 #[.val (.int p0), .val (.int p1), .val (.int p2), .val (.int p3), .val (.int p4), .val (.int p5), .val (.int (0 : Int32)), .unset, .unset, .unset, .unset, .unset, .unset, .unset, .unset, .unset, .unset, .unset, .unset] [])
      refine own_st (fun _ k => XS.iload X0.here hx rfl (hb hby at_24) rfl k) ?_
      show own_Go p e s below _ _ _ T0 (mkF m 26 #[.val (.int p0), .val (.int p1), .val (.int p2), .val (.int p3), .val (.int p4), .val (.int p5), .val (.int (0 : Int32)), .unset, .unset, .unset, .unset, .unset, .unset, .unset, .unset, .unset, .unset, .unset, .unset] [(.int (0 : Int32))])
      refine own_st (fun _ k => XS.istore X0.here hx rfl (hb hby at_26) rfl (l' := #[.val (.int p0), .val (.int p1), .val (.int p2), .val (.int p3), .val (.int p4), .val (.int p5), .val (.int (0 : Int32)), .val (.int (0 : Int32)), .unset, .unset, .unset, .unset, .unset, .unset, .unset, .unset, .unset, .unset, .unset]) rfl k) ?_
      show own_Go p e s below _ _ _ T0 (mkF m 28 #[.val (.int p0), .val (.int p1), .val (.int p2), .val (.int p3), .val (.int p4), .val (.int p5), .val (.int (0 : Int32)), .val (.int (0 : Int32)), .unset, .unset, .unset, .unset, .unset, .unset, .unset, .unset, .unset, .unset, .unset] [])
      refine own_st (fun _ k => XS.iloadN X0.here hx rfl (hb hby at_28) rfl k) ?_
      show own_Go p e s below _ _ _ T0 (mkF m 29 #[.val (.int p0), .val (.int p1), .val (.int p2), .val (.int p3), .val (.int p4), .val (.int p5), .val (.int (0 : Int32)), .val (.int (0 : Int32)), .unset, .unset, .unset, .unset, .unset, .unset, .unset, .unset, .unset, .unset, .unset] [(.int p0)])
      refine own_st (X0.ldcInt hx hown (mvT hZ (hw _ (List.mem_of_getElem? (i := 0) rfl))) (g := (mkF m 29 #[.val (.int p0), .val (.int p1), .val (.int p2), .val (.int p3), .val (.int p4), .val (.int p5), .val (.int (0 : Int32)), .val (.int (0 : Int32)), .unset, .unset, .unset, .unset, .unset, .unset, .unset, .unset, .unset, .unset, .unset] [(.int p0)])) rfl (hb hby at_29)) ?_
      show own_Go p e s below _ _ _ T0 (mkF m 31 #[.val (.int p0), .val (.int p1), .val (.int p2), .val (.int p3), .val (.int p4), .val (.int p5), .val (.int (0 : Int32)), .val (.int (0 : Int32)), .unset, .unset, .unset, .unset, .unset, .unset, .unset, .unset, .unset, .unset, .unset] [(.int (2147483647 : Int32)), (.int p0)])
      refine own_st (fun _ k => XS.iand X0.here hx rfl (hb hby at_31) rfl k) ?_
      show own_Go p e s below _ _ _ T0 (mkF m 32 #[.val (.int p0), .val (.int p1), .val (.int p2), .val (.int p3), .val (.int p4), .val (.int p5), .val (.int (0 : Int32)), .val (.int (0 : Int32)), .unset, .unset, .unset, .unset, .unset, .unset, .unset, .unset, .unset, .unset, .unset] [(.int (p0 &&& (2147483647 : Int32)))])
      refine own_st (fun _ k => XS.istore X0.here hx rfl (hb hby at_32) rfl (l' := #[.val (.int p0), .val (.int p1), .val (.int p2), .val (.int p3), .val (.int p4), .val (.int p5), .val (.int (0 : Int32)), .val (.int (0 : Int32)), .val (.int (p0 &&& (2147483647 : Int32))), .unset, .unset, .unset, .unset, .unset, .unset, .unset, .unset, .unset, .unset]) rfl k) ?_
      show own_Go p e s below _ _ _ T0 (mkF m 34 #[.val (.int p0), .val (.int p1), .val (.int p2), .val (.int p3), .val (.int p4), .val (.int p5), .val (.int (0 : Int32)), .val (.int (0 : Int32)), .val (.int (p0 &&& (2147483647 : Int32))), .unset, .unset, .unset, .unset, .unset, .unset, .unset, .unset, .unset, .unset] [])
      refine own_st (fun _ k => XS.iloadN X0.here hx rfl (hb hby at_34) rfl k) ?_
      show own_Go p e s below _ _ _ T0 (mkF m 35 #[.val (.int p0), .val (.int p1), .val (.int p2), .val (.int p3), .val (.int p4), .val (.int p5), .val (.int (0 : Int32)), .val (.int (0 : Int32)), .val (.int (p0 &&& (2147483647 : Int32))), .unset, .unset, .unset, .unset, .unset, .unset, .unset, .unset, .unset, .unset] [(.int p1)])
      refine own_st (X0.ldcInt hx hown (mvT hZ (hw _ (List.mem_of_getElem? (i := 0) rfl))) (g := (mkF m 35 #[.val (.int p0), .val (.int p1), .val (.int p2), .val (.int p3), .val (.int p4), .val (.int p5), .val (.int (0 : Int32)), .val (.int (0 : Int32)), .val (.int (p0 &&& (2147483647 : Int32))), .unset, .unset, .unset, .unset, .unset, .unset, .unset, .unset, .unset, .unset] [(.int p1)])) rfl (hb hby at_35)) ?_
      show own_Go p e s below _ _ _ T0 (mkF m 37 #[.val (.int p0), .val (.int p1), .val (.int p2), .val (.int p3), .val (.int p4), .val (.int p5), .val (.int (0 : Int32)), .val (.int (0 : Int32)), .val (.int (p0 &&& (2147483647 : Int32))), .unset, .unset, .unset, .unset, .unset, .unset, .unset, .unset, .unset, .unset] [(.int (2147483647 : Int32)), (.int p1)])
      refine own_st (fun _ k => XS.iand X0.here hx rfl (hb hby at_37) rfl k) ?_
      show own_Go p e s below _ _ _ T0 (mkF m 38 #[.val (.int p0), .val (.int p1), .val (.int p2), .val (.int p3), .val (.int p4), .val (.int p5), .val (.int (0 : Int32)), .val (.int (0 : Int32)), .val (.int (p0 &&& (2147483647 : Int32))), .unset, .unset, .unset, .unset, .unset, .unset, .unset, .unset, .unset, .unset] [(.int (p1 &&& (2147483647 : Int32)))])
      refine own_st (fun _ k => XS.istore X0.here hx rfl (hb hby at_38) rfl (l' := #[.val (.int p0), .val (.int p1), .val (.int p2), .val (.int p3), .val (.int p4), .val (.int p5), .val (.int (0 : Int32)), .val (.int (0 : Int32)), .val (.int (p0 &&& (2147483647 : Int32))), .val (.int (p1 &&& (2147483647 : Int32))), .unset, .unset, .unset, .unset, .unset, .unset, .unset, .unset, .unset]) rfl k) ?_
      show own_Go p e s below _ _ _ T0 (mkF m 40 #[.val (.int p0), .val (.int p1), .val (.int p2), .val (.int p3), .val (.int p4), .val (.int p5), .val (.int (0 : Int32)), .val (.int (0 : Int32)), .val (.int (p0 &&& (2147483647 : Int32))), .val (.int (p1 &&& (2147483647 : Int32))), .unset, .unset, .unset, .unset, .unset, .unset, .unset, .unset, .unset] [])
      refine own_st (fun _ k => XS.iloadN X0.here hx rfl (hb hby at_40) rfl k) ?_
      show own_Go p e s below _ _ _ T0 (mkF m 41 #[.val (.int p0), .val (.int p1), .val (.int p2), .val (.int p3), .val (.int p4), .val (.int p5), .val (.int (0 : Int32)), .val (.int (0 : Int32)), .val (.int (p0 &&& (2147483647 : Int32))), .val (.int (p1 &&& (2147483647 : Int32))), .unset, .unset, .unset, .unset, .unset, .unset, .unset, .unset, .unset] [(.int p2)])
      refine own_st (X0.ldcInt hx hown (mvT hZ (hw _ (List.mem_of_getElem? (i := 0) rfl))) (g := (mkF m 41 #[.val (.int p0), .val (.int p1), .val (.int p2), .val (.int p3), .val (.int p4), .val (.int p5), .val (.int (0 : Int32)), .val (.int (0 : Int32)), .val (.int (p0 &&& (2147483647 : Int32))), .val (.int (p1 &&& (2147483647 : Int32))), .unset, .unset, .unset, .unset, .unset, .unset, .unset, .unset, .unset] [(.int p2)])) rfl (hb hby at_41)) ?_
      show own_Go p e s below _ _ _ T0 (mkF m 43 #[.val (.int p0), .val (.int p1), .val (.int p2), .val (.int p3), .val (.int p4), .val (.int p5), .val (.int (0 : Int32)), .val (.int (0 : Int32)), .val (.int (p0 &&& (2147483647 : Int32))), .val (.int (p1 &&& (2147483647 : Int32))), .unset, .unset, .unset, .unset, .unset, .unset, .unset, .unset, .unset] [(.int (2147483647 : Int32)), (.int p2)])
      refine own_st (fun _ k => XS.iand X0.here hx rfl (hb hby at_43) rfl k) ?_
      show own_Go p e s below _ _ _ T0 (mkF m 44 #[.val (.int p0), .val (.int p1), .val (.int p2), .val (.int p3), .val (.int p4), .val (.int p5), .val (.int (0 : Int32)), .val (.int (0 : Int32)), .val (.int (p0 &&& (2147483647 : Int32))), .val (.int (p1 &&& (2147483647 : Int32))), .unset, .unset, .unset, .unset, .unset, .unset, .unset, .unset, .unset] [(.int (p2 &&& (2147483647 : Int32)))])
      refine own_st (fun _ k => XS.istore X0.here hx rfl (hb hby at_44) rfl (l' := #[.val (.int p0), .val (.int p1), .val (.int p2), .val (.int p3), .val (.int p4), .val (.int p5), .val (.int (0 : Int32)), .val (.int (0 : Int32)), .val (.int (p0 &&& (2147483647 : Int32))), .val (.int (p1 &&& (2147483647 : Int32))), .val (.int (p2 &&& (2147483647 : Int32))), .unset, .unset, .unset, .unset, .unset, .unset, .unset, .unset]) rfl k) ?_
      show own_Go p e s below _ _ _ T0 (mkF m 46 #[.val (.int p0), .val (.int p1), .val (.int p2), .val (.int p3), .val (.int p4), .val (.int p5), .val (.int (0 : Int32)), .val (.int (0 : Int32)), .val (.int (p0 &&& (2147483647 : Int32))), .val (.int (p1 &&& (2147483647 : Int32))), .val (.int (p2 &&& (2147483647 : Int32))), .unset, .unset, .unset, .unset, .unset, .unset, .unset, .unset] [])
      refine own_st (fun _ k => XS.iloadN X0.here hx rfl (hb hby at_46) rfl k) ?_
      show own_Go p e s below _ _ _ T0 (mkF m 47 #[.val (.int p0), .val (.int p1), .val (.int p2), .val (.int p3), .val (.int p4), .val (.int p5), .val (.int (0 : Int32)), .val (.int (0 : Int32)), .val (.int (p0 &&& (2147483647 : Int32))), .val (.int (p1 &&& (2147483647 : Int32))), .val (.int (p2 &&& (2147483647 : Int32))), .unset, .unset, .unset, .unset, .unset, .unset, .unset, .unset] [(.int p3)])
      refine own_st (X0.ldcInt hx hown (mvT hZ (hw _ (List.mem_of_getElem? (i := 0) rfl))) (g := (mkF m 47 #[.val (.int p0), .val (.int p1), .val (.int p2), .val (.int p3), .val (.int p4), .val (.int p5), .val (.int (0 : Int32)), .val (.int (0 : Int32)), .val (.int (p0 &&& (2147483647 : Int32))), .val (.int (p1 &&& (2147483647 : Int32))), .val (.int (p2 &&& (2147483647 : Int32))), .unset, .unset, .unset, .unset, .unset, .unset, .unset, .unset] [(.int p3)])) rfl (hb hby at_47)) ?_
      show own_Go p e s below _ _ _ T0 (mkF m 49 #[.val (.int p0), .val (.int p1), .val (.int p2), .val (.int p3), .val (.int p4), .val (.int p5), .val (.int (0 : Int32)), .val (.int (0 : Int32)), .val (.int (p0 &&& (2147483647 : Int32))), .val (.int (p1 &&& (2147483647 : Int32))), .val (.int (p2 &&& (2147483647 : Int32))), .unset, .unset, .unset, .unset, .unset, .unset, .unset, .unset] [(.int (2147483647 : Int32)), (.int p3)])
      refine own_st (fun _ k => XS.iand X0.here hx rfl (hb hby at_49) rfl k) ?_
      show own_Go p e s below _ _ _ T0 (mkF m 50 #[.val (.int p0), .val (.int p1), .val (.int p2), .val (.int p3), .val (.int p4), .val (.int p5), .val (.int (0 : Int32)), .val (.int (0 : Int32)), .val (.int (p0 &&& (2147483647 : Int32))), .val (.int (p1 &&& (2147483647 : Int32))), .val (.int (p2 &&& (2147483647 : Int32))), .unset, .unset, .unset, .unset, .unset, .unset, .unset, .unset] [(.int (p3 &&& (2147483647 : Int32)))])
      refine own_st (fun _ k => XS.istore X0.here hx rfl (hb hby at_50) rfl (l' := #[.val (.int p0), .val (.int p1), .val (.int p2), .val (.int p3), .val (.int p4), .val (.int p5), .val (.int (0 : Int32)), .val (.int (0 : Int32)), .val (.int (p0 &&& (2147483647 : Int32))), .val (.int (p1 &&& (2147483647 : Int32))), .val (.int (p2 &&& (2147483647 : Int32))), .val (.int (p3 &&& (2147483647 : Int32))), .unset, .unset, .unset, .unset, .unset, .unset, .unset]) rfl k) ?_
      show own_Go p e s below _ _ _ T0 (mkF m 52 #[.val (.int p0), .val (.int p1), .val (.int p2), .val (.int p3), .val (.int p4), .val (.int p5), .val (.int (0 : Int32)), .val (.int (0 : Int32)), .val (.int (p0 &&& (2147483647 : Int32))), .val (.int (p1 &&& (2147483647 : Int32))), .val (.int (p2 &&& (2147483647 : Int32))), .val (.int (p3 &&& (2147483647 : Int32))), .unset, .unset, .unset, .unset, .unset, .unset, .unset] [])
      refine own_st (fun _ k => XS.iload X0.here hx rfl (hb hby at_52) rfl k) ?_
      show own_Go p e s below _ _ _ T0 (mkF m 54 #[.val (.int p0), .val (.int p1), .val (.int p2), .val (.int p3), .val (.int p4), .val (.int p5), .val (.int (0 : Int32)), .val (.int (0 : Int32)), .val (.int (p0 &&& (2147483647 : Int32))), .val (.int (p1 &&& (2147483647 : Int32))), .val (.int (p2 &&& (2147483647 : Int32))), .val (.int (p3 &&& (2147483647 : Int32))), .unset, .unset, .unset, .unset, .unset, .unset, .unset] [(.int p4)])
      refine own_st (X0.ldcInt hx hown (mvT hZ (hw _ (List.mem_of_getElem? (i := 0) rfl))) (g := (mkF m 54 #[.val (.int p0), .val (.int p1), .val (.int p2), .val (.int p3), .val (.int p4), .val (.int p5), .val (.int (0 : Int32)), .val (.int (0 : Int32)), .val (.int (p0 &&& (2147483647 : Int32))), .val (.int (p1 &&& (2147483647 : Int32))), .val (.int (p2 &&& (2147483647 : Int32))), .val (.int (p3 &&& (2147483647 : Int32))), .unset, .unset, .unset, .unset, .unset, .unset, .unset] [(.int p4)])) rfl (hb hby at_54)) ?_
      show own_Go p e s below _ _ _ T0 (mkF m 56 #[.val (.int p0), .val (.int p1), .val (.int p2), .val (.int p3), .val (.int p4), .val (.int p5), .val (.int (0 : Int32)), .val (.int (0 : Int32)), .val (.int (p0 &&& (2147483647 : Int32))), .val (.int (p1 &&& (2147483647 : Int32))), .val (.int (p2 &&& (2147483647 : Int32))), .val (.int (p3 &&& (2147483647 : Int32))), .unset, .unset, .unset, .unset, .unset, .unset, .unset] [(.int (2147483647 : Int32)), (.int p4)])
      refine own_st (fun _ k => XS.iand X0.here hx rfl (hb hby at_56) rfl k) ?_
      show own_Go p e s below _ _ _ T0 (mkF m 57 #[.val (.int p0), .val (.int p1), .val (.int p2), .val (.int p3), .val (.int p4), .val (.int p5), .val (.int (0 : Int32)), .val (.int (0 : Int32)), .val (.int (p0 &&& (2147483647 : Int32))), .val (.int (p1 &&& (2147483647 : Int32))), .val (.int (p2 &&& (2147483647 : Int32))), .val (.int (p3 &&& (2147483647 : Int32))), .unset, .unset, .unset, .unset, .unset, .unset, .unset] [(.int (p4 &&& (2147483647 : Int32)))])
      refine own_st (fun _ k => XS.istore X0.here hx rfl (hb hby at_57) rfl (l' := #[.val (.int p0), .val (.int p1), .val (.int p2), .val (.int p3), .val (.int p4), .val (.int p5), .val (.int (0 : Int32)), .val (.int (0 : Int32)), .val (.int (p0 &&& (2147483647 : Int32))), .val (.int (p1 &&& (2147483647 : Int32))), .val (.int (p2 &&& (2147483647 : Int32))), .val (.int (p3 &&& (2147483647 : Int32))), .val (.int (p4 &&& (2147483647 : Int32))), .unset, .unset, .unset, .unset, .unset, .unset]) rfl k) ?_
      show own_Go p e s below _ _ _ T0 (mkF m 59 #[.val (.int p0), .val (.int p1), .val (.int p2), .val (.int p3), .val (.int p4), .val (.int p5), .val (.int (0 : Int32)), .val (.int (0 : Int32)), .val (.int (p0 &&& (2147483647 : Int32))), .val (.int (p1 &&& (2147483647 : Int32))), .val (.int (p2 &&& (2147483647 : Int32))), .val (.int (p3 &&& (2147483647 : Int32))), .val (.int (p4 &&& (2147483647 : Int32))), .unset, .unset, .unset, .unset, .unset, .unset] [])
      refine own_st (fun _ k => XS.iload X0.here hx rfl (hb hby at_59) rfl k) ?_
      show own_Go p e s below _ _ _ T0 (mkF m 61 #[.val (.int p0), .val (.int p1), .val (.int p2), .val (.int p3), .val (.int p4), .val (.int p5), .val (.int (0 : Int32)), .val (.int (0 : Int32)), .val (.int (p0 &&& (2147483647 : Int32))), .val (.int (p1 &&& (2147483647 : Int32))), .val (.int (p2 &&& (2147483647 : Int32))), .val (.int (p3 &&& (2147483647 : Int32))), .val (.int (p4 &&& (2147483647 : Int32))), .unset, .unset, .unset, .unset, .unset, .unset] [(.int p5)])
      refine own_st (X0.ldcInt hx hown (mvT hZ (hw _ (List.mem_of_getElem? (i := 0) rfl))) (g := (mkF m 61 #[.val (.int p0), .val (.int p1), .val (.int p2), .val (.int p3), .val (.int p4), .val (.int p5), .val (.int (0 : Int32)), .val (.int (0 : Int32)), .val (.int (p0 &&& (2147483647 : Int32))), .val (.int (p1 &&& (2147483647 : Int32))), .val (.int (p2 &&& (2147483647 : Int32))), .val (.int (p3 &&& (2147483647 : Int32))), .val (.int (p4 &&& (2147483647 : Int32))), .unset, .unset, .unset, .unset, .unset, .unset] [(.int p5)])) rfl (hb hby at_61)) ?_
      show own_Go p e s below _ _ _ T0 (mkF m 63 #[.val (.int p0), .val (.int p1), .val (.int p2), .val (.int p3), .val (.int p4), .val (.int p5), .val (.int (0 : Int32)), .val (.int (0 : Int32)), .val (.int (p0 &&& (2147483647 : Int32))), .val (.int (p1 &&& (2147483647 : Int32))), .val (.int (p2 &&& (2147483647 : Int32))), .val (.int (p3 &&& (2147483647 : Int32))), .val (.int (p4 &&& (2147483647 : Int32))), .unset, .unset, .unset, .unset, .unset, .unset] [(.int (2147483647 : Int32)), (.int p5)])
      refine own_st (fun _ k => XS.iand X0.here hx rfl (hb hby at_63) rfl k) ?_
      show own_Go p e s below _ _ _ T0 (mkF m 64 #[.val (.int p0), .val (.int p1), .val (.int p2), .val (.int p3), .val (.int p4), .val (.int p5), .val (.int (0 : Int32)), .val (.int (0 : Int32)), .val (.int (p0 &&& (2147483647 : Int32))), .val (.int (p1 &&& (2147483647 : Int32))), .val (.int (p2 &&& (2147483647 : Int32))), .val (.int (p3 &&& (2147483647 : Int32))), .val (.int (p4 &&& (2147483647 : Int32))), .unset, .unset, .unset, .unset, .unset, .unset] [(.int (p5 &&& (2147483647 : Int32)))])
      refine own_st (fun _ k => XS.istore X0.here hx rfl (hb hby at_64) rfl (l' := #[.val (.int p0), .val (.int p1), .val (.int p2), .val (.int p3), .val (.int p4), .val (.int p5), .val (.int (0 : Int32)), .val (.int (0 : Int32)), .val (.int (p0 &&& (2147483647 : Int32))), .val (.int (p1 &&& (2147483647 : Int32))), .val (.int (p2 &&& (2147483647 : Int32))), .val (.int (p3 &&& (2147483647 : Int32))), .val (.int (p4 &&& (2147483647 : Int32))), .val (.int (p5 &&& (2147483647 : Int32))), .unset, .unset, .unset, .unset, .unset]) rfl k) ?_
      show own_Go p e s below _ _ _ T0 (mkF m 66 #[.val (.int p0), .val (.int p1), .val (.int p2), .val (.int p3), .val (.int p4), .val (.int p5), .val (.int (0 : Int32)), .val (.int (0 : Int32)), .val (.int (p0 &&& (2147483647 : Int32))), .val (.int (p1 &&& (2147483647 : Int32))), .val (.int (p2 &&& (2147483647 : Int32))), .val (.int (p3 &&& (2147483647 : Int32))), .val (.int (p4 &&& (2147483647 : Int32))), .val (.int (p5 &&& (2147483647 : Int32))), .unset, .unset, .unset, .unset, .unset] [])
      obtain ⟨x0, qx0⟩ : ∃ z, z = (p0 &&& (2147483647 : Int32)) := ⟨_, rfl⟩
      rw [← qx0]
      have nx0 : ¬ x0 < 0 := qx0 ▸ own_nn _
      obtain ⟨x1, qx1⟩ : ∃ z, z = (p1 &&& (2147483647 : Int32)) := ⟨_, rfl⟩
      rw [← qx1]
      have nx1 : ¬ x1 < 0 := qx1 ▸ own_nn _
      obtain ⟨x2, qx2⟩ : ∃ z, z = (p2 &&& (2147483647 : Int32)) := ⟨_, rfl⟩
      rw [← qx2]
      have nx2 : ¬ x2 < 0 := qx2 ▸ own_nn _
      obtain ⟨y0, qy0⟩ : ∃ z, z = (p3 &&& (2147483647 : Int32)) := ⟨_, rfl⟩
      rw [← qy0]
      have ny0 : ¬ y0 < 0 := qy0 ▸ own_nn _
      obtain ⟨y1, qy1⟩ : ∃ z, z = (p4 &&& (2147483647 : Int32)) := ⟨_, rfl⟩
      rw [← qy1]
      have ny1 : ¬ y1 < 0 := qy1 ▸ own_nn _
      obtain ⟨y2, qy2⟩ : ∃ z, z = (p5 &&& (2147483647 : Int32)) := ⟨_, rfl⟩
      rw [← qy2]
      have ny2 : ¬ y2 < 0 := qy2 ▸ own_nn _
      show own_Go p e s below _ _ _ T0 (mkF m 66 #[.val (.int p0), .val (.int p1), .val (.int p2), .val (.int p3), .val (.int p4), .val (.int p5), .val (.int (0 : Int32)), .val (.int (0 : Int32)), .val (.int x0), .val (.int x1), .val (.int x2), .val (.int y0), .val (.int y1), .val (.int y2), .unset, .unset, .unset, .unset, .unset] [])
      refine own_st (fun _ k => XS.iload X0.here hx rfl (hb hby at_66) rfl k) ?_
      show own_Go p e s below _ _ _ T0 (mkF m 68 #[.val (.int p0), .val (.int p1), .val (.int p2), .val (.int p3), .val (.int p4), .val (.int p5), .val (.int (0 : Int32)), .val (.int (0 : Int32)), .val (.int x0), .val (.int x1), .val (.int x2), .val (.int y0), .val (.int y1), .val (.int y2), .unset, .unset, .unset, .unset, .unset] [(.int (0 : Int32))])
      obtain ⟨T77, h77, k77, X77, e77, E77, A77, Ex77, st77⟩ := newPE X0 hx hZ (hw _ (List.mem_of_getElem? (i := 1) rfl)) e0 (g := (mkF m 68 #[.val (.int p0), .val (.int p1), .val (.int p2), .val (.int p3), .val (.int p4), .val (.int p5), .val (.int (0 : Int32)), .val (.int (0 : Int32)), .val (.int x0), .val (.int x1), .val (.int x2), .val (.int y0), .val (.int y1), .val (.int y2), .unset, .unset, .unset, .unset, .unset] [(.int (0 : Int32))])) rfl (hb hby at_68) rfl (by decide) (cap := 0) (by decide) (by decide) (by decide) (by decide) (ad := "[I") (by decide)
      obtain ⟨ar, g77⟩ : ∃ z, z = h0.size := ⟨_, rfl⟩
      rw [← g77] at A77 Ex77 st77
      have g_ar : n0 ≤ ar := Nat.le_trans Z0 (Nat.le_of_eq g77.symm)
      have Z78 := Nat.le_trans Z0 E77.1
      have V_ar : Arv Z h77 ar k77 .int (0 : Int32) [] (.int (0 : Int32)) := (Arv.new A77 (by decide)).pad (pad_rep [] (.int (0 : Int32)) 0)
      have E_ar := Ex77
      refine own_st st77 ?_
      show own_Go p e s below _ _ _ T77 (mkF m 70 #[.val (.int p0), .val (.int p1), .val (.int p2), .val (.int p3), .val (.int p4), .val (.int p5), .val (.int (0 : Int32)), .val (.int (0 : Int32)), .val (.int x0), .val (.int x1), .val (.int x2), .val (.int y0), .val (.int y1), .val (.int y2), .unset, .unset, .unset, .unset, .unset] [(.ref ar)])
      refine own_st (fun _ k => XS.astore X77.here hx rfl (hb hby at_70) rfl rfl (l' := #[.val (.int p0), .val (.int p1), .val (.int p2), .val (.int p3), .val (.int p4), .val (.int p5), .val (.int (0 : Int32)), .val (.int (0 : Int32)), .val (.int x0), .val (.int x1), .val (.int x2), .val (.int y0), .val (.int y1), .val (.int y2), .val (.ref ar), .unset, .unset, .unset, .unset]) rfl k) ?_
      show own_Go p e s below _ _ _ T77 (mkF m 72 #[.val (.int p0), .val (.int p1), .val (.int p2), .val (.int p3), .val (.int p4), .val (.int p5), .val (.int (0 : Int32)), .val (.int (0 : Int32)), .val (.int x0), .val (.int x1), .val (.int x2), .val (.int y0), .val (.int y1), .val (.int y2), .val (.ref ar), .unset, .unset, .unset, .unset] [])
      refine own_st (fun _ k => XS.iload X77.here hx rfl (hb hby at_72) rfl k) ?_
      show own_Go p e s below _ _ _ T77 (mkF m 74 #[.val (.int p0), .val (.int p1), .val (.int p2), .val (.int p3), .val (.int p4), .val (.int p5), .val (.int (0 : Int32)), .val (.int (0 : Int32)), .val (.int x0), .val (.int x1), .val (.int x2), .val (.int y0), .val (.int y1), .val (.int y2), .val (.ref ar), .unset, .unset, .unset, .unset] [(.int (0 : Int32))])
      refine own_st (fun _ k => XS.ifYes X77.here hx rfl (pc0 := 74) (pc' := 83) rfl (hb hby at_74) rfl (by decide) (by decide) (by decide) k) ?_
      show own_Go p e s below _ _ _ T77 (mkF m 83 #[.val (.int p0), .val (.int p1), .val (.int p2), .val (.int p3), .val (.int p4), .val (.int p5), .val (.int (0 : Int32)), .val (.int (0 : Int32)), .val (.int x0), .val (.int x1), .val (.int x2), .val (.int y0), .val (.int y1), .val (.int y2), .val (.ref ar), .unset, .unset, .unset, .unset] [])
      refine own_st (fun _ k => XS.iload X77.here hx rfl (hb hby at_83) rfl k) ?_
      show own_Go p e s below _ _ _ T77 (mkF m 85 #[.val (.int p0), .val (.int p1), .val (.int p2), .val (.int p3), .val (.int p4), .val (.int p5), .val (.int (0 : Int32)), .val (.int (0 : Int32)), .val (.int x0), .val (.int x1), .val (.int x2), .val (.int y0), .val (.int y1), .val (.int y2), .val (.ref ar), .unset, .unset, .unset, .unset] [(.int (0 : Int32))])
      refine own_st (fun _ k => XS.iconst X77.here hx rfl (hb hby at_85) k) ?_
      show own_Go p e s below _ _ _ T77 (mkF m 86 #[.val (.int p0), .val (.int p1), .val (.int p2), .val (.int p3), .val (.int p4), .val (.int p5), .val (.int (0 : Int32)), .val (.int (0 : Int32)), .val (.int x0), .val (.int x1), .val (.int x2), .val (.int y0), .val (.int y1), .val (.int y2), .val (.ref ar), .unset, .unset, .unset, .unset] [(.int (1 : Int32)), (.int (0 : Int32))])
      refine own_st (fun _ k => XS.icmpYes X77.here hx rfl (pc0 := 86) (pc' := 95) rfl (hb hby at_86) rfl (by decide) (by decide) (by decide) k) ?_
      show own_Go p e s below _ _ _ T77 (mkF m 95 #[.val (.int p0), .val (.int p1), .val (.int p2), .val (.int p3), .val (.int p4), .val (.int p5), .val (.int (0 : Int32)), .val (.int (0 : Int32)), .val (.int x0), .val (.int x1), .val (.int x2), .val (.int y0), .val (.int y1), .val (.int y2), .val (.ref ar), .unset, .unset, .unset, .unset] [])
      refine own_st (fun _ k => XS.iload X77.here hx rfl (hb hby at_95) rfl k) ?_
      show own_Go p e s below _ _ _ T77 (mkF m 97 #[.val (.int p0), .val (.int p1), .val (.int p2), .val (.int p3), .val (.int p4), .val (.int p5), .val (.int (0 : Int32)), .val (.int (0 : Int32)), .val (.int x0), .val (.int x1), .val (.int x2), .val (.int y0), .val (.int y1), .val (.int y2), .val (.ref ar), .unset, .unset, .unset, .unset] [(.int (0 : Int32))])
      refine own_st (fun _ k => XS.iconst X77.here hx rfl (hb hby at_97) k) ?_
      show own_Go p e s below _ _ _ T77 (mkF m 98 #[.val (.int p0), .val (.int p1), .val (.int p2), .val (.int p3), .val (.int p4), .val (.int p5), .val (.int (0 : Int32)), .val (.int (0 : Int32)), .val (.int x0), .val (.int x1), .val (.int x2), .val (.int y0), .val (.int y1), .val (.int y2), .val (.ref ar), .unset, .unset, .unset, .unset] [(.int (2 : Int32)), (.int (0 : Int32))])
      refine own_st (fun _ k => XS.icmpYes X77.here hx rfl (pc0 := 98) (pc' := 107) rfl (hb hby at_98) rfl (by decide) (by decide) (by decide) k) ?_
      show own_Go p e s below _ _ _ T77 (mkF m 107 #[.val (.int p0), .val (.int p1), .val (.int p2), .val (.int p3), .val (.int p4), .val (.int p5), .val (.int (0 : Int32)), .val (.int (0 : Int32)), .val (.int x0), .val (.int x1), .val (.int x2), .val (.int y0), .val (.int y1), .val (.int y2), .val (.ref ar), .unset, .unset, .unset, .unset] [])
      refine own_st (fun _ k => XS.iload X77.here hx rfl (hb hby at_107) rfl k) ?_
      show own_Go p e s below _ _ _ T77 (mkF m 109 #[.val (.int p0), .val (.int p1), .val (.int p2), .val (.int p3), .val (.int p4), .val (.int p5), .val (.int (0 : Int32)), .val (.int (0 : Int32)), .val (.int x0), .val (.int x1), .val (.int x2), .val (.int y0), .val (.int y1), .val (.int y2), .val (.ref ar), .unset, .unset, .unset, .unset] [(.int (0 : Int32))])
      obtain ⟨T79, h79, k79, X79, e79, E79, A79, Ex79, st79⟩ := newPE X77 hx hZ (hw _ (List.mem_of_getElem? (i := 1) rfl)) e77 (g := (mkF m 109 #[.val (.int p0), .val (.int p1), .val (.int p2), .val (.int p3), .val (.int p4), .val (.int p5), .val (.int (0 : Int32)), .val (.int (0 : Int32)), .val (.int x0), .val (.int x1), .val (.int x2), .val (.int y0), .val (.int y1), .val (.int y2), .val (.ref ar), .unset, .unset, .unset, .unset] [(.int (0 : Int32))])) rfl (hb hby at_109) rfl (by decide) (cap := 0) (by decide) (by decide) (by decide) (by decide) (ad := "[I") (by decide)
      obtain ⟨ao, g79⟩ : ∃ z, z = h77.size := ⟨_, rfl⟩
      rw [← g79] at A79 Ex79 st79
      have g_ao : n0 ≤ ao := Nat.le_trans Z78 (Nat.le_of_eq g79.symm)
      have ne_ar_ao : ar ≠ ao := Nat.ne_of_lt (Nat.lt_of_lt_of_le V_ar.lt (Nat.le_of_eq g79.symm))
      have ne_ao_ar := Ne.symm ne_ar_ao
      replace V_ar := V_ar.ext E79
      replace E_ar := E_ar.ext E79
      have Z80 := Nat.le_trans Z78 E79.1
      have V_ao : Arv Z h79 ao k79 .int (0 : Int32) [] (.int (0 : Int32)) := (Arv.new A79 (by decide)).pad (pad_rep [] (.int (0 : Int32)) 0)
      have E_ao := Ex79
      refine own_st st79 ?_
      show own_Go p e s below _ _ _ T79 (mkF m 111 #[.val (.int p0), .val (.int p1), .val (.int p2), .val (.int p3), .val (.int p4), .val (.int p5), .val (.int (0 : Int32)), .val (.int (0 : Int32)), .val (.int x0), .val (.int x1), .val (.int x2), .val (.int y0), .val (.int y1), .val (.int y2), .val (.ref ar), .unset, .unset, .unset, .unset] [(.ref ao)])
      refine own_st (fun _ k => XS.astore X79.here hx rfl (hb hby at_111) rfl rfl (l' := #[.val (.int p0), .val (.int p1), .val (.int p2), .val (.int p3), .val (.int p4), .val (.int p5), .val (.int (0 : Int32)), .val (.int (0 : Int32)), .val (.int x0), .val (.int x1), .val (.int x2), .val (.int y0), .val (.int y1), .val (.int y2), .val (.ref ar), .val (.ref ao), .unset, .unset, .unset]) rfl k) ?_
      show own_Go p e s below _ _ _ T79 (mkF m 113 #[.val (.int p0), .val (.int p1), .val (.int p2), .val (.int p3), .val (.int p4), .val (.int p5), .val (.int (0 : Int32)), .val (.int (0 : Int32)), .val (.int x0), .val (.int x1), .val (.int x2), .val (.int y0), .val (.int y1), .val (.int y2), .val (.ref ar), .val (.ref ao), .unset, .unset, .unset] [])
      refine own_st (fun _ k => XS.iload X79.here hx rfl (hb hby at_113) rfl k) ?_
      show own_Go p e s below _ _ _ T79 (mkF m 115 #[.val (.int p0), .val (.int p1), .val (.int p2), .val (.int p3), .val (.int p4), .val (.int p5), .val (.int (0 : Int32)), .val (.int (0 : Int32)), .val (.int x0), .val (.int x1), .val (.int x2), .val (.int y0), .val (.int y1), .val (.int y2), .val (.ref ar), .val (.ref ao), .unset, .unset, .unset] [(.int (0 : Int32))])
      refine own_st (fun _ k => XS.ifYes X79.here hx rfl (pc0 := 115) (pc' := 124) rfl (hb hby at_115) rfl (by decide) (by decide) (by decide) k) ?_
      show own_Go p e s below _ _ _ T79 (mkF m 124 #[.val (.int p0), .val (.int p1), .val (.int p2), .val (.int p3), .val (.int p4), .val (.int p5), .val (.int (0 : Int32)), .val (.int (0 : Int32)), .val (.int x0), .val (.int x1), .val (.int x2), .val (.int y0), .val (.int y1), .val (.int y2), .val (.ref ar), .val (.ref ao), .unset, .unset, .unset] [])
      refine own_st (fun _ k => XS.iload X79.here hx rfl (hb hby at_124) rfl k) ?_
      show own_Go p e s below _ _ _ T79 (mkF m 126 #[.val (.int p0), .val (.int p1), .val (.int p2), .val (.int p3), .val (.int p4), .val (.int p5), .val (.int (0 : Int32)), .val (.int (0 : Int32)), .val (.int x0), .val (.int x1), .val (.int x2), .val (.int y0), .val (.int y1), .val (.int y2), .val (.ref ar), .val (.ref ao), .unset, .unset, .unset] [(.int (0 : Int32))])
      refine own_st (fun _ k => XS.iconst X79.here hx rfl (hb hby at_126) k) ?_
      show own_Go p e s below _ _ _ T79 (mkF m 127 #[.val (.int p0), .val (.int p1), .val (.int p2), .val (.int p3), .val (.int p4), .val (.int p5), .val (.int (0 : Int32)), .val (.int (0 : Int32)), .val (.int x0), .val (.int x1), .val (.int x2), .val (.int y0), .val (.int y1), .val (.int y2), .val (.ref ar), .val (.ref ao), .unset, .unset, .unset] [(.int (1 : Int32)), (.int (0 : Int32))])
      refine own_st (fun _ k => XS.icmpYes X79.here hx rfl (pc0 := 127) (pc' := 136) rfl (hb hby at_127) rfl (by decide) (by decide) (by decide) k) ?_
      show own_Go p e s below _ _ _ T79 (mkF m 136 #[.val (.int p0), .val (.int p1), .val (.int p2), .val (.int p3), .val (.int p4), .val (.int p5), .val (.int (0 : Int32)), .val (.int (0 : Int32)), .val (.int x0), .val (.int x1), .val (.int x2), .val (.int y0), .val (.int y1), .val (.int y2), .val (.ref ar), .val (.ref ao), .unset, .unset, .unset] [])
      refine own_st (fun _ k => XS.iload X79.here hx rfl (hb hby at_136) rfl k) ?_
      show own_Go p e s below _ _ _ T79 (mkF m 138 #[.val (.int p0), .val (.int p1), .val (.int p2), .val (.int p3), .val (.int p4), .val (.int p5), .val (.int (0 : Int32)), .val (.int (0 : Int32)), .val (.int x0), .val (.int x1), .val (.int x2), .val (.int y0), .val (.int y1), .val (.int y2), .val (.ref ar), .val (.ref ao), .unset, .unset, .unset] [(.int (0 : Int32))])
      refine own_st (fun _ k => XS.iconst X79.here hx rfl (hb hby at_138) k) ?_
      show own_Go p e s below _ _ _ T79 (mkF m 139 #[.val (.int p0), .val (.int p1), .val (.int p2), .val (.int p3), .val (.int p4), .val (.int p5), .val (.int (0 : Int32)), .val (.int (0 : Int32)), .val (.int x0), .val (.int x1), .val (.int x2), .val (.int y0), .val (.int y1), .val (.int y2), .val (.ref ar), .val (.ref ao), .unset, .unset, .unset] [(.int (2 : Int32)), (.int (0 : Int32))])
      refine own_st (fun _ k => XS.icmpYes X79.here hx rfl (pc0 := 139) (pc' := 148) rfl (hb hby at_139) rfl (by decide) (by decide) (by decide) k) ?_
      show own_Go p e s below _ _ _ T79 (mkF m 148 #[.val (.int p0), .val (.int p1), .val (.int p2), .val (.int p3), .val (.int p4), .val (.int p5), .val (.int (0 : Int32)), .val (.int (0 : Int32)), .val (.int x0), .val (.int x1), .val (.int x2), .val (.int y0), .val (.int y1), .val (.int y2), .val (.ref ar), .val (.ref ao), .unset, .unset, .unset] [])
      obtain ⟨T81, h81, X81, e81, E81, A81, D81, -, st81⟩ := newO X79 hx hZ hown (hw _ (List.mem_of_getElem? (i := 2) rfl)) (hw _ (List.mem_of_getElem? (i := 3) rfl)) (hw _ (List.mem_of_getElem? (i := 4) rfl)) e79 (g := (mkF m 148 #[.val (.int p0), .val (.int p1), .val (.int p2), .val (.int p3), .val (.int p4), .val (.int p5), .val (.int (0 : Int32)), .val (.int (0 : Int32)), .val (.int x0), .val (.int x1), .val (.int x2), .val (.int y0), .val (.int y1), .val (.int y2), .val (.ref ar), .val (.ref ao), .unset, .unset, .unset] [])) rfl (hb hby at_148) (by decide) (by decide)
      obtain ⟨bt, g81⟩ : ∃ z, z = h79.size := ⟨_, rfl⟩
      rw [← g81] at A81 D81 st81
      have g_bt : n0 ≤ bt := Nat.le_trans Z80 (Nat.le_of_eq g81.symm)
      have ne_ao_bt : ao ≠ bt := Nat.ne_of_lt (Nat.lt_of_lt_of_le V_ao.lt (Nat.le_of_eq g81.symm))
      have ne_bt_ao := Ne.symm ne_ao_bt
      have ne_ar_bt : ar ≠ bt := Nat.ne_of_lt (Nat.lt_of_lt_of_le V_ar.lt (Nat.le_of_eq g81.symm))
      have ne_bt_ar := Ne.symm ne_ar_bt
      replace V_ar := V_ar.ext E81
      replace E_ar := E_ar.ext E81
      replace V_ao := V_ao.ext E81
      replace E_ao := E_ao.ext E81
      have Z82 := Nat.le_trans Z80 E81.1
      have E_bt := A81
      have F_levels_bt : Fld Z h81 bt "com/example/hush5/hush5/model/Transformation" "levels" "[I" .null := D81 (Or.inr (hw _ (List.mem_of_getElem? (i := 21) rfl))) (ty := (.array .int)) (by decide)
      refine own_st st81 ?_
      show own_Go p e s below _ _ _ T81 (mkF m 151 #[.val (.int p0), .val (.int p1), .val (.int p2), .val (.int p3), .val (.int p4), .val (.int p5), .val (.int (0 : Int32)), .val (.int (0 : Int32)), .val (.int x0), .val (.int x1), .val (.int x2), .val (.int y0), .val (.int y1), .val (.int y2), .val (.ref ar), .val (.ref ao), .unset, .unset, .unset] [(.ref bt)])
      refine own_st (fun _ k => XS.dup X81.here hx rfl (hb hby at_151) rfl rfl k) ?_
      show own_Go p e s below _ _ _ T81 (mkF m 152 #[.val (.int p0), .val (.int p1), .val (.int p2), .val (.int p3), .val (.int p4), .val (.int p5), .val (.int (0 : Int32)), .val (.int (0 : Int32)), .val (.int x0), .val (.int x1), .val (.int x2), .val (.int y0), .val (.int y1), .val (.int y2), .val (.ref ar), .val (.ref ao), .unset, .unset, .unset] [(.ref bt), (.ref bt)])
      refine own_st (fun _ k => XS.aload X81.here hx rfl (hb hby at_152) rfl rfl k) ?_
      show own_Go p e s below _ _ _ T81 (mkF m 154 #[.val (.int p0), .val (.int p1), .val (.int p2), .val (.int p3), .val (.int p4), .val (.int p5), .val (.int (0 : Int32)), .val (.int (0 : Int32)), .val (.int x0), .val (.int x1), .val (.int x2), .val (.int y0), .val (.int y1), .val (.int y2), .val (.ref ar), .val (.ref ao), .unset, .unset, .unset] [(.ref ar), (.ref bt), (.ref bt)])
      refine own_callN X81 hx hZ (y := (⟨"com/example/hush5/hush5/model/Transformation", "<init>", "([I)V"⟩ : MethodName)) rfl hown (hw _ (List.mem_of_getElem? (i := 5) rfl)) (hw _ (List.mem_of_getElem? (i := 6) rfl)) (hw _ (List.mem_of_getElem? (i := 4) rfl)) (hw _ (List.mem_of_getElem? (i := 7) rfl)) (by decide) e81 (rm1_0 l Z a0 hw [] bt ar k77  h81 n0 Z82 E_bt F_levels_bt V_ar E_ar ne_bt_ar ne_ar_bt g_bt ) 1 (by decide) (by decide) (g := (mkF m 154 #[.val (.int p0), .val (.int p1), .val (.int p2), .val (.int p3), .val (.int p4), .val (.int p5), .val (.int (0 : Int32)), .val (.int (0 : Int32)), .val (.int x0), .val (.int x1), .val (.int x2), .val (.int y0), .val (.int y1), .val (.int y2), .val (.ref ar), .val (.ref ao), .unset, .unset, .unset] [(.ref ar), (.ref bt), (.ref bt)])) rfl (by rw [hml]; rfl) (a := bt) (argsL := [(.ref ar)]) (rest := [(.ref bt)]) pd0 rfl rfl rfl (by show 2 * 0 + _ ≤ _; exact Nat.le_of_eq rfl) (hb hby at_154) (by decide) (by decide) ?_
      intro T83 v83 L83 X83 hQ83
      obtain ⟨dt, rfl, N83q, K83q, y83_0, y83_1, y83_2, y83_3⟩ := hQ83
      have N83 := Fr.app N0 N83q
      replace V_ar := V_ar.keep K83q (ninS ne_ar_bt nin0)
      replace E_ar := E_ar.keep K83q
      replace V_ao := V_ao.keep K83q (ninS ne_ao_bt nin0)
      replace E_ao := E_ao.keep K83q
      replace E_bt := E_bt.keep K83q
      clear F_levels_bt
      have Z84 := Nat.le_trans Z82 K83q.1
      have E_bt := y83_0
      have F_levels_bt := y83_1
      have V_dt := y83_2
      have E_dt := y83_3
      show own_Go p e s below _ _ _ T83 (mkF m 157 #[.val (.int p0), .val (.int p1), .val (.int p2), .val (.int p3), .val (.int p4), .val (.int p5), .val (.int (0 : Int32)), .val (.int (0 : Int32)), .val (.int x0), .val (.int x1), .val (.int x2), .val (.int y0), .val (.int y1), .val (.int y2), .val (.ref ar), .val (.ref ao), .unset, .unset, .unset] [(.ref bt)])
      refine own_st (fun _ k => XS.astore X83.here hx rfl (hb hby at_157) rfl rfl (l' := #[.val (.int p0), .val (.int p1), .val (.int p2), .val (.int p3), .val (.int p4), .val (.int p5), .val (.int (0 : Int32)), .val (.int (0 : Int32)), .val (.int x0), .val (.int x1), .val (.int x2), .val (.int y0), .val (.int y1), .val (.int y2), .val (.ref ar), .val (.ref ao), .val (.ref bt), .unset, .unset]) rfl k) ?_
      show own_Go p e s below _ _ _ T83 (mkF m 159 #[.val (.int p0), .val (.int p1), .val (.int p2), .val (.int p3), .val (.int p4), .val (.int p5), .val (.int (0 : Int32)), .val (.int (0 : Int32)), .val (.int x0), .val (.int x1), .val (.int x2), .val (.int y0), .val (.int y1), .val (.int y2), .val (.ref ar), .val (.ref ao), .val (.ref bt), .unset, .unset] [])
      obtain ⟨T85, h85, X85, e85, E85, A85, D85, -, st85⟩ := newO X83 hx hZ hown (hw _ (List.mem_of_getElem? (i := 2) rfl)) (hw _ (List.mem_of_getElem? (i := 3) rfl)) (hw _ (List.mem_of_getElem? (i := 4) rfl)) rfl (g := (mkF m 159 #[.val (.int p0), .val (.int p1), .val (.int p2), .val (.int p3), .val (.int p4), .val (.int p5), .val (.int (0 : Int32)), .val (.int (0 : Int32)), .val (.int x0), .val (.int x1), .val (.int x2), .val (.int y0), .val (.int y1), .val (.int y2), .val (.ref ar), .val (.ref ao), .val (.ref bt), .unset, .unset] [])) rfl (hb hby at_159) (by decide) (by decide)
      obtain ⟨bu, g85⟩ : ∃ z, z = T83.heap.size := ⟨_, rfl⟩
      rw [← g85] at A85 D85 st85
      have g_bu : n0 ≤ bu := Nat.le_trans Z84 (Nat.le_of_eq g85.symm)
      have ne_ao_bu : ao ≠ bu := Nat.ne_of_lt (Nat.lt_of_lt_of_le V_ao.lt (Nat.le_of_eq g85.symm))
      have ne_bu_ao := Ne.symm ne_ao_bu
      have ne_ar_bu : ar ≠ bu := Nat.ne_of_lt (Nat.lt_of_lt_of_le V_ar.lt (Nat.le_of_eq g85.symm))
      have ne_bu_ar := Ne.symm ne_ar_bu
      have ne_bt_bu : bt ≠ bu := Nat.ne_of_lt (Nat.lt_of_lt_of_le E_bt.lt (Nat.le_of_eq g85.symm))
      have ne_bu_bt := Ne.symm ne_bt_bu
      have ne_dt_bu : dt ≠ bu := Nat.ne_of_lt (Nat.lt_of_lt_of_le V_dt.lt (Nat.le_of_eq g85.symm))
      have ne_bu_dt := Ne.symm ne_dt_bu
      replace V_ar := V_ar.ext E85
      replace E_ar := E_ar.ext E85
      replace V_ao := V_ao.ext E85
      replace E_ao := E_ao.ext E85
      replace E_bt := E_bt.ext E85
      replace F_levels_bt := F_levels_bt.ext E85
      replace V_dt := V_dt.ext E85
      replace E_dt := E_dt.ext E85
      have Z86 := Nat.le_trans Z84 E85.1
      have E_bu := A85
      have F_levels_bu : Fld Z h85 bu "com/example/hush5/hush5/model/Transformation" "levels" "[I" .null := D85 (Or.inr (hw _ (List.mem_of_getElem? (i := 21) rfl))) (ty := (.array .int)) (by decide)
      refine own_st st85 ?_
      show own_Go p e s below _ _ _ T85 (mkF m 162 #[.val (.int p0), .val (.int p1), .val (.int p2), .val (.int p3), .val (.int p4), .val (.int p5), .val (.int (0 : Int32)), .val (.int (0 : Int32)), .val (.int x0), .val (.int x1), .val (.int x2), .val (.int y0), .val (.int y1), .val (.int y2), .val (.ref ar), .val (.ref ao), .val (.ref bt), .unset, .unset] [(.ref bu)])
      refine own_st (fun _ k => XS.dup X85.here hx rfl (hb hby at_162) rfl rfl k) ?_
      show own_Go p e s below _ _ _ T85 (mkF m 163 #[.val (.int p0), .val (.int p1), .val (.int p2), .val (.int p3), .val (.int p4), .val (.int p5), .val (.int (0 : Int32)), .val (.int (0 : Int32)), .val (.int x0), .val (.int x1), .val (.int x2), .val (.int y0), .val (.int y1), .val (.int y2), .val (.ref ar), .val (.ref ao), .val (.ref bt), .unset, .unset] [(.ref bu), (.ref bu)])
      refine own_st (fun _ k => XS.aload X85.here hx rfl (hb hby at_163) rfl rfl k) ?_
      show own_Go p e s below _ _ _ T85 (mkF m 165 #[.val (.int p0), .val (.int p1), .val (.int p2), .val (.int p3), .val (.int p4), .val (.int p5), .val (.int (0 : Int32)), .val (.int (0 : Int32)), .val (.int x0), .val (.int x1), .val (.int x2), .val (.int y0), .val (.int y1), .val (.int y2), .val (.ref ar), .val (.ref ao), .val (.ref bt), .unset, .unset] [(.ref ao), (.ref bu), (.ref bu)])
      refine own_callN X85 hx hZ (y := (⟨"com/example/hush5/hush5/model/Transformation", "<init>", "([I)V"⟩ : MethodName)) rfl hown (hw _ (List.mem_of_getElem? (i := 5) rfl)) (hw _ (List.mem_of_getElem? (i := 6) rfl)) (hw _ (List.mem_of_getElem? (i := 4) rfl)) (hw _ (List.mem_of_getElem? (i := 7) rfl)) (by decide) e85 (rm1_0 l Z a0 hw [] bu ao k79  h85 n0 Z86 E_bu F_levels_bu V_ao E_ao ne_bu_ao ne_ao_bu g_bu ) 1 (by decide) (by decide) (g := (mkF m 165 #[.val (.int p0), .val (.int p1), .val (.int p2), .val (.int p3), .val (.int p4), .val (.int p5), .val (.int (0 : Int32)), .val (.int (0 : Int32)), .val (.int x0), .val (.int x1), .val (.int x2), .val (.int y0), .val (.int y1), .val (.int y2), .val (.ref ar), .val (.ref ao), .val (.ref bt), .unset, .unset] [(.ref ao), (.ref bu), (.ref bu)])) rfl (by rw [hml]; rfl) (a := bu) (argsL := [(.ref ao)]) (rest := [(.ref bu)]) pd0 rfl rfl rfl (by show 2 * 0 + _ ≤ _; exact Nat.le_of_eq rfl) (hb hby at_165) (by decide) (by decide) ?_
      intro T87 v87 L87 X87 hQ87
      obtain ⟨du, rfl, N87q, K87q, y87_0, y87_1, y87_2, y87_3⟩ := hQ87
      have N87 := Fr.app N83 N87q
      replace V_ar := V_ar.keep K87q (ninS ne_ar_bu nin0)
      replace E_ar := E_ar.keep K87q
      replace V_ao := V_ao.keep K87q (ninS ne_ao_bu nin0)
      replace E_ao := E_ao.keep K87q
      replace E_bt := E_bt.keep K87q
      replace F_levels_bt := F_levels_bt.keep K87q (ninS ne_bt_bu nin0)
      replace V_dt := V_dt.keep K87q (ninS ne_dt_bu nin0)
      replace E_dt := E_dt.keep K87q
      replace E_bu := E_bu.keep K87q
      clear F_levels_bu
      have Z88 := Nat.le_trans Z86 K87q.1
      have E_bu := y87_0
      have F_levels_bu := y87_1
      have V_du := y87_2
      have E_du := y87_3
      show own_Go p e s below _ _ _ T87 (mkF m 168 #[.val (.int p0), .val (.int p1), .val (.int p2), .val (.int p3), .val (.int p4), .val (.int p5), .val (.int (0 : Int32)), .val (.int (0 : Int32)), .val (.int x0), .val (.int x1), .val (.int x2), .val (.int y0), .val (.int y1), .val (.int y2), .val (.ref ar), .val (.ref ao), .val (.ref bt), .unset, .unset] [(.ref bu)])
      refine own_st (fun _ k => XS.astore X87.here hx rfl (hb hby at_168) rfl rfl (l' := #[.val (.int p0), .val (.int p1), .val (.int p2), .val (.int p3), .val (.int p4), .val (.int p5), .val (.int (0 : Int32)), .val (.int (0 : Int32)), .val (.int x0), .val (.int x1), .val (.int x2), .val (.int y0), .val (.int y1), .val (.int y2), .val (.ref ar), .val (.ref ao), .val (.ref bt), .val (.ref bu), .unset]) rfl k) ?_
      show own_Go p e s below _ _ _ T87 (mkF m 170 #[.val (.int p0), .val (.int p1), .val (.int p2), .val (.int p3), .val (.int p4), .val (.int p5), .val (.int (0 : Int32)), .val (.int (0 : Int32)), .val (.int x0), .val (.int x1), .val (.int x2), .val (.int y0), .val (.int y1), .val (.int y2), .val (.ref ar), .val (.ref ao), .val (.ref bt), .val (.ref bu), .unset] [])
      refine own_st (fun _ k => XS.iload X87.here hx rfl (hb hby at_170) rfl k) ?_
      show own_Go p e s below _ _ _ T87 (mkF m 172 #[.val (.int p0), .val (.int p1), .val (.int p2), .val (.int p3), .val (.int p4), .val (.int p5), .val (.int (0 : Int32)), .val (.int (0 : Int32)), .val (.int x0), .val (.int x1), .val (.int x2), .val (.int y0), .val (.int y1), .val (.int y2), .val (.ref ar), .val (.ref ao), .val (.ref bt), .val (.ref bu), .unset] [(.int (0 : Int32))])
      refine own_st (fun _ k => XS.iconst X87.here hx rfl (hb hby at_172) k) ?_
      show own_Go p e s below _ _ _ T87 (mkF m 173 #[.val (.int p0), .val (.int p1), .val (.int p2), .val (.int p3), .val (.int p4), .val (.int p5), .val (.int (0 : Int32)), .val (.int (0 : Int32)), .val (.int x0), .val (.int x1), .val (.int x2), .val (.int y0), .val (.int y1), .val (.int y2), .val (.ref ar), .val (.ref ao), .val (.ref bt), .val (.ref bu), .unset] [(.int (1 : Int32)), (.int (0 : Int32))])
      have J214 : ∀  (bz : Int32) (_ : bz = own_b (True)), own_Go p e s below (fun (v : Option Value) (h : Heap) (L : List Loc) => v = some (.int 1) ∧ Fr n0 L) 24 128 T87 (mkF m 214 #[.val (.int p0), .val (.int p1), .val (.int p2), .val (.int p3), .val (.int p4), .val (.int p5), .val (.int (0 : Int32)), .val (.int (0 : Int32)), .val (.int x0), .val (.int x1), .val (.int x2), .val (.int y0), .val (.int y1), .val (.int y2), .val (.ref ar), .val (.ref ao), .val (.ref bt), .val (.ref bu), .unset] [(.int bz)]) := by
        rintro _ rfl
        show own_Go p e s below _ _ _ T87 (mkF m 214 #[.val (.int p0), .val (.int p1), .val (.int p2), .val (.int p3), .val (.int p4), .val (.int p5), .val (.int (0 : Int32)), .val (.int (0 : Int32)), .val (.int x0), .val (.int x1), .val (.int x2), .val (.int y0), .val (.int y1), .val (.int y2), .val (.ref ar), .val (.ref ao), .val (.ref bt), .val (.ref bu), .unset] [(.int (own_b (True)))])
        refine own_st (fun _ k => XS.istore X87.here hx rfl (hb hby at_214) rfl (l' := #[.val (.int p0), .val (.int p1), .val (.int p2), .val (.int p3), .val (.int p4), .val (.int p5), .val (.int (0 : Int32)), .val (.int (0 : Int32)), .val (.int x0), .val (.int x1), .val (.int x2), .val (.int y0), .val (.int y1), .val (.int y2), .val (.ref ar), .val (.ref ao), .val (.ref bt), .val (.ref bu), .val (.int (own_b (True)))]) rfl k) ?_
        show own_Go p e s below _ _ _ T87 (mkF m 216 #[.val (.int p0), .val (.int p1), .val (.int p2), .val (.int p3), .val (.int p4), .val (.int p5), .val (.int (0 : Int32)), .val (.int (0 : Int32)), .val (.int x0), .val (.int x1), .val (.int x2), .val (.int y0), .val (.int y1), .val (.int y2), .val (.ref ar), .val (.ref ao), .val (.ref bt), .val (.ref bu), .val (.int (own_b (True)))] [])
        refine own_st (fun _ k => XS.aload X87.here hx rfl (hb hby at_216) rfl rfl k) ?_
        show own_Go p e s below _ _ _ T87 (mkF m 218 #[.val (.int p0), .val (.int p1), .val (.int p2), .val (.int p3), .val (.int p4), .val (.int p5), .val (.int (0 : Int32)), .val (.int (0 : Int32)), .val (.int x0), .val (.int x1), .val (.int x2), .val (.int y0), .val (.int y1), .val (.int y2), .val (.ref ar), .val (.ref ao), .val (.ref bt), .val (.ref bu), .val (.int (own_b (True)))] [(.ref bt)])
        refine own_st (fun _ k => XS.aload X87.here hx rfl (hb hby at_218) rfl rfl k) ?_
        show own_Go p e s below _ _ _ T87 (mkF m 220 #[.val (.int p0), .val (.int p1), .val (.int p2), .val (.int p3), .val (.int p4), .val (.int p5), .val (.int (0 : Int32)), .val (.int (0 : Int32)), .val (.int x0), .val (.int x1), .val (.int x2), .val (.int y0), .val (.int y1), .val (.int y2), .val (.ref ar), .val (.ref ao), .val (.ref bt), .val (.ref bu), .val (.int (own_b (True)))] [(.ref bu), (.ref bt)])
        refine own_callV X87 hx hZ (y := (⟨"com/example/hush5/hush5/model/Transformation", "liesAtOrBelow", "(Lcom/example/hush5/hush5/model/Transformation;)Z"⟩ : MethodName)) hown (hw _ (List.mem_of_getElem? (i := 22) rfl)) (hw _ (List.mem_of_getElem? (i := 23) rfl)) (hw _ (List.mem_of_getElem? (i := 25) rfl)) (hw _ (List.mem_of_getElem? (i := 24) rfl)) (hw _ (List.mem_of_getElem? (i := 4) rfl)) (hw _ (List.mem_of_getElem? (i := 26) rfl)) (by decide) rfl (rm3_0_0 l Z a0 hw [] bt bu dt du k77 k79   T87.heap n0 Z88 F_levels_bt F_levels_bu V_dt V_du) 0 (by decide) (by decide) E_bt (g := (mkF m 220 #[.val (.int p0), .val (.int p1), .val (.int p2), .val (.int p3), .val (.int p4), .val (.int p5), .val (.int (0 : Int32)), .val (.int (0 : Int32)), .val (.int x0), .val (.int x1), .val (.int x2), .val (.int y0), .val (.int y1), .val (.int y2), .val (.ref ar), .val (.ref ao), .val (.ref bt), .val (.ref bu), .val (.int (own_b (True)))] [(.ref bu), (.ref bt)])) rfl (by rw [hml]; rfl) (argsL := [(.ref bu)]) (rest := []) pd1 rfl rfl rfl (by show 2 * 0 + _ ≤ _; exact Nat.le_of_eq rfl) (hb hby at_220) (by decide) (by decide) ?_
        intro T89 v89 L89 X89 hQ89
        obtain ⟨rfl, N89q, e89⟩ := hQ89
        have N89 := Fr.app N87 N89q
        show own_Go p e s below _ _ _ T89 (mkF m 223 #[.val (.int p0), .val (.int p1), .val (.int p2), .val (.int p3), .val (.int p4), .val (.int p5), .val (.int (0 : Int32)), .val (.int (0 : Int32)), .val (.int x0), .val (.int x1), .val (.int x2), .val (.int y0), .val (.int y1), .val (.int y2), .val (.ref ar), .val (.ref ao), .val (.ref bt), .val (.ref bu), .val (.int (own_b (True)))] [(.int (own_b (True)))])
        refine own_st (fun _ k => XS.iload X89.here hx rfl (hb hby at_223) rfl k) ?_
        show own_Go p e s below _ _ _ T89 (mkF m 225 #[.val (.int p0), .val (.int p1), .val (.int p2), .val (.int p3), .val (.int p4), .val (.int p5), .val (.int (0 : Int32)), .val (.int (0 : Int32)), .val (.int x0), .val (.int x1), .val (.int x2), .val (.int y0), .val (.int y1), .val (.int y2), .val (.ref ar), .val (.ref ao), .val (.ref bt), .val (.ref bu), .val (.int (own_b (True)))] [(.int (own_b (True))), (.int (own_b (True)))])
        refine own_st (fun _ k => XS.icmpNo X89.here hx rfl (hb hby at_225) rfl (teq (rfl : (own_b (True)) = (own_b (True)))).2 k) ?_
        show own_Go p e s below _ _ _ T89 (mkF m 228 #[.val (.int p0), .val (.int p1), .val (.int p2), .val (.int p3), .val (.int p4), .val (.int p5), .val (.int (0 : Int32)), .val (.int (0 : Int32)), .val (.int x0), .val (.int x1), .val (.int x2), .val (.int y0), .val (.int y1), .val (.int y2), .val (.ref ar), .val (.ref ao), .val (.ref bt), .val (.ref bu), .val (.int (own_b (True)))] [])
        refine own_st (fun _ k => XS.iconst X89.here hx rfl (hb hby at_228) k) ?_
        show own_Go p e s below _ _ _ T89 (mkF m 229 #[.val (.int p0), .val (.int p1), .val (.int p2), .val (.int p3), .val (.int p4), .val (.int p5), .val (.int (0 : Int32)), .val (.int (0 : Int32)), .val (.int x0), .val (.int x1), .val (.int x2), .val (.int y0), .val (.int y1), .val (.int y2), .val (.ref ar), .val (.ref ao), .val (.ref bt), .val (.ref bu), .val (.int (own_b (True)))] [(.int (1 : Int32))])
        refine own_st (fun _ k => XS.goto X89.here hx rfl (pc0 := 229) (pc' := 233) rfl (hb hby at_229) (by decide) (by decide) k) ?_
        show own_Go p e s below _ _ _ T89 (mkF m 233 #[.val (.int p0), .val (.int p1), .val (.int p2), .val (.int p3), .val (.int p4), .val (.int p5), .val (.int (0 : Int32)), .val (.int (0 : Int32)), .val (.int x0), .val (.int x1), .val (.int x2), .val (.int y0), .val (.int y1), .val (.int y2), .val (.ref ar), .val (.ref ao), .val (.ref bt), .val (.ref bu), .val (.int (own_b (True)))] [(.int (1 : Int32))])
        exact own_retN X89 hx hlk (t := .boolean) hret (by simp) (hb hby at_233) (z' := (1 : Int32)) rfl (by decide) (by decide) ⟨rfl, N89⟩
      refine own_st (fun _ k => XS.icmpYes X87.here hx rfl (pc0 := 173) (pc' := 183) rfl (hb hby at_173) rfl (by decide) (by decide) (by decide) k) ?_
      show own_Go p e s below _ _ _ T87 (mkF m 183 #[.val (.int p0), .val (.int p1), .val (.int p2), .val (.int p3), .val (.int p4), .val (.int p5), .val (.int (0 : Int32)), .val (.int (0 : Int32)), .val (.int x0), .val (.int x1), .val (.int x2), .val (.int y0), .val (.int y1), .val (.int y2), .val (.ref ar), .val (.ref ao), .val (.ref bt), .val (.ref bu), .unset] [])
      refine own_st (fun _ k => XS.iload X87.here hx rfl (hb hby at_183) rfl k) ?_
      show own_Go p e s below _ _ _ T87 (mkF m 185 #[.val (.int p0), .val (.int p1), .val (.int p2), .val (.int p3), .val (.int p4), .val (.int p5), .val (.int (0 : Int32)), .val (.int (0 : Int32)), .val (.int x0), .val (.int x1), .val (.int x2), .val (.int y0), .val (.int y1), .val (.int y2), .val (.ref ar), .val (.ref ao), .val (.ref bt), .val (.ref bu), .unset] [(.int (0 : Int32))])
      refine own_st (fun _ k => XS.iconst X87.here hx rfl (hb hby at_185) k) ?_
      show own_Go p e s below _ _ _ T87 (mkF m 186 #[.val (.int p0), .val (.int p1), .val (.int p2), .val (.int p3), .val (.int p4), .val (.int p5), .val (.int (0 : Int32)), .val (.int (0 : Int32)), .val (.int x0), .val (.int x1), .val (.int x2), .val (.int y0), .val (.int y1), .val (.int y2), .val (.ref ar), .val (.ref ao), .val (.ref bt), .val (.ref bu), .unset] [(.int (2 : Int32)), (.int (0 : Int32))])
      refine own_st (fun _ k => XS.icmpYes X87.here hx rfl (pc0 := 186) (pc' := 196) rfl (hb hby at_186) rfl (by decide) (by decide) (by decide) k) ?_
      show own_Go p e s below _ _ _ T87 (mkF m 196 #[.val (.int p0), .val (.int p1), .val (.int p2), .val (.int p3), .val (.int p4), .val (.int p5), .val (.int (0 : Int32)), .val (.int (0 : Int32)), .val (.int x0), .val (.int x1), .val (.int x2), .val (.int y0), .val (.int y1), .val (.int y2), .val (.ref ar), .val (.ref ao), .val (.ref bt), .val (.ref bu), .unset] [])
      refine own_st (fun _ k => XS.iload X87.here hx rfl (hb hby at_196) rfl k) ?_
      show own_Go p e s below _ _ _ T87 (mkF m 198 #[.val (.int p0), .val (.int p1), .val (.int p2), .val (.int p3), .val (.int p4), .val (.int p5), .val (.int (0 : Int32)), .val (.int (0 : Int32)), .val (.int x0), .val (.int x1), .val (.int x2), .val (.int y0), .val (.int y1), .val (.int y2), .val (.ref ar), .val (.ref ao), .val (.ref bt), .val (.ref bu), .unset] [(.int (0 : Int32))])
      refine own_st (fun _ k => XS.iconst X87.here hx rfl (hb hby at_198) k) ?_
      show own_Go p e s below _ _ _ T87 (mkF m 199 #[.val (.int p0), .val (.int p1), .val (.int p2), .val (.int p3), .val (.int p4), .val (.int p5), .val (.int (0 : Int32)), .val (.int (0 : Int32)), .val (.int x0), .val (.int x1), .val (.int x2), .val (.int y0), .val (.int y1), .val (.int y2), .val (.ref ar), .val (.ref ao), .val (.ref bt), .val (.ref bu), .unset] [(.int (3 : Int32)), (.int (0 : Int32))])
      refine own_st (fun _ k => XS.icmpYes X87.here hx rfl (pc0 := 199) (pc' := 209) rfl (hb hby at_199) rfl (by decide) (by decide) (by decide) k) ?_
      show own_Go p e s below _ _ _ T87 (mkF m 209 #[.val (.int p0), .val (.int p1), .val (.int p2), .val (.int p3), .val (.int p4), .val (.int p5), .val (.int (0 : Int32)), .val (.int (0 : Int32)), .val (.int x0), .val (.int x1), .val (.int x2), .val (.int y0), .val (.int y1), .val (.int y2), .val (.ref ar), .val (.ref ao), .val (.ref bt), .val (.ref bu), .unset] [])
      refine own_st (fun _ k => XS.iconst X87.here hx rfl (hb hby at_209) k) ?_
      show own_Go p e s below _ _ _ T87 (mkF m 210 #[.val (.int p0), .val (.int p1), .val (.int p2), .val (.int p3), .val (.int p4), .val (.int p5), .val (.int (0 : Int32)), .val (.int (0 : Int32)), .val (.int x0), .val (.int x1), .val (.int x2), .val (.int y0), .val (.int y1), .val (.int y2), .val (.ref ar), .val (.ref ao), .val (.ref bt), .val (.ref bu), .unset] [(.int (1 : Int32))])
      refine own_st (fun _ k => XS.goto X87.here hx rfl (pc0 := 210) (pc' := 214) rfl (hb hby at_210) (by decide) (by decide) k) ?_
      show own_Go p e s below _ _ _ T87 (mkF m 214 #[.val (.int p0), .val (.int p1), .val (.int p2), .val (.int p3), .val (.int p4), .val (.int p5), .val (.int (0 : Int32)), .val (.int (0 : Int32)), .val (.int x0), .val (.int x1), .val (.int x2), .val (.int y0), .val (.int y1), .val (.int y2), .val (.ref ar), .val (.ref ao), .val (.ref bt), .val (.ref bu), .unset] [(.int (1 : Int32))])
      exact J214  _ (by rw [own_bt (P := (True)) (by simp [])])
    · refine own_st (fun _ k => XS.ifNo X0.here hx rfl (hb hby at_17) rfl ((if0 _ _).trans (feq c17_76).1) k) ?_
      show own_Go p e s below _ _ _ T0 (mkF m 20 #[.val (.int p0), .val (.int p1), .val (.int p2), .val (.int p3), .val (.int p4), .val (.int p5), .val (.int (0 : Int32)), .unset, .unset, .unset, .unset, .unset, .unset, .unset, .unset, .unset, .unset, .unset, .unset] [])
      refine own_st (fun _ k => XS.iconst X0.here hx rfl (hb hby at_20) k) ?_
      show own_Go p e s below _ _ _ T0 (mkF m 21 #[.val (.int p0), .val (.int p1), .val (.int p2), .val (.int p3), .val (.int p4), .val (.int p5), .val (.int (0 : Int32)), .unset, .unset, .unset, .unset, .unset, .unset, .unset, .unset, .unset, .unset, .unset, .unset] [(.int (3 : Int32))])
      refine own_st (fun _ k => XS.goto X0.here hx rfl (pc0 := 21) (pc' := 26) rfl (hb hby at_21) (by decide) (by decide) k) ?_
      show own_Go p e s below _ _ _ T0 (mkF m 26 #[.val (.int p0), .val (.int p1), .val (.int p2), .val (.int p3), .val (.int p4), .val (.int p5), .val (.int (0 : Int32)), .unset, .unset, .unset, .unset, .unset, .unset, .unset, .unset, .unset, .unset, .unset, .unset] [(.int (3 : Int32))])
      refine own_st (fun _ k => XS.istore X0.here hx rfl (hb hby at_26) rfl (l' := #[.val (.int p0), .val (.int p1), .val (.int p2), .val (.int p3), .val (.int p4), .val (.int p5), .val (.int (0 : Int32)), .val (.int (3 : Int32)), .unset, .unset, .unset, .unset, .unset, .unset, .unset, .unset, .unset, .unset, .unset]) rfl k) ?_
      show own_Go p e s below _ _ _ T0 (mkF m 28 #[.val (.int p0), .val (.int p1), .val (.int p2), .val (.int p3), .val (.int p4), .val (.int p5), .val (.int (0 : Int32)), .val (.int (3 : Int32)), .unset, .unset, .unset, .unset, .unset, .unset, .unset, .unset, .unset, .unset, .unset] [])
      refine own_st (fun _ k => XS.iloadN X0.here hx rfl (hb hby at_28) rfl k) ?_
      show own_Go p e s below _ _ _ T0 (mkF m 29 #[.val (.int p0), .val (.int p1), .val (.int p2), .val (.int p3), .val (.int p4), .val (.int p5), .val (.int (0 : Int32)), .val (.int (3 : Int32)), .unset, .unset, .unset, .unset, .unset, .unset, .unset, .unset, .unset, .unset, .unset] [(.int p0)])
      refine own_st (X0.ldcInt hx hown (mvT hZ (hw _ (List.mem_of_getElem? (i := 0) rfl))) (g := (mkF m 29 #[.val (.int p0), .val (.int p1), .val (.int p2), .val (.int p3), .val (.int p4), .val (.int p5), .val (.int (0 : Int32)), .val (.int (3 : Int32)), .unset, .unset, .unset, .unset, .unset, .unset, .unset, .unset, .unset, .unset, .unset] [(.int p0)])) rfl (hb hby at_29)) ?_
      show own_Go p e s below _ _ _ T0 (mkF m 31 #[.val (.int p0), .val (.int p1), .val (.int p2), .val (.int p3), .val (.int p4), .val (.int p5), .val (.int (0 : Int32)), .val (.int (3 : Int32)), .unset, .unset, .unset, .unset, .unset, .unset, .unset, .unset, .unset, .unset, .unset] [(.int (2147483647 : Int32)), (.int p0)])
      refine own_st (fun _ k => XS.iand X0.here hx rfl (hb hby at_31) rfl k) ?_
      show own_Go p e s below _ _ _ T0 (mkF m 32 #[.val (.int p0), .val (.int p1), .val (.int p2), .val (.int p3), .val (.int p4), .val (.int p5), .val (.int (0 : Int32)), .val (.int (3 : Int32)), .unset, .unset, .unset, .unset, .unset, .unset, .unset, .unset, .unset, .unset, .unset] [(.int (p0 &&& (2147483647 : Int32)))])
      refine own_st (fun _ k => XS.istore X0.here hx rfl (hb hby at_32) rfl (l' := #[.val (.int p0), .val (.int p1), .val (.int p2), .val (.int p3), .val (.int p4), .val (.int p5), .val (.int (0 : Int32)), .val (.int (3 : Int32)), .val (.int (p0 &&& (2147483647 : Int32))), .unset, .unset, .unset, .unset, .unset, .unset, .unset, .unset, .unset, .unset]) rfl k) ?_
      show own_Go p e s below _ _ _ T0 (mkF m 34 #[.val (.int p0), .val (.int p1), .val (.int p2), .val (.int p3), .val (.int p4), .val (.int p5), .val (.int (0 : Int32)), .val (.int (3 : Int32)), .val (.int (p0 &&& (2147483647 : Int32))), .unset, .unset, .unset, .unset, .unset, .unset, .unset, .unset, .unset, .unset] [])
      refine own_st (fun _ k => XS.iloadN X0.here hx rfl (hb hby at_34) rfl k) ?_
      show own_Go p e s below _ _ _ T0 (mkF m 35 #[.val (.int p0), .val (.int p1), .val (.int p2), .val (.int p3), .val (.int p4), .val (.int p5), .val (.int (0 : Int32)), .val (.int (3 : Int32)), .val (.int (p0 &&& (2147483647 : Int32))), .unset, .unset, .unset, .unset, .unset, .unset, .unset, .unset, .unset, .unset] [(.int p1)])
      refine own_st (X0.ldcInt hx hown (mvT hZ (hw _ (List.mem_of_getElem? (i := 0) rfl))) (g := (mkF m 35 #[.val (.int p0), .val (.int p1), .val (.int p2), .val (.int p3), .val (.int p4), .val (.int p5), .val (.int (0 : Int32)), .val (.int (3 : Int32)), .val (.int (p0 &&& (2147483647 : Int32))), .unset, .unset, .unset, .unset, .unset, .unset, .unset, .unset, .unset, .unset] [(.int p1)])) rfl (hb hby at_35)) ?_
      show own_Go p e s below _ _ _ T0 (mkF m 37 #[.val (.int p0), .val (.int p1), .val (.int p2), .val (.int p3), .val (.int p4), .val (.int p5), .val (.int (0 : Int32)), .val (.int (3 : Int32)), .val (.int (p0 &&& (2147483647 : Int32))), .unset, .unset, .unset, .unset, .unset, .unset, .unset, .unset, .unset, .unset] [(.int (2147483647 : Int32)), (.int p1)])
      refine own_st (fun _ k => XS.iand X0.here hx rfl (hb hby at_37) rfl k) ?_
      show own_Go p e s below _ _ _ T0 (mkF m 38 #[.val (.int p0), .val (.int p1), .val (.int p2), .val (.int p3), .val (.int p4), .val (.int p5), .val (.int (0 : Int32)), .val (.int (3 : Int32)), .val (.int (p0 &&& (2147483647 : Int32))), .unset, .unset, .unset, .unset, .unset, .unset, .unset, .unset, .unset, .unset] [(.int (p1 &&& (2147483647 : Int32)))])
      refine own_st (fun _ k => XS.istore X0.here hx rfl (hb hby at_38) rfl (l' := #[.val (.int p0), .val (.int p1), .val (.int p2), .val (.int p3), .val (.int p4), .val (.int p5), .val (.int (0 : Int32)), .val (.int (3 : Int32)), .val (.int (p0 &&& (2147483647 : Int32))), .val (.int (p1 &&& (2147483647 : Int32))), .unset, .unset, .unset, .unset, .unset, .unset, .unset, .unset, .unset]) rfl k) ?_
      show own_Go p e s below _ _ _ T0 (mkF m 40 #[.val (.int p0), .val (.int p1), .val (.int p2), .val (.int p3), .val (.int p4), .val (.int p5), .val (.int (0 : Int32)), .val (.int (3 : Int32)), .val (.int (p0 &&& (2147483647 : Int32))), .val (.int (p1 &&& (2147483647 : Int32))), .unset, .unset, .unset, .unset, .unset, .unset, .unset, .unset, .unset] [])
      refine own_st (fun _ k => XS.iloadN X0.here hx rfl (hb hby at_40) rfl k) ?_
      show own_Go p e s below _ _ _ T0 (mkF m 41 #[.val (.int p0), .val (.int p1), .val (.int p2), .val (.int p3), .val (.int p4), .val (.int p5), .val (.int (0 : Int32)), .val (.int (3 : Int32)), .val (.int (p0 &&& (2147483647 : Int32))), .val (.int (p1 &&& (2147483647 : Int32))), .unset, .unset, .unset, .unset, .unset, .unset, .unset, .unset, .unset] [(.int p2)])
      refine own_st (X0.ldcInt hx hown (mvT hZ (hw _ (List.mem_of_getElem? (i := 0) rfl))) (g := (mkF m 41 #[.val (.int p0), .val (.int p1), .val (.int p2), .val (.int p3), .val (.int p4), .val (.int p5), .val (.int (0 : Int32)), .val (.int (3 : Int32)), .val (.int (p0 &&& (2147483647 : Int32))), .val (.int (p1 &&& (2147483647 : Int32))), .unset, .unset, .unset, .unset, .unset, .unset, .unset, .unset, .unset] [(.int p2)])) rfl (hb hby at_41)) ?_
      show own_Go p e s below _ _ _ T0 (mkF m 43 #[.val (.int p0), .val (.int p1), .val (.int p2), .val (.int p3), .val (.int p4), .val (.int p5), .val (.int (0 : Int32)), .val (.int (3 : Int32)), .val (.int (p0 &&& (2147483647 : Int32))), .val (.int (p1 &&& (2147483647 : Int32))), .unset, .unset, .unset, .unset, .unset, .unset, .unset, .unset, .unset] [(.int (2147483647 : Int32)), (.int p2)])
      refine own_st (fun _ k => XS.iand X0.here hx rfl (hb hby at_43) rfl k) ?_
      show own_Go p e s below _ _ _ T0 (mkF m 44 #[.val (.int p0), .val (.int p1), .val (.int p2), .val (.int p3), .val (.int p4), .val (.int p5), .val (.int (0 : Int32)), .val (.int (3 : Int32)), .val (.int (p0 &&& (2147483647 : Int32))), .val (.int (p1 &&& (2147483647 : Int32))), .unset, .unset, .unset, .unset, .unset, .unset, .unset, .unset, .unset] [(.int (p2 &&& (2147483647 : Int32)))])
      refine own_st (fun _ k => XS.istore X0.here hx rfl (hb hby at_44) rfl (l' := #[.val (.int p0), .val (.int p1), .val (.int p2), .val (.int p3), .val (.int p4), .val (.int p5), .val (.int (0 : Int32)), .val (.int (3 : Int32)), .val (.int (p0 &&& (2147483647 : Int32))), .val (.int (p1 &&& (2147483647 : Int32))), .val (.int (p2 &&& (2147483647 : Int32))), .unset, .unset, .unset, .unset, .unset, .unset, .unset, .unset]) rfl k) ?_
      show own_Go p e s below _ _ _ T0 (mkF m 46 #[.val (.int p0), .val (.int p1), .val (.int p2), .val (.int p3), .val (.int p4), .val (.int p5), .val (.int (0 : Int32)), .val (.int (3 : Int32)), .val (.int (p0 &&& (2147483647 : Int32))), .val (.int (p1 &&& (2147483647 : Int32))), .val (.int (p2 &&& (2147483647 : Int32))), .unset, .unset, .unset, .unset, .unset, .unset, .unset, .unset] [])
      refine own_st (fun _ k => XS.iloadN X0.here hx rfl (hb hby at_46) rfl k) ?_
      show own_Go p e s below _ _ _ T0 (mkF m 47 #[.val (.int p0), .val (.int p1), .val (.int p2), .val (.int p3), .val (.int p4), .val (.int p5), .val (.int (0 : Int32)), .val (.int (3 : Int32)), .val (.int (p0 &&& (2147483647 : Int32))), .val (.int (p1 &&& (2147483647 : Int32))), .val (.int (p2 &&& (2147483647 : Int32))), .unset, .unset, .unset, .unset, .unset, .unset, .unset, .unset] [(.int p3)])
      refine own_st (X0.ldcInt hx hown (mvT hZ (hw _ (List.mem_of_getElem? (i := 0) rfl))) (g := (mkF m 47 #[.val (.int p0), .val (.int p1), .val (.int p2), .val (.int p3), .val (.int p4), .val (.int p5), .val (.int (0 : Int32)), .val (.int (3 : Int32)), .val (.int (p0 &&& (2147483647 : Int32))), .val (.int (p1 &&& (2147483647 : Int32))), .val (.int (p2 &&& (2147483647 : Int32))), .unset, .unset, .unset, .unset, .unset, .unset, .unset, .unset] [(.int p3)])) rfl (hb hby at_47)) ?_
      show own_Go p e s below _ _ _ T0 (mkF m 49 #[.val (.int p0), .val (.int p1), .val (.int p2), .val (.int p3), .val (.int p4), .val (.int p5), .val (.int (0 : Int32)), .val (.int (3 : Int32)), .val (.int (p0 &&& (2147483647 : Int32))), .val (.int (p1 &&& (2147483647 : Int32))), .val (.int (p2 &&& (2147483647 : Int32))), .unset, .unset, .unset, .unset, .unset, .unset, .unset, .unset] [(.int (2147483647 : Int32)), (.int p3)])
      refine own_st (fun _ k => XS.iand X0.here hx rfl (hb hby at_49) rfl k) ?_
      show own_Go p e s below _ _ _ T0 (mkF m 50 #[.val (.int p0), .val (.int p1), .val (.int p2), .val (.int p3), .val (.int p4), .val (.int p5), .val (.int (0 : Int32)), .val (.int (3 : Int32)), .val (.int (p0 &&& (2147483647 : Int32))), .val (.int (p1 &&& (2147483647 : Int32))), .val (.int (p2 &&& (2147483647 : Int32))), .unset, .unset, .unset, .unset, .unset, .unset, .unset, .unset] [(.int (p3 &&& (2147483647 : Int32)))])
      refine own_st (fun _ k => XS.istore X0.here hx rfl (hb hby at_50) rfl (l' := #[.val (.int p0), .val (.int p1), .val (.int p2), .val (.int p3), .val (.int p4), .val (.int p5), .val (.int (0 : Int32)), .val (.int (3 : Int32)), .val (.int (p0 &&& (2147483647 : Int32))), .val (.int (p1 &&& (2147483647 : Int32))), .val (.int (p2 &&& (2147483647 : Int32))), .val (.int (p3 &&& (2147483647 : Int32))), .unset, .unset, .unset, .unset, .unset, .unset, .unset]) rfl k) ?_
      show own_Go p e s below _ _ _ T0 (mkF m 52 #[.val (.int p0), .val (.int p1), .val (.int p2), .val (.int p3), .val (.int p4), .val (.int p5), .val (.int (0 : Int32)), .val (.int (3 : Int32)), .val (.int (p0 &&& (2147483647 : Int32))), .val (.int (p1 &&& (2147483647 : Int32))), .val (.int (p2 &&& (2147483647 : Int32))), .val (.int (p3 &&& (2147483647 : Int32))), .unset, .unset, .unset, .unset, .unset, .unset, .unset] [])
      refine own_st (fun _ k => XS.iload X0.here hx rfl (hb hby at_52) rfl k) ?_
      show own_Go p e s below _ _ _ T0 (mkF m 54 #[.val (.int p0), .val (.int p1), .val (.int p2), .val (.int p3), .val (.int p4), .val (.int p5), .val (.int (0 : Int32)), .val (.int (3 : Int32)), .val (.int (p0 &&& (2147483647 : Int32))), .val (.int (p1 &&& (2147483647 : Int32))), .val (.int (p2 &&& (2147483647 : Int32))), .val (.int (p3 &&& (2147483647 : Int32))), .unset, .unset, .unset, .unset, .unset, .unset, .unset] [(.int p4)])
      refine own_st (X0.ldcInt hx hown (mvT hZ (hw _ (List.mem_of_getElem? (i := 0) rfl))) (g := (mkF m 54 #[.val (.int p0), .val (.int p1), .val (.int p2), .val (.int p3), .val (.int p4), .val (.int p5), .val (.int (0 : Int32)), .val (.int (3 : Int32)), .val (.int (p0 &&& (2147483647 : Int32))), .val (.int (p1 &&& (2147483647 : Int32))), .val (.int (p2 &&& (2147483647 : Int32))), .val (.int (p3 &&& (2147483647 : Int32))), .unset, .unset, .unset, .unset, .unset, .unset, .unset] [(.int p4)])) rfl (hb hby at_54)) ?_
      show own_Go p e s below _ _ _ T0 (mkF m 56 #[.val (.int p0), .val (.int p1), .val (.int p2), .val (.int p3), .val (.int p4), .val (.int p5), .val (.int (0 : Int32)), .val (.int (3 : Int32)), .val (.int (p0 &&& (2147483647 : Int32))), .val (.int (p1 &&& (2147483647 : Int32))), .val (.int (p2 &&& (2147483647 : Int32))), .val (.int (p3 &&& (2147483647 : Int32))), .unset, .unset, .unset, .unset, .unset, .unset, .unset] [(.int (2147483647 : Int32)), (.int p4)])
      refine own_st (fun _ k => XS.iand X0.here hx rfl (hb hby at_56) rfl k) ?_
      show own_Go p e s below _ _ _ T0 (mkF m 57 #[.val (.int p0), .val (.int p1), .val (.int p2), .val (.int p3), .val (.int p4), .val (.int p5), .val (.int (0 : Int32)), .val (.int (3 : Int32)), .val (.int (p0 &&& (2147483647 : Int32))), .val (.int (p1 &&& (2147483647 : Int32))), .val (.int (p2 &&& (2147483647 : Int32))), .val (.int (p3 &&& (2147483647 : Int32))), .unset, .unset, .unset, .unset, .unset, .unset, .unset] [(.int (p4 &&& (2147483647 : Int32)))])
      refine own_st (fun _ k => XS.istore X0.here hx rfl (hb hby at_57) rfl (l' := #[.val (.int p0), .val (.int p1), .val (.int p2), .val (.int p3), .val (.int p4), .val (.int p5), .val (.int (0 : Int32)), .val (.int (3 : Int32)), .val (.int (p0 &&& (2147483647 : Int32))), .val (.int (p1 &&& (2147483647 : Int32))), .val (.int (p2 &&& (2147483647 : Int32))), .val (.int (p3 &&& (2147483647 : Int32))), .val (.int (p4 &&& (2147483647 : Int32))), .unset, .unset, .unset, .unset, .unset, .unset]) rfl k) ?_
      show own_Go p e s below _ _ _ T0 (mkF m 59 #[.val (.int p0), .val (.int p1), .val (.int p2), .val (.int p3), .val (.int p4), .val (.int p5), .val (.int (0 : Int32)), .val (.int (3 : Int32)), .val (.int (p0 &&& (2147483647 : Int32))), .val (.int (p1 &&& (2147483647 : Int32))), .val (.int (p2 &&& (2147483647 : Int32))), .val (.int (p3 &&& (2147483647 : Int32))), .val (.int (p4 &&& (2147483647 : Int32))), .unset, .unset, .unset, .unset, .unset, .unset] [])
      refine own_st (fun _ k => XS.iload X0.here hx rfl (hb hby at_59) rfl k) ?_
      show own_Go p e s below _ _ _ T0 (mkF m 61 #[.val (.int p0), .val (.int p1), .val (.int p2), .val (.int p3), .val (.int p4), .val (.int p5), .val (.int (0 : Int32)), .val (.int (3 : Int32)), .val (.int (p0 &&& (2147483647 : Int32))), .val (.int (p1 &&& (2147483647 : Int32))), .val (.int (p2 &&& (2147483647 : Int32))), .val (.int (p3 &&& (2147483647 : Int32))), .val (.int (p4 &&& (2147483647 : Int32))), .unset, .unset, .unset, .unset, .unset, .unset] [(.int p5)])
      refine own_st (X0.ldcInt hx hown (mvT hZ (hw _ (List.mem_of_getElem? (i := 0) rfl))) (g := (mkF m 61 #[.val (.int p0), .val (.int p1), .val (.int p2), .val (.int p3), .val (.int p4), .val (.int p5), .val (.int (0 : Int32)), .val (.int (3 : Int32)), .val (.int (p0 &&& (2147483647 : Int32))), .val (.int (p1 &&& (2147483647 : Int32))), .val (.int (p2 &&& (2147483647 : Int32))), .val (.int (p3 &&& (2147483647 : Int32))), .val (.int (p4 &&& (2147483647 : Int32))), .unset, .unset, .unset, .unset, .unset, .unset] [(.int p5)])) rfl (hb hby at_61)) ?_
      show own_Go p e s below _ _ _ T0 (mkF m 63 #[.val (.int p0), .val (.int p1), .val (.int p2), .val (.int p3), .val (.int p4), .val (.int p5), .val (.int (0 : Int32)), .val (.int (3 : Int32)), .val (.int (p0 &&& (2147483647 : Int32))), .val (.int (p1 &&& (2147483647 : Int32))), .val (.int (p2 &&& (2147483647 : Int32))), .val (.int (p3 &&& (2147483647 : Int32))), .val (.int (p4 &&& (2147483647 : Int32))), .unset, .unset, .unset, .unset, .unset, .unset] [(.int (2147483647 : Int32)), (.int p5)])
      refine own_st (fun _ k => XS.iand X0.here hx rfl (hb hby at_63) rfl k) ?_
      show own_Go p e s below _ _ _ T0 (mkF m 64 #[.val (.int p0), .val (.int p1), .val (.int p2), .val (.int p3), .val (.int p4), .val (.int p5), .val (.int (0 : Int32)), .val (.int (3 : Int32)), .val (.int (p0 &&& (2147483647 : Int32))), .val (.int (p1 &&& (2147483647 : Int32))), .val (.int (p2 &&& (2147483647 : Int32))), .val (.int (p3 &&& (2147483647 : Int32))), .val (.int (p4 &&& (2147483647 : Int32))), .unset, .unset, .unset, .unset, .unset, .unset] [(.int (p5 &&& (2147483647 : Int32)))])
      refine own_st (fun _ k => XS.istore X0.here hx rfl (hb hby at_64) rfl (l' := #[.val (.int p0), .val (.int p1), .val (.int p2), .val (.int p3), .val (.int p4), .val (.int p5), .val (.int (0 : Int32)), .val (.int (3 : Int32)), .val (.int (p0 &&& (2147483647 : Int32))), .val (.int (p1 &&& (2147483647 : Int32))), .val (.int (p2 &&& (2147483647 : Int32))), .val (.int (p3 &&& (2147483647 : Int32))), .val (.int (p4 &&& (2147483647 : Int32))), .val (.int (p5 &&& (2147483647 : Int32))), .unset, .unset, .unset, .unset, .unset]) rfl k) ?_
      show own_Go p e s below _ _ _ T0 (mkF m 66 #[.val (.int p0), .val (.int p1), .val (.int p2), .val (.int p3), .val (.int p4), .val (.int p5), .val (.int (0 : Int32)), .val (.int (3 : Int32)), .val (.int (p0 &&& (2147483647 : Int32))), .val (.int (p1 &&& (2147483647 : Int32))), .val (.int (p2 &&& (2147483647 : Int32))), .val (.int (p3 &&& (2147483647 : Int32))), .val (.int (p4 &&& (2147483647 : Int32))), .val (.int (p5 &&& (2147483647 : Int32))), .unset, .unset, .unset, .unset, .unset] [])
      obtain ⟨x0, qx0⟩ : ∃ z, z = (p0 &&& (2147483647 : Int32)) := ⟨_, rfl⟩
      rw [← qx0]
      have nx0 : ¬ x0 < 0 := qx0 ▸ own_nn _
      obtain ⟨x1, qx1⟩ : ∃ z, z = (p1 &&& (2147483647 : Int32)) := ⟨_, rfl⟩
      rw [← qx1]
      have nx1 : ¬ x1 < 0 := qx1 ▸ own_nn _
      obtain ⟨x2, qx2⟩ : ∃ z, z = (p2 &&& (2147483647 : Int32)) := ⟨_, rfl⟩
      rw [← qx2]
      have nx2 : ¬ x2 < 0 := qx2 ▸ own_nn _
      obtain ⟨y0, qy0⟩ : ∃ z, z = (p3 &&& (2147483647 : Int32)) := ⟨_, rfl⟩
      rw [← qy0]
      have ny0 : ¬ y0 < 0 := qy0 ▸ own_nn _
      obtain ⟨y1, qy1⟩ : ∃ z, z = (p4 &&& (2147483647 : Int32)) := ⟨_, rfl⟩
      rw [← qy1]
      have ny1 : ¬ y1 < 0 := qy1 ▸ own_nn _
      obtain ⟨y2, qy2⟩ : ∃ z, z = (p5 &&& (2147483647 : Int32)) := ⟨_, rfl⟩
      rw [← qy2]
      have ny2 : ¬ y2 < 0 := qy2 ▸ own_nn _
      show own_Go p e s below _ _ _ T0 (mkF m 66 #[.val (.int p0), .val (.int p1), .val (.int p2), .val (.int p3), .val (.int p4), .val (.int p5), .val (.int (0 : Int32)), .val (.int (3 : Int32)), .val (.int x0), .val (.int x1), .val (.int x2), .val (.int y0), .val (.int y1), .val (.int y2), .unset, .unset, .unset, .unset, .unset] [])
      refine own_st (fun _ k => XS.iload X0.here hx rfl (hb hby at_66) rfl k) ?_
      show own_Go p e s below _ _ _ T0 (mkF m 68 #[.val (.int p0), .val (.int p1), .val (.int p2), .val (.int p3), .val (.int p4), .val (.int p5), .val (.int (0 : Int32)), .val (.int (3 : Int32)), .val (.int x0), .val (.int x1), .val (.int x2), .val (.int y0), .val (.int y1), .val (.int y2), .unset, .unset, .unset, .unset, .unset] [(.int (0 : Int32))])
      obtain ⟨T90, h90, k90, X90, e90, E90, A90, Ex90, st90⟩ := newPE X0 hx hZ (hw _ (List.mem_of_getElem? (i := 1) rfl)) e0 (g := (mkF m 68 #[.val (.int p0), .val (.int p1), .val (.int p2), .val (.int p3), .val (.int p4), .val (.int p5), .val (.int (0 : Int32)), .val (.int (3 : Int32)), .val (.int x0), .val (.int x1), .val (.int x2), .val (.int y0), .val (.int y1), .val (.int y2), .unset, .unset, .unset, .unset, .unset] [(.int (0 : Int32))])) rfl (hb hby at_68) rfl (by decide) (cap := 0) (by decide) (by decide) (by decide) (by decide) (ad := "[I") (by decide)
      obtain ⟨ar, g90⟩ : ∃ z, z = h0.size := ⟨_, rfl⟩
      rw [← g90] at A90 Ex90 st90
      have g_ar : n0 ≤ ar := Nat.le_trans Z0 (Nat.le_of_eq g90.symm)
      have Z91 := Nat.le_trans Z0 E90.1
      have V_ar : Arv Z h90 ar k90 .int (0 : Int32) [] (.int (0 : Int32)) := (Arv.new A90 (by decide)).pad (pad_rep [] (.int (0 : Int32)) 0)
      have E_ar := Ex90
      refine own_st st90 ?_
      show own_Go p e s below _ _ _ T90 (mkF m 70 #[.val (.int p0), .val (.int p1), .val (.int p2), .val (.int p3), .val (.int p4), .val (.int p5), .val (.int (0 : Int32)), .val (.int (3 : Int32)), .val (.int x0), .val (.int x1), .val (.int x2), .val (.int y0), .val (.int y1), .val (.int y2), .unset, .unset, .unset, .unset, .unset] [(.ref ar)])
      refine own_st (fun _ k => XS.astore X90.here hx rfl (hb hby at_70) rfl rfl (l' := #[.val (.int p0), .val (.int p1), .val (.int p2), .val (.int p3), .val (.int p4), .val (.int p5), .val (.int (0 : Int32)), .val (.int (3 : Int32)), .val (.int x0), .val (.int x1), .val (.int x2), .val (.int y0), .val (.int y1), .val (.int y2), .val (.ref ar), .unset, .unset, .unset, .unset]) rfl k) ?_
      show own_Go p e s below _ _ _ T90 (mkF m 72 #[.val (.int p0), .val (.int p1), .val (.int p2), .val (.int p3), .val (.int p4), .val (.int p5), .val (.int (0 : Int32)), .val (.int (3 : Int32)), .val (.int x0), .val (.int x1), .val (.int x2), .val (.int y0), .val (.int y1), .val (.int y2), .val (.ref ar), .unset, .unset, .unset, .unset] [])
      refine own_st (fun _ k => XS.iload X90.here hx rfl (hb hby at_72) rfl k) ?_
      show own_Go p e s below _ _ _ T90 (mkF m 74 #[.val (.int p0), .val (.int p1), .val (.int p2), .val (.int p3), .val (.int p4), .val (.int p5), .val (.int (0 : Int32)), .val (.int (3 : Int32)), .val (.int x0), .val (.int x1), .val (.int x2), .val (.int y0), .val (.int y1), .val (.int y2), .val (.ref ar), .unset, .unset, .unset, .unset] [(.int (0 : Int32))])
      refine own_st (fun _ k => XS.ifYes X90.here hx rfl (pc0 := 74) (pc' := 83) rfl (hb hby at_74) rfl (by decide) (by decide) (by decide) k) ?_
      show own_Go p e s below _ _ _ T90 (mkF m 83 #[.val (.int p0), .val (.int p1), .val (.int p2), .val (.int p3), .val (.int p4), .val (.int p5), .val (.int (0 : Int32)), .val (.int (3 : Int32)), .val (.int x0), .val (.int x1), .val (.int x2), .val (.int y0), .val (.int y1), .val (.int y2), .val (.ref ar), .unset, .unset, .unset, .unset] [])
      refine own_st (fun _ k => XS.iload X90.here hx rfl (hb hby at_83) rfl k) ?_
      show own_Go p e s below _ _ _ T90 (mkF m 85 #[.val (.int p0), .val (.int p1), .val (.int p2), .val (.int p3), .val (.int p4), .val (.int p5), .val (.int (0 : Int32)), .val (.int (3 : Int32)), .val (.int x0), .val (.int x1), .val (.int x2), .val (.int y0), .val (.int y1), .val (.int y2), .val (.ref ar), .unset, .unset, .unset, .unset] [(.int (0 : Int32))])
      refine own_st (fun _ k => XS.iconst X90.here hx rfl (hb hby at_85) k) ?_
      show own_Go p e s below _ _ _ T90 (mkF m 86 #[.val (.int p0), .val (.int p1), .val (.int p2), .val (.int p3), .val (.int p4), .val (.int p5), .val (.int (0 : Int32)), .val (.int (3 : Int32)), .val (.int x0), .val (.int x1), .val (.int x2), .val (.int y0), .val (.int y1), .val (.int y2), .val (.ref ar), .unset, .unset, .unset, .unset] [(.int (1 : Int32)), (.int (0 : Int32))])
      refine own_st (fun _ k => XS.icmpYes X90.here hx rfl (pc0 := 86) (pc' := 95) rfl (hb hby at_86) rfl (by decide) (by decide) (by decide) k) ?_
      show own_Go p e s below _ _ _ T90 (mkF m 95 #[.val (.int p0), .val (.int p1), .val (.int p2), .val (.int p3), .val (.int p4), .val (.int p5), .val (.int (0 : Int32)), .val (.int (3 : Int32)), .val (.int x0), .val (.int x1), .val (.int x2), .val (.int y0), .val (.int y1), .val (.int y2), .val (.ref ar), .unset, .unset, .unset, .unset] [])
      refine own_st (fun _ k => XS.iload X90.here hx rfl (hb hby at_95) rfl k) ?_
      show own_Go p e s below _ _ _ T90 (mkF m 97 #[.val (.int p0), .val (.int p1), .val (.int p2), .val (.int p3), .val (.int p4), .val (.int p5), .val (.int (0 : Int32)), .val (.int (3 : Int32)), .val (.int x0), .val (.int x1), .val (.int x2), .val (.int y0), .val (.int y1), .val (.int y2), .val (.ref ar), .unset, .unset, .unset, .unset] [(.int (0 : Int32))])
      refine own_st (fun _ k => XS.iconst X90.here hx rfl (hb hby at_97) k) ?_
      show own_Go p e s below _ _ _ T90 (mkF m 98 #[.val (.int p0), .val (.int p1), .val (.int p2), .val (.int p3), .val (.int p4), .val (.int p5), .val (.int (0 : Int32)), .val (.int (3 : Int32)), .val (.int x0), .val (.int x1), .val (.int x2), .val (.int y0), .val (.int y1), .val (.int y2), .val (.ref ar), .unset, .unset, .unset, .unset] [(.int (2 : Int32)), (.int (0 : Int32))])
      refine own_st (fun _ k => XS.icmpYes X90.here hx rfl (pc0 := 98) (pc' := 107) rfl (hb hby at_98) rfl (by decide) (by decide) (by decide) k) ?_
      show own_Go p e s below _ _ _ T90 (mkF m 107 #[.val (.int p0), .val (.int p1), .val (.int p2), .val (.int p3), .val (.int p4), .val (.int p5), .val (.int (0 : Int32)), .val (.int (3 : Int32)), .val (.int x0), .val (.int x1), .val (.int x2), .val (.int y0), .val (.int y1), .val (.int y2), .val (.ref ar), .unset, .unset, .unset, .unset] [])
      refine own_st (fun _ k => XS.iload X90.here hx rfl (hb hby at_107) rfl k) ?_
      show own_Go p e s below _ _ _ T90 (mkF m 109 #[.val (.int p0), .val (.int p1), .val (.int p2), .val (.int p3), .val (.int p4), .val (.int p5), .val (.int (0 : Int32)), .val (.int (3 : Int32)), .val (.int x0), .val (.int x1), .val (.int x2), .val (.int y0), .val (.int y1), .val (.int y2), .val (.ref ar), .unset, .unset, .unset, .unset] [(.int (3 : Int32))])
      obtain ⟨T92, h92, k92, X92, e92, E92, A92, Ex92, st92⟩ := newPE X90 hx hZ (hw _ (List.mem_of_getElem? (i := 1) rfl)) e90 (g := (mkF m 109 #[.val (.int p0), .val (.int p1), .val (.int p2), .val (.int p3), .val (.int p4), .val (.int p5), .val (.int (0 : Int32)), .val (.int (3 : Int32)), .val (.int x0), .val (.int x1), .val (.int x2), .val (.int y0), .val (.int y1), .val (.int y2), .val (.ref ar), .unset, .unset, .unset, .unset] [(.int (3 : Int32))])) rfl (hb hby at_109) rfl (by decide) (cap := 3) (by decide) (by decide) (by decide) (by decide) (ad := "[I") (by decide)
      obtain ⟨ao, g92⟩ : ∃ z, z = h90.size := ⟨_, rfl⟩
      rw [← g92] at A92 Ex92 st92
      have g_ao : n0 ≤ ao := Nat.le_trans Z91 (Nat.le_of_eq g92.symm)
      have ne_ar_ao : ar ≠ ao := Nat.ne_of_lt (Nat.lt_of_lt_of_le V_ar.lt (Nat.le_of_eq g92.symm))
      have ne_ao_ar := Ne.symm ne_ar_ao
      replace V_ar := V_ar.ext E92
      replace E_ar := E_ar.ext E92
      have Z93 := Nat.le_trans Z91 E92.1
      have V_ao : Arv Z h92 ao k92 .int (3 : Int32) [(.int (0 : Int32)), (.int (0 : Int32)), (.int (0 : Int32))] (.int (0 : Int32)) := (Arv.new A92 (by decide)).pad (pad_rep [] (.int (0 : Int32)) 3)
      have E_ao := Ex92
      refine own_st st92 ?_
      show own_Go p e s below _ _ _ T92 (mkF m 111 #[.val (.int p0), .val (.int p1), .val (.int p2), .val (.int p3), .val (.int p4), .val (.int p5), .val (.int (0 : Int32)), .val (.int (3 : Int32)), .val (.int x0), .val (.int x1), .val (.int x2), .val (.int y0), .val (.int y1), .val (.int y2), .val (.ref ar), .unset, .unset, .unset, .unset] [(.ref ao)])
      refine own_st (fun _ k => XS.astore X92.here hx rfl (hb hby at_111) rfl rfl (l' := #[.val (.int p0), .val (.int p1), .val (.int p2), .val (.int p3), .val (.int p4), .val (.int p5), .val (.int (0 : Int32)), .val (.int (3 : Int32)), .val (.int x0), .val (.int x1), .val (.int x2), .val (.int y0), .val (.int y1), .val (.int y2), .val (.ref ar), .val (.ref ao), .unset, .unset, .unset]) rfl k) ?_
      show own_Go p e s below _ _ _ T92 (mkF m 113 #[.val (.int p0), .val (.int p1), .val (.int p2), .val (.int p3), .val (.int p4), .val (.int p5), .val (.int (0 : Int32)), .val (.int (3 : Int32)), .val (.int x0), .val (.int x1), .val (.int x2), .val (.int y0), .val (.int y1), .val (.int y2), .val (.ref ar), .val (.ref ao), .unset, .unset, .unset] [])
      refine own_st (fun _ k => XS.iload X92.here hx rfl (hb hby at_113) rfl k) ?_
      show own_Go p e s below _ _ _ T92 (mkF m 115 #[.val (.int p0), .val (.int p1), .val (.int p2), .val (.int p3), .val (.int p4), .val (.int p5), .val (.int (0 : Int32)), .val (.int (3 : Int32)), .val (.int x0), .val (.int x1), .val (.int x2), .val (.int y0), .val (.int y1), .val (.int y2), .val (.ref ar), .val (.ref ao), .unset, .unset, .unset] [(.int (3 : Int32))])
      refine own_st (fun _ k => XS.ifNo X92.here hx rfl (hb hby at_115) rfl (by decide) k) ?_
      show own_Go p e s below _ _ _ T92 (mkF m 118 #[.val (.int p0), .val (.int p1), .val (.int p2), .val (.int p3), .val (.int p4), .val (.int p5), .val (.int (0 : Int32)), .val (.int (3 : Int32)), .val (.int x0), .val (.int x1), .val (.int x2), .val (.int y0), .val (.int y1), .val (.int y2), .val (.ref ar), .val (.ref ao), .unset, .unset, .unset] [])
      refine own_st (fun _ k => XS.aload X92.here hx rfl (hb hby at_118) rfl rfl k) ?_
      show own_Go p e s below _ _ _ T92 (mkF m 120 #[.val (.int p0), .val (.int p1), .val (.int p2), .val (.int p3), .val (.int p4), .val (.int p5), .val (.int (0 : Int32)), .val (.int (3 : Int32)), .val (.int x0), .val (.int x1), .val (.int x2), .val (.int y0), .val (.int y1), .val (.int y2), .val (.ref ar), .val (.ref ao), .unset, .unset, .unset] [(.ref ao)])
      refine own_st (fun _ k => XS.iconst X92.here hx rfl (hb hby at_120) k) ?_
      show own_Go p e s below _ _ _ T92 (mkF m 121 #[.val (.int p0), .val (.int p1), .val (.int p2), .val (.int p3), .val (.int p4), .val (.int p5), .val (.int (0 : Int32)), .val (.int (3 : Int32)), .val (.int x0), .val (.int x1), .val (.int x2), .val (.int y0), .val (.int y1), .val (.int y2), .val (.ref ar), .val (.ref ao), .unset, .unset, .unset] [(.int (0 : Int32)), (.ref ao)])
      refine own_st (fun _ k => XS.iload X92.here hx rfl (hb hby at_121) rfl k) ?_
      show own_Go p e s below _ _ _ T92 (mkF m 123 #[.val (.int p0), .val (.int p1), .val (.int p2), .val (.int p3), .val (.int p4), .val (.int p5), .val (.int (0 : Int32)), .val (.int (3 : Int32)), .val (.int x0), .val (.int x1), .val (.int x2), .val (.int y0), .val (.int y1), .val (.int y2), .val (.ref ar), .val (.ref ao), .unset, .unset, .unset] [(.int y0), (.int (0 : Int32)), (.ref ao)])
      obtain ⟨T94, h94, X94, e94, W94, V94, st94⟩ := own_stI X92 hx hZ e92 V_ao (j := (0 : Int32)) ⟨by decide, by decide⟩ (Nat.le_of_ble_eq_true rfl) (g := (mkF m 123 #[.val (.int p0), .val (.int p1), .val (.int p2), .val (.int p3), .val (.int p4), .val (.int p5), .val (.int (0 : Int32)), .val (.int (3 : Int32)), .val (.int x0), .val (.int x1), .val (.int x2), .val (.int y0), .val (.int y1), .val (.int y2), .val (.ref ar), .val (.ref ao), .unset, .unset, .unset] [(.int y0), (.int (0 : Int32)), (.ref ao)])) rfl rfl (hb hby at_123)
      clear V_ao
      have V_ao : Arv Z h94 ao k92 .int (3 : Int32) [(.int y0), (.int (0 : Int32)), (.int (0 : Int32))] (.int (0 : Int32)) := V94
      replace V_ar := V_ar.other W94 ne_ar_ao
      replace E_ar := E_ar.wr W94
      replace E_ao := E_ao.wr W94
      have Z95 := Nat.le_trans Z93 (Keep.of_wr W94).1
      have N94 := Fr.snoc X94 N0 g_ao
      refine own_st st94 ?_
      show own_Go p e s below _ _ _ T94 (mkF m 124 #[.val (.int p0), .val (.int p1), .val (.int p2), .val (.int p3), .val (.int p4), .val (.int p5), .val (.int (0 : Int32)), .val (.int (3 : Int32)), .val (.int x0), .val (.int x1), .val (.int x2), .val (.int y0), .val (.int y1), .val (.int y2), .val (.ref ar), .val (.ref ao), .unset, .unset, .unset] [])
      refine own_st (fun _ k => XS.iload X94.here hx rfl (hb hby at_124) rfl k) ?_
      show own_Go p e s below _ _ _ T94 (mkF m 126 #[.val (.int p0), .val (.int p1), .val (.int p2), .val (.int p3), .val (.int p4), .val (.int p5), .val (.int (0 : Int32)), .val (.int (3 : Int32)), .val (.int x0), .val (.int x1), .val (.int x2), .val (.int y0), .val (.int y1), .val (.int y2), .val (.ref ar), .val (.ref ao), .unset, .unset, .unset] [(.int (3 : Int32))])
      refine own_st (fun _ k => XS.iconst X94.here hx rfl (hb hby at_126) k) ?_
      show own_Go p e s below _ _ _ T94 (mkF m 127 #[.val (.int p0), .val (.int p1), .val (.int p2), .val (.int p3), .val (.int p4), .val (.int p5), .val (.int (0 : Int32)), .val (.int (3 : Int32)), .val (.int x0), .val (.int x1), .val (.int x2), .val (.int y0), .val (.int y1), .val (.int y2), .val (.ref ar), .val (.ref ao), .unset, .unset, .unset] [(.int (1 : Int32)), (.int (3 : Int32))])
      refine own_st (fun _ k => XS.icmpNo X94.here hx rfl (hb hby at_127) rfl (by decide) k) ?_
      show own_Go p e s below _ _ _ T94 (mkF m 130 #[.val (.int p0), .val (.int p1), .val (.int p2), .val (.int p3), .val (.int p4), .val (.int p5), .val (.int (0 : Int32)), .val (.int (3 : Int32)), .val (.int x0), .val (.int x1), .val (.int x2), .val (.int y0), .val (.int y1), .val (.int y2), .val (.ref ar), .val (.ref ao), .unset, .unset, .unset] [])
      refine own_st (fun _ k => XS.aload X94.here hx rfl (hb hby at_130) rfl rfl k) ?_
      show own_Go p e s below _ _ _ T94 (mkF m 132 #[.val (.int p0), .val (.int p1), .val (.int p2), .val (.int p3), .val (.int p4), .val (.int p5), .val (.int (0 : Int32)), .val (.int (3 : Int32)), .val (.int x0), .val (.int x1), .val (.int x2), .val (.int y0), .val (.int y1), .val (.int y2), .val (.ref ar), .val (.ref ao), .unset, .unset, .unset] [(.ref ao)])
      refine own_st (fun _ k => XS.iconst X94.here hx rfl (hb hby at_132) k) ?_
      show own_Go p e s below _ _ _ T94 (mkF m 133 #[.val (.int p0), .val (.int p1), .val (.int p2), .val (.int p3), .val (.int p4), .val (.int p5), .val (.int (0 : Int32)), .val (.int (3 : Int32)), .val (.int x0), .val (.int x1), .val (.int x2), .val (.int y0), .val (.int y1), .val (.int y2), .val (.ref ar), .val (.ref ao), .unset, .unset, .unset] [(.int (1 : Int32)), (.ref ao)])
      refine own_st (fun _ k => XS.iload X94.here hx rfl (hb hby at_133) rfl k) ?_
      show own_Go p e s below _ _ _ T94 (mkF m 135 #[.val (.int p0), .val (.int p1), .val (.int p2), .val (.int p3), .val (.int p4), .val (.int p5), .val (.int (0 : Int32)), .val (.int (3 : Int32)), .val (.int x0), .val (.int x1), .val (.int x2), .val (.int y0), .val (.int y1), .val (.int y2), .val (.ref ar), .val (.ref ao), .unset, .unset, .unset] [(.int y1), (.int (1 : Int32)), (.ref ao)])
      obtain ⟨T96, h96, X96, e96, W96, V96, st96⟩ := own_stI X94 hx hZ e94 V_ao (j := (1 : Int32)) ⟨by decide, by decide⟩ (Nat.le_of_ble_eq_true rfl) (g := (mkF m 135 #[.val (.int p0), .val (.int p1), .val (.int p2), .val (.int p3), .val (.int p4), .val (.int p5), .val (.int (0 : Int32)), .val (.int (3 : Int32)), .val (.int x0), .val (.int x1), .val (.int x2), .val (.int y0), .val (.int y1), .val (.int y2), .val (.ref ar), .val (.ref ao), .unset, .unset, .unset] [(.int y1), (.int (1 : Int32)), (.ref ao)])) rfl rfl (hb hby at_135)
      clear V_ao
      have V_ao : Arv Z h96 ao k92 .int (3 : Int32) [(.int y0), (.int y1), (.int (0 : Int32))] (.int (0 : Int32)) := V96
      replace V_ar := V_ar.other W96 ne_ar_ao
      replace E_ar := E_ar.wr W96
      replace E_ao := E_ao.wr W96
      have Z97 := Nat.le_trans Z95 (Keep.of_wr W96).1
      have N96 := Fr.snoc X96 N94 g_ao
      refine own_st st96 ?_
      show own_Go p e s below _ _ _ T96 (mkF m 136 #[.val (.int p0), .val (.int p1), .val (.int p2), .val (.int p3), .val (.int p4), .val (.int p5), .val (.int (0 : Int32)), .val (.int (3 : Int32)), .val (.int x0), .val (.int x1), .val (.int x2), .val (.int y0), .val (.int y1), .val (.int y2), .val (.ref ar), .val (.ref ao), .unset, .unset, .unset] [])
      refine own_st (fun _ k => XS.iload X96.here hx rfl (hb hby at_136) rfl k) ?_
      show own_Go p e s below _ _ _ T96 (mkF m 138 #[.val (.int p0), .val (.int p1), .val (.int p2), .val (.int p3), .val (.int p4), .val (.int p5), .val (.int (0 : Int32)), .val (.int (3 : Int32)), .val (.int x0), .val (.int x1), .val (.int x2), .val (.int y0), .val (.int y1), .val (.int y2), .val (.ref ar), .val (.ref ao), .unset, .unset, .unset] [(.int (3 : Int32))])
      refine own_st (fun _ k => XS.iconst X96.here hx rfl (hb hby at_138) k) ?_
      show own_Go p e s below _ _ _ T96 (mkF m 139 #[.val (.int p0), .val (.int p1), .val (.int p2), .val (.int p3), .val (.int p4), .val (.int p5), .val (.int (0 : Int32)), .val (.int (3 : Int32)), .val (.int x0), .val (.int x1), .val (.int x2), .val (.int y0), .val (.int y1), .val (.int y2), .val (.ref ar), .val (.ref ao), .unset, .unset, .unset] [(.int (2 : Int32)), (.int (3 : Int32))])
      refine own_st (fun _ k => XS.icmpNo X96.here hx rfl (hb hby at_139) rfl (by decide) k) ?_
      show own_Go p e s below _ _ _ T96 (mkF m 142 #[.val (.int p0), .val (.int p1), .val (.int p2), .val (.int p3), .val (.int p4), .val (.int p5), .val (.int (0 : Int32)), .val (.int (3 : Int32)), .val (.int x0), .val (.int x1), .val (.int x2), .val (.int y0), .val (.int y1), .val (.int y2), .val (.ref ar), .val (.ref ao), .unset, .unset, .unset] [])
      refine own_st (fun _ k => XS.aload X96.here hx rfl (hb hby at_142) rfl rfl k) ?_
      show own_Go p e s below _ _ _ T96 (mkF m 144 #[.val (.int p0), .val (.int p1), .val (.int p2), .val (.int p3), .val (.int p4), .val (.int p5), .val (.int (0 : Int32)), .val (.int (3 : Int32)), .val (.int x0), .val (.int x1), .val (.int x2), .val (.int y0), .val (.int y1), .val (.int y2), .val (.ref ar), .val (.ref ao), .unset, .unset, .unset] [(.ref ao)])
      refine own_st (fun _ k => XS.iconst X96.here hx rfl (hb hby at_144) k) ?_
      show own_Go p e s below _ _ _ T96 (mkF m 145 #[.val (.int p0), .val (.int p1), .val (.int p2), .val (.int p3), .val (.int p4), .val (.int p5), .val (.int (0 : Int32)), .val (.int (3 : Int32)), .val (.int x0), .val (.int x1), .val (.int x2), .val (.int y0), .val (.int y1), .val (.int y2), .val (.ref ar), .val (.ref ao), .unset, .unset, .unset] [(.int (2 : Int32)), (.ref ao)])
      refine own_st (fun _ k => XS.iload X96.here hx rfl (hb hby at_145) rfl k) ?_
      show own_Go p e s below _ _ _ T96 (mkF m 147 #[.val (.int p0), .val (.int p1), .val (.int p2), .val (.int p3), .val (.int p4), .val (.int p5), .val (.int (0 : Int32)), .val (.int (3 : Int32)), .val (.int x0), .val (.int x1), .val (.int x2), .val (.int y0), .val (.int y1), .val (.int y2), .val (.ref ar), .val (.ref ao), .unset, .unset, .unset] [(.int y2), (.int (2 : Int32)), (.ref ao)])
      obtain ⟨T98, h98, X98, e98, W98, V98, st98⟩ := own_stI X96 hx hZ e96 V_ao (j := (2 : Int32)) ⟨by decide, by decide⟩ (Nat.le_of_ble_eq_true rfl) (g := (mkF m 147 #[.val (.int p0), .val (.int p1), .val (.int p2), .val (.int p3), .val (.int p4), .val (.int p5), .val (.int (0 : Int32)), .val (.int (3 : Int32)), .val (.int x0), .val (.int x1), .val (.int x2), .val (.int y0), .val (.int y1), .val (.int y2), .val (.ref ar), .val (.ref ao), .unset, .unset, .unset] [(.int y2), (.int (2 : Int32)), (.ref ao)])) rfl rfl (hb hby at_147)
      clear V_ao
      have V_ao : Arv Z h98 ao k92 .int (3 : Int32) [(.int y0), (.int y1), (.int y2)] (.int (0 : Int32)) := V98
      replace V_ar := V_ar.other W98 ne_ar_ao
      replace E_ar := E_ar.wr W98
      replace E_ao := E_ao.wr W98
      have Z99 := Nat.le_trans Z97 (Keep.of_wr W98).1
      have N98 := Fr.snoc X98 N96 g_ao
      refine own_st st98 ?_
      show own_Go p e s below _ _ _ T98 (mkF m 148 #[.val (.int p0), .val (.int p1), .val (.int p2), .val (.int p3), .val (.int p4), .val (.int p5), .val (.int (0 : Int32)), .val (.int (3 : Int32)), .val (.int x0), .val (.int x1), .val (.int x2), .val (.int y0), .val (.int y1), .val (.int y2), .val (.ref ar), .val (.ref ao), .unset, .unset, .unset] [])
      obtain ⟨T100, h100, X100, e100, E100, A100, D100, -, st100⟩ := newO X98 hx hZ hown (hw _ (List.mem_of_getElem? (i := 2) rfl)) (hw _ (List.mem_of_getElem? (i := 3) rfl)) (hw _ (List.mem_of_getElem? (i := 4) rfl)) e98 (g := (mkF m 148 #[.val (.int p0), .val (.int p1), .val (.int p2), .val (.int p3), .val (.int p4), .val (.int p5), .val (.int (0 : Int32)), .val (.int (3 : Int32)), .val (.int x0), .val (.int x1), .val (.int x2), .val (.int y0), .val (.int y1), .val (.int y2), .val (.ref ar), .val (.ref ao), .unset, .unset, .unset] [])) rfl (hb hby at_148) (by decide) (by decide)
      obtain ⟨bt, g100⟩ : ∃ z, z = h98.size := ⟨_, rfl⟩
      rw [← g100] at A100 D100 st100
      have g_bt : n0 ≤ bt := Nat.le_trans Z99 (Nat.le_of_eq g100.symm)
      have ne_ao_bt : ao ≠ bt := Nat.ne_of_lt (Nat.lt_of_lt_of_le E_ao.lt (Nat.le_of_eq g100.symm))
      have ne_bt_ao := Ne.symm ne_ao_bt
      have ne_ar_bt : ar ≠ bt := Nat.ne_of_lt (Nat.lt_of_lt_of_le V_ar.lt (Nat.le_of_eq g100.symm))
      have ne_bt_ar := Ne.symm ne_ar_bt
      replace V_ar := V_ar.ext E100
      replace E_ar := E_ar.ext E100
      replace E_ao := E_ao.ext E100
      replace V_ao := V_ao.ext E100
      have Z101 := Nat.le_trans Z99 E100.1
      have E_bt := A100
      have F_levels_bt : Fld Z h100 bt "com/example/hush5/hush5/model/Transformation" "levels" "[I" .null := D100 (Or.inr (hw _ (List.mem_of_getElem? (i := 21) rfl))) (ty := (.array .int)) (by decide)
      refine own_st st100 ?_
      show own_Go p e s below _ _ _ T100 (mkF m 151 #[.val (.int p0), .val (.int p1), .val (.int p2), .val (.int p3), .val (.int p4), .val (.int p5), .val (.int (0 : Int32)), .val (.int (3 : Int32)), .val (.int x0), .val (.int x1), .val (.int x2), .val (.int y0), .val (.int y1), .val (.int y2), .val (.ref ar), .val (.ref ao), .unset, .unset, .unset] [(.ref bt)])
      refine own_st (fun _ k => XS.dup X100.here hx rfl (hb hby at_151) rfl rfl k) ?_
      show own_Go p e s below _ _ _ T100 (mkF m 152 #[.val (.int p0), .val (.int p1), .val (.int p2), .val (.int p3), .val (.int p4), .val (.int p5), .val (.int (0 : Int32)), .val (.int (3 : Int32)), .val (.int x0), .val (.int x1), .val (.int x2), .val (.int y0), .val (.int y1), .val (.int y2), .val (.ref ar), .val (.ref ao), .unset, .unset, .unset] [(.ref bt), (.ref bt)])
      refine own_st (fun _ k => XS.aload X100.here hx rfl (hb hby at_152) rfl rfl k) ?_
      show own_Go p e s below _ _ _ T100 (mkF m 154 #[.val (.int p0), .val (.int p1), .val (.int p2), .val (.int p3), .val (.int p4), .val (.int p5), .val (.int (0 : Int32)), .val (.int (3 : Int32)), .val (.int x0), .val (.int x1), .val (.int x2), .val (.int y0), .val (.int y1), .val (.int y2), .val (.ref ar), .val (.ref ao), .unset, .unset, .unset] [(.ref ar), (.ref bt), (.ref bt)])
      refine own_callN X100 hx hZ (y := (⟨"com/example/hush5/hush5/model/Transformation", "<init>", "([I)V"⟩ : MethodName)) rfl hown (hw _ (List.mem_of_getElem? (i := 5) rfl)) (hw _ (List.mem_of_getElem? (i := 6) rfl)) (hw _ (List.mem_of_getElem? (i := 4) rfl)) (hw _ (List.mem_of_getElem? (i := 7) rfl)) (by decide) e100 (rm1_0 l Z a0 hw [] bt ar k90  h100 n0 Z101 E_bt F_levels_bt V_ar E_ar ne_bt_ar ne_ar_bt g_bt ) 1 (by decide) (by decide) (g := (mkF m 154 #[.val (.int p0), .val (.int p1), .val (.int p2), .val (.int p3), .val (.int p4), .val (.int p5), .val (.int (0 : Int32)), .val (.int (3 : Int32)), .val (.int x0), .val (.int x1), .val (.int x2), .val (.int y0), .val (.int y1), .val (.int y2), .val (.ref ar), .val (.ref ao), .unset, .unset, .unset] [(.ref ar), (.ref bt), (.ref bt)])) rfl (by rw [hml]; rfl) (a := bt) (argsL := [(.ref ar)]) (rest := [(.ref bt)]) pd0 rfl rfl rfl (by show 2 * 0 + _ ≤ _; exact Nat.le_of_eq rfl) (hb hby at_154) (by decide) (by decide) ?_
      intro T102 v102 L102 X102 hQ102
      obtain ⟨dt, rfl, N102q, K102q, y102_0, y102_1, y102_2, y102_3⟩ := hQ102
      have N102 := Fr.app N98 N102q
      replace V_ar := V_ar.keep K102q (ninS ne_ar_bt nin0)
      replace E_ar := E_ar.keep K102q
      replace E_ao := E_ao.keep K102q
      replace V_ao := V_ao.keep K102q (ninS ne_ao_bt nin0)
      replace E_bt := E_bt.keep K102q
      clear F_levels_bt
      have Z103 := Nat.le_trans Z101 K102q.1
      have E_bt := y102_0
      have F_levels_bt := y102_1
      have V_dt := y102_2
      have E_dt := y102_3
      show own_Go p e s below _ _ _ T102 (mkF m 157 #[.val (.int p0), .val (.int p1), .val (.int p2), .val (.int p3), .val (.int p4), .val (.int p5), .val (.int (0 : Int32)), .val (.int (3 : Int32)), .val (.int x0), .val (.int x1), .val (.int x2), .val (.int y0), .val (.int y1), .val (.int y2), .val (.ref ar), .val (.ref ao), .unset, .unset, .unset] [(.ref bt)])
      refine own_st (fun _ k => XS.astore X102.here hx rfl (hb hby at_157) rfl rfl (l' := #[.val (.int p0), .val (.int p1), .val (.int p2), .val (.int p3), .val (.int p4), .val (.int p5), .val (.int (0 : Int32)), .val (.int (3 : Int32)), .val (.int x0), .val (.int x1), .val (.int x2), .val (.int y0), .val (.int y1), .val (.int y2), .val (.ref ar), .val (.ref ao), .val (.ref bt), .unset, .unset]) rfl k) ?_
      show own_Go p e s below _ _ _ T102 (mkF m 159 #[.val (.int p0), .val (.int p1), .val (.int p2), .val (.int p3), .val (.int p4), .val (.int p5), .val (.int (0 : Int32)), .val (.int (3 : Int32)), .val (.int x0), .val (.int x1), .val (.int x2), .val (.int y0), .val (.int y1), .val (.int y2), .val (.ref ar), .val (.ref ao), .val (.ref bt), .unset, .unset] [])
      obtain ⟨T104, h104, X104, e104, E104, A104, D104, -, st104⟩ := newO X102 hx hZ hown (hw _ (List.mem_of_getElem? (i := 2) rfl)) (hw _ (List.mem_of_getElem? (i := 3) rfl)) (hw _ (List.mem_of_getElem? (i := 4) rfl)) rfl (g := (mkF m 159 #[.val (.int p0), .val (.int p1), .val (.int p2), .val (.int p3), .val (.int p4), .val (.int p5), .val (.int (0 : Int32)), .val (.int (3 : Int32)), .val (.int x0), .val (.int x1), .val (.int x2), .val (.int y0), .val (.int y1), .val (.int y2), .val (.ref ar), .val (.ref ao), .val (.ref bt), .unset, .unset] [])) rfl (hb hby at_159) (by decide) (by decide)
      obtain ⟨bu, g104⟩ : ∃ z, z = T102.heap.size := ⟨_, rfl⟩
      rw [← g104] at A104 D104 st104
      have g_bu : n0 ≤ bu := Nat.le_trans Z103 (Nat.le_of_eq g104.symm)
      have ne_ao_bu : ao ≠ bu := Nat.ne_of_lt (Nat.lt_of_lt_of_le E_ao.lt (Nat.le_of_eq g104.symm))
      have ne_bu_ao := Ne.symm ne_ao_bu
      have ne_ar_bu : ar ≠ bu := Nat.ne_of_lt (Nat.lt_of_lt_of_le V_ar.lt (Nat.le_of_eq g104.symm))
      have ne_bu_ar := Ne.symm ne_ar_bu
      have ne_bt_bu : bt ≠ bu := Nat.ne_of_lt (Nat.lt_of_lt_of_le E_bt.lt (Nat.le_of_eq g104.symm))
      have ne_bu_bt := Ne.symm ne_bt_bu
      have ne_dt_bu : dt ≠ bu := Nat.ne_of_lt (Nat.lt_of_lt_of_le V_dt.lt (Nat.le_of_eq g104.symm))
      have ne_bu_dt := Ne.symm ne_dt_bu
      replace V_ar := V_ar.ext E104
      replace E_ar := E_ar.ext E104
      replace E_ao := E_ao.ext E104
      replace V_ao := V_ao.ext E104
      replace E_bt := E_bt.ext E104
      replace F_levels_bt := F_levels_bt.ext E104
      replace V_dt := V_dt.ext E104
      replace E_dt := E_dt.ext E104
      have Z105 := Nat.le_trans Z103 E104.1
      have E_bu := A104
      have F_levels_bu : Fld Z h104 bu "com/example/hush5/hush5/model/Transformation" "levels" "[I" .null := D104 (Or.inr (hw _ (List.mem_of_getElem? (i := 21) rfl))) (ty := (.array .int)) (by decide)
      refine own_st st104 ?_
      show own_Go p e s below _ _ _ T104 (mkF m 162 #[.val (.int p0), .val (.int p1), .val (.int p2), .val (.int p3), .val (.int p4), .val (.int p5), .val (.int (0 : Int32)), .val (.int (3 : Int32)), .val (.int x0), .val (.int x1), .val (.int x2), .val (.int y0), .val (.int y1), .val (.int y2), .val (.ref ar), .val (.ref ao), .val (.ref bt), .unset, .unset] [(.ref bu)])
      refine own_st (fun _ k => XS.dup X104.here hx rfl (hb hby at_162) rfl rfl k) ?_
      show own_Go p e s below _ _ _ T104 (mkF m 163 #[.val (.int p0), .val (.int p1), .val (.int p2), .val (.int p3), .val (.int p4), .val (.int p5), .val (.int (0 : Int32)), .val (.int (3 : Int32)), .val (.int x0), .val (.int x1), .val (.int x2), .val (.int y0), .val (.int y1), .val (.int y2), .val (.ref ar), .val (.ref ao), .val (.ref bt), .unset, .unset] [(.ref bu), (.ref bu)])
      refine own_st (fun _ k => XS.aload X104.here hx rfl (hb hby at_163) rfl rfl k) ?_
      show own_Go p e s below _ _ _ T104 (mkF m 165 #[.val (.int p0), .val (.int p1), .val (.int p2), .val (.int p3), .val (.int p4), .val (.int p5), .val (.int (0 : Int32)), .val (.int (3 : Int32)), .val (.int x0), .val (.int x1), .val (.int x2), .val (.int y0), .val (.int y1), .val (.int y2), .val (.ref ar), .val (.ref ao), .val (.ref bt), .unset, .unset] [(.ref ao), (.ref bu), (.ref bu)])
      refine own_callN X104 hx hZ (y := (⟨"com/example/hush5/hush5/model/Transformation", "<init>", "([I)V"⟩ : MethodName)) rfl hown (hw _ (List.mem_of_getElem? (i := 5) rfl)) (hw _ (List.mem_of_getElem? (i := 6) rfl)) (hw _ (List.mem_of_getElem? (i := 4) rfl)) (hw _ (List.mem_of_getElem? (i := 7) rfl)) (by decide) e104 (rm1_3 l Z a0 hw [] bu ao k92 y0 y1 y2 h104 n0 Z105 E_bu F_levels_bu V_ao E_ao ne_bu_ao ne_ao_bu g_bu ny0 ny1 ny2) 1 (by decide) (by decide) (g := (mkF m 165 #[.val (.int p0), .val (.int p1), .val (.int p2), .val (.int p3), .val (.int p4), .val (.int p5), .val (.int (0 : Int32)), .val (.int (3 : Int32)), .val (.int x0), .val (.int x1), .val (.int x2), .val (.int y0), .val (.int y1), .val (.int y2), .val (.ref ar), .val (.ref ao), .val (.ref bt), .unset, .unset] [(.ref ao), (.ref bu), (.ref bu)])) rfl (by rw [hml]; rfl) (a := bu) (argsL := [(.ref ao)]) (rest := [(.ref bu)]) pd0 rfl rfl rfl (by show 2 * 0 + _ ≤ _; exact Nat.le_of_eq rfl) (hb hby at_165) (by decide) (by decide) ?_
      intro T106 v106 L106 X106 hQ106
      obtain ⟨du, rfl, N106q, K106q, y106_0, y106_1, y106_2, y106_3⟩ := hQ106
      have N106 := Fr.app N102 N106q
      replace V_ar := V_ar.keep K106q (ninS ne_ar_bu nin0)
      replace E_ar := E_ar.keep K106q
      replace E_ao := E_ao.keep K106q
      replace V_ao := V_ao.keep K106q (ninS ne_ao_bu nin0)
      replace E_bt := E_bt.keep K106q
      replace F_levels_bt := F_levels_bt.keep K106q (ninS ne_bt_bu nin0)
      replace V_dt := V_dt.keep K106q (ninS ne_dt_bu nin0)
      replace E_dt := E_dt.keep K106q
      replace E_bu := E_bu.keep K106q
      clear F_levels_bu
      have Z107 := Nat.le_trans Z105 K106q.1
      have E_bu := y106_0
      have F_levels_bu := y106_1
      have V_du := y106_2
      have E_du := y106_3
      show own_Go p e s below _ _ _ T106 (mkF m 168 #[.val (.int p0), .val (.int p1), .val (.int p2), .val (.int p3), .val (.int p4), .val (.int p5), .val (.int (0 : Int32)), .val (.int (3 : Int32)), .val (.int x0), .val (.int x1), .val (.int x2), .val (.int y0), .val (.int y1), .val (.int y2), .val (.ref ar), .val (.ref ao), .val (.ref bt), .unset, .unset] [(.ref bu)])
      refine own_st (fun _ k => XS.astore X106.here hx rfl (hb hby at_168) rfl rfl (l' := #[.val (.int p0), .val (.int p1), .val (.int p2), .val (.int p3), .val (.int p4), .val (.int p5), .val (.int (0 : Int32)), .val (.int (3 : Int32)), .val (.int x0), .val (.int x1), .val (.int x2), .val (.int y0), .val (.int y1), .val (.int y2), .val (.ref ar), .val (.ref ao), .val (.ref bt), .val (.ref bu), .unset]) rfl k) ?_
      show own_Go p e s below _ _ _ T106 (mkF m 170 #[.val (.int p0), .val (.int p1), .val (.int p2), .val (.int p3), .val (.int p4), .val (.int p5), .val (.int (0 : Int32)), .val (.int (3 : Int32)), .val (.int x0), .val (.int x1), .val (.int x2), .val (.int y0), .val (.int y1), .val (.int y2), .val (.ref ar), .val (.ref ao), .val (.ref bt), .val (.ref bu), .unset] [])
      refine own_st (fun _ k => XS.iload X106.here hx rfl (hb hby at_170) rfl k) ?_
      show own_Go p e s below _ _ _ T106 (mkF m 172 #[.val (.int p0), .val (.int p1), .val (.int p2), .val (.int p3), .val (.int p4), .val (.int p5), .val (.int (0 : Int32)), .val (.int (3 : Int32)), .val (.int x0), .val (.int x1), .val (.int x2), .val (.int y0), .val (.int y1), .val (.int y2), .val (.ref ar), .val (.ref ao), .val (.ref bt), .val (.ref bu), .unset] [(.int (0 : Int32))])
      refine own_st (fun _ k => XS.iconst X106.here hx rfl (hb hby at_172) k) ?_
      show own_Go p e s below _ _ _ T106 (mkF m 173 #[.val (.int p0), .val (.int p1), .val (.int p2), .val (.int p3), .val (.int p4), .val (.int p5), .val (.int (0 : Int32)), .val (.int (3 : Int32)), .val (.int x0), .val (.int x1), .val (.int x2), .val (.int y0), .val (.int y1), .val (.int y2), .val (.ref ar), .val (.ref ao), .val (.ref bt), .val (.ref bu), .unset] [(.int (1 : Int32)), (.int (0 : Int32))])
      have J214 : ∀  (bz : Int32) (_ : bz = own_b (True)), own_Go p e s below (fun (v : Option Value) (h : Heap) (L : List Loc) => v = some (.int 1) ∧ Fr n0 L) 24 128 T106 (mkF m 214 #[.val (.int p0), .val (.int p1), .val (.int p2), .val (.int p3), .val (.int p4), .val (.int p5), .val (.int (0 : Int32)), .val (.int (3 : Int32)), .val (.int x0), .val (.int x1), .val (.int x2), .val (.int y0), .val (.int y1), .val (.int y2), .val (.ref ar), .val (.ref ao), .val (.ref bt), .val (.ref bu), .unset] [(.int bz)]) := by
        rintro _ rfl
        show own_Go p e s below _ _ _ T106 (mkF m 214 #[.val (.int p0), .val (.int p1), .val (.int p2), .val (.int p3), .val (.int p4), .val (.int p5), .val (.int (0 : Int32)), .val (.int (3 : Int32)), .val (.int x0), .val (.int x1), .val (.int x2), .val (.int y0), .val (.int y1), .val (.int y2), .val (.ref ar), .val (.ref ao), .val (.ref bt), .val (.ref bu), .unset] [(.int (own_b (True)))])
        refine own_st (fun _ k => XS.istore X106.here hx rfl (hb hby at_214) rfl (l' := #[.val (.int p0), .val (.int p1), .val (.int p2), .val (.int p3), .val (.int p4), .val (.int p5), .val (.int (0 : Int32)), .val (.int (3 : Int32)), .val (.int x0), .val (.int x1), .val (.int x2), .val (.int y0), .val (.int y1), .val (.int y2), .val (.ref ar), .val (.ref ao), .val (.ref bt), .val (.ref bu), .val (.int (own_b (True)))]) rfl k) ?_
        show own_Go p e s below _ _ _ T106 (mkF m 216 #[.val (.int p0), .val (.int p1), .val (.int p2), .val (.int p3), .val (.int p4), .val (.int p5), .val (.int (0 : Int32)), .val (.int (3 : Int32)), .val (.int x0), .val (.int x1), .val (.int x2), .val (.int y0), .val (.int y1), .val (.int y2), .val (.ref ar), .val (.ref ao), .val (.ref bt), .val (.ref bu), .val (.int (own_b (True)))] [])
        refine own_st (fun _ k => XS.aload X106.here hx rfl (hb hby at_216) rfl rfl k) ?_
        show own_Go p e s below _ _ _ T106 (mkF m 218 #[.val (.int p0), .val (.int p1), .val (.int p2), .val (.int p3), .val (.int p4), .val (.int p5), .val (.int (0 : Int32)), .val (.int (3 : Int32)), .val (.int x0), .val (.int x1), .val (.int x2), .val (.int y0), .val (.int y1), .val (.int y2), .val (.ref ar), .val (.ref ao), .val (.ref bt), .val (.ref bu), .val (.int (own_b (True)))] [(.ref bt)])
        refine own_st (fun _ k => XS.aload X106.here hx rfl (hb hby at_218) rfl rfl k) ?_
        show own_Go p e s below _ _ _ T106 (mkF m 220 #[.val (.int p0), .val (.int p1), .val (.int p2), .val (.int p3), .val (.int p4), .val (.int p5), .val (.int (0 : Int32)), .val (.int (3 : Int32)), .val (.int x0), .val (.int x1), .val (.int x2), .val (.int y0), .val (.int y1), .val (.int y2), .val (.ref ar), .val (.ref ao), .val (.ref bt), .val (.ref bu), .val (.int (own_b (True)))] [(.ref bu), (.ref bt)])
        refine own_callV X106 hx hZ (y := (⟨"com/example/hush5/hush5/model/Transformation", "liesAtOrBelow", "(Lcom/example/hush5/hush5/model/Transformation;)Z"⟩ : MethodName)) hown (hw _ (List.mem_of_getElem? (i := 22) rfl)) (hw _ (List.mem_of_getElem? (i := 23) rfl)) (hw _ (List.mem_of_getElem? (i := 25) rfl)) (hw _ (List.mem_of_getElem? (i := 24) rfl)) (hw _ (List.mem_of_getElem? (i := 4) rfl)) (hw _ (List.mem_of_getElem? (i := 26) rfl)) (by decide) rfl (rm3_0_3 l Z a0 hw [] bt bu dt du k90 k92  y0 y1 y2 T106.heap n0 Z107 F_levels_bt F_levels_bu V_dt V_du) 0 (by decide) (by decide) E_bt (g := (mkF m 220 #[.val (.int p0), .val (.int p1), .val (.int p2), .val (.int p3), .val (.int p4), .val (.int p5), .val (.int (0 : Int32)), .val (.int (3 : Int32)), .val (.int x0), .val (.int x1), .val (.int x2), .val (.int y0), .val (.int y1), .val (.int y2), .val (.ref ar), .val (.ref ao), .val (.ref bt), .val (.ref bu), .val (.int (own_b (True)))] [(.ref bu), (.ref bt)])) rfl (by rw [hml]; rfl) (argsL := [(.ref bu)]) (rest := []) pd1 rfl rfl rfl (by show 2 * 0 + _ ≤ _; exact Nat.le_of_eq rfl) (hb hby at_220) (by decide) (by decide) ?_
        intro T108 v108 L108 X108 hQ108
        obtain ⟨rfl, N108q, e108⟩ := hQ108
        have N108 := Fr.app N106 N108q
        show own_Go p e s below _ _ _ T108 (mkF m 223 #[.val (.int p0), .val (.int p1), .val (.int p2), .val (.int p3), .val (.int p4), .val (.int p5), .val (.int (0 : Int32)), .val (.int (3 : Int32)), .val (.int x0), .val (.int x1), .val (.int x2), .val (.int y0), .val (.int y1), .val (.int y2), .val (.ref ar), .val (.ref ao), .val (.ref bt), .val (.ref bu), .val (.int (own_b (True)))] [(.int (own_b (True)))])
        refine own_st (fun _ k => XS.iload X108.here hx rfl (hb hby at_223) rfl k) ?_
        show own_Go p e s below _ _ _ T108 (mkF m 225 #[.val (.int p0), .val (.int p1), .val (.int p2), .val (.int p3), .val (.int p4), .val (.int p5), .val (.int (0 : Int32)), .val (.int (3 : Int32)), .val (.int x0), .val (.int x1), .val (.int x2), .val (.int y0), .val (.int y1), .val (.int y2), .val (.ref ar), .val (.ref ao), .val (.ref bt), .val (.ref bu), .val (.int (own_b (True)))] [(.int (own_b (True))), (.int (own_b (True)))])
        refine own_st (fun _ k => XS.icmpNo X108.here hx rfl (hb hby at_225) rfl (teq (rfl : (own_b (True)) = (own_b (True)))).2 k) ?_
        show own_Go p e s below _ _ _ T108 (mkF m 228 #[.val (.int p0), .val (.int p1), .val (.int p2), .val (.int p3), .val (.int p4), .val (.int p5), .val (.int (0 : Int32)), .val (.int (3 : Int32)), .val (.int x0), .val (.int x1), .val (.int x2), .val (.int y0), .val (.int y1), .val (.int y2), .val (.ref ar), .val (.ref ao), .val (.ref bt), .val (.ref bu), .val (.int (own_b (True)))] [])
        refine own_st (fun _ k => XS.iconst X108.here hx rfl (hb hby at_228) k) ?_
        show own_Go p e s below _ _ _ T108 (mkF m 229 #[.val (.int p0), .val (.int p1), .val (.int p2), .val (.int p3), .val (.int p4), .val (.int p5), .val (.int (0 : Int32)), .val (.int (3 : Int32)), .val (.int x0), .val (.int x1), .val (.int x2), .val (.int y0), .val (.int y1), .val (.int y2), .val (.ref ar), .val (.ref ao), .val (.ref bt), .val (.ref bu), .val (.int (own_b (True)))] [(.int (1 : Int32))])
        refine own_st (fun _ k => XS.goto X108.here hx rfl (pc0 := 229) (pc' := 233) rfl (hb hby at_229) (by decide) (by decide) k) ?_
        show own_Go p e s below _ _ _ T108 (mkF m 233 #[.val (.int p0), .val (.int p1), .val (.int p2), .val (.int p3), .val (.int p4), .val (.int p5), .val (.int (0 : Int32)), .val (.int (3 : Int32)), .val (.int x0), .val (.int x1), .val (.int x2), .val (.int y0), .val (.int y1), .val (.int y2), .val (.ref ar), .val (.ref ao), .val (.ref bt), .val (.ref bu), .val (.int (own_b (True)))] [(.int (1 : Int32))])
        exact own_retN X108 hx hlk (t := .boolean) hret (by simp) (hb hby at_233) (z' := (1 : Int32)) rfl (by decide) (by decide) ⟨rfl, N108⟩
      refine own_st (fun _ k => XS.icmpYes X106.here hx rfl (pc0 := 173) (pc' := 183) rfl (hb hby at_173) rfl (by decide) (by decide) (by decide) k) ?_
      show own_Go p e s below _ _ _ T106 (mkF m 183 #[.val (.int p0), .val (.int p1), .val (.int p2), .val (.int p3), .val (.int p4), .val (.int p5), .val (.int (0 : Int32)), .val (.int (3 : Int32)), .val (.int x0), .val (.int x1), .val (.int x2), .val (.int y0), .val (.int y1), .val (.int y2), .val (.ref ar), .val (.ref ao), .val (.ref bt), .val (.ref bu), .unset] [])
      refine own_st (fun _ k => XS.iload X106.here hx rfl (hb hby at_183) rfl k) ?_
      show own_Go p e s below _ _ _ T106 (mkF m 185 #[.val (.int p0), .val (.int p1), .val (.int p2), .val (.int p3), .val (.int p4), .val (.int p5), .val (.int (0 : Int32)), .val (.int (3 : Int32)), .val (.int x0), .val (.int x1), .val (.int x2), .val (.int y0), .val (.int y1), .val (.int y2), .val (.ref ar), .val (.ref ao), .val (.ref bt), .val (.ref bu), .unset] [(.int (0 : Int32))])
      refine own_st (fun _ k => XS.iconst X106.here hx rfl (hb hby at_185) k) ?_
      show own_Go p e s below _ _ _ T106 (mkF m 186 #[.val (.int p0), .val (.int p1), .val (.int p2), .val (.int p3), .val (.int p4), .val (.int p5), .val (.int (0 : Int32)), .val (.int (3 : Int32)), .val (.int x0), .val (.int x1), .val (.int x2), .val (.int y0), .val (.int y1), .val (.int y2), .val (.ref ar), .val (.ref ao), .val (.ref bt), .val (.ref bu), .unset] [(.int (2 : Int32)), (.int (0 : Int32))])
      refine own_st (fun _ k => XS.icmpYes X106.here hx rfl (pc0 := 186) (pc' := 196) rfl (hb hby at_186) rfl (by decide) (by decide) (by decide) k) ?_
      show own_Go p e s below _ _ _ T106 (mkF m 196 #[.val (.int p0), .val (.int p1), .val (.int p2), .val (.int p3), .val (.int p4), .val (.int p5), .val (.int (0 : Int32)), .val (.int (3 : Int32)), .val (.int x0), .val (.int x1), .val (.int x2), .val (.int y0), .val (.int y1), .val (.int y2), .val (.ref ar), .val (.ref ao), .val (.ref bt), .val (.ref bu), .unset] [])
      refine own_st (fun _ k => XS.iload X106.here hx rfl (hb hby at_196) rfl k) ?_
      show own_Go p e s below _ _ _ T106 (mkF m 198 #[.val (.int p0), .val (.int p1), .val (.int p2), .val (.int p3), .val (.int p4), .val (.int p5), .val (.int (0 : Int32)), .val (.int (3 : Int32)), .val (.int x0), .val (.int x1), .val (.int x2), .val (.int y0), .val (.int y1), .val (.int y2), .val (.ref ar), .val (.ref ao), .val (.ref bt), .val (.ref bu), .unset] [(.int (0 : Int32))])
      refine own_st (fun _ k => XS.iconst X106.here hx rfl (hb hby at_198) k) ?_
      show own_Go p e s below _ _ _ T106 (mkF m 199 #[.val (.int p0), .val (.int p1), .val (.int p2), .val (.int p3), .val (.int p4), .val (.int p5), .val (.int (0 : Int32)), .val (.int (3 : Int32)), .val (.int x0), .val (.int x1), .val (.int x2), .val (.int y0), .val (.int y1), .val (.int y2), .val (.ref ar), .val (.ref ao), .val (.ref bt), .val (.ref bu), .unset] [(.int (3 : Int32)), (.int (0 : Int32))])
      refine own_st (fun _ k => XS.icmpYes X106.here hx rfl (pc0 := 199) (pc' := 209) rfl (hb hby at_199) rfl (by decide) (by decide) (by decide) k) ?_
      show own_Go p e s below _ _ _ T106 (mkF m 209 #[.val (.int p0), .val (.int p1), .val (.int p2), .val (.int p3), .val (.int p4), .val (.int p5), .val (.int (0 : Int32)), .val (.int (3 : Int32)), .val (.int x0), .val (.int x1), .val (.int x2), .val (.int y0), .val (.int y1), .val (.int y2), .val (.ref ar), .val (.ref ao), .val (.ref bt), .val (.ref bu), .unset] [])
      refine own_st (fun _ k => XS.iconst X106.here hx rfl (hb hby at_209) k) ?_
      show own_Go p e s below _ _ _ T106 (mkF m 210 #[.val (.int p0), .val (.int p1), .val (.int p2), .val (.int p3), .val (.int p4), .val (.int p5), .val (.int (0 : Int32)), .val (.int (3 : Int32)), .val (.int x0), .val (.int x1), .val (.int x2), .val (.int y0), .val (.int y1), .val (.int y2), .val (.ref ar), .val (.ref ao), .val (.ref bt), .val (.ref bu), .unset] [(.int (1 : Int32))])
      refine own_st (fun _ k => XS.goto X106.here hx rfl (pc0 := 210) (pc' := 214) rfl (hb hby at_210) (by decide) (by decide) k) ?_
      show own_Go p e s below _ _ _ T106 (mkF m 214 #[.val (.int p0), .val (.int p1), .val (.int p2), .val (.int p3), .val (.int p4), .val (.int p5), .val (.int (0 : Int32)), .val (.int (3 : Int32)), .val (.int x0), .val (.int x1), .val (.int x2), .val (.int y0), .val (.int y1), .val (.int y2), .val (.ref ar), .val (.ref ao), .val (.ref bt), .val (.ref bu), .unset] [(.int (1 : Int32))])
      exact J214  _ (by rw [own_bt (P := (True)) (by simp [])])
  · show own_Go p e s below _ _ _ T0 (mkF m 11 #[.val (.int p0), .val (.int p1), .val (.int p2), .val (.int p3), .val (.int p4), .val (.int p5), .unset, .unset, .unset, .unset, .unset, .unset, .unset, .unset, .unset, .unset, .unset, .unset, .unset] [(.int (1 : Int32))])
    refine own_st (fun _ k => XS.istore X0.here hx rfl (hb hby at_11) rfl (l' := #[.val (.int p0), .val (.int p1), .val (.int p2), .val (.int p3), .val (.int p4), .val (.int p5), .val (.int (1 : Int32)), .unset, .unset, .unset, .unset, .unset, .unset, .unset, .unset, .unset, .unset, .unset, .unset]) rfl k) ?_
    show own_Go p e s below _ _ _ T0 (mkF m 13 #[.val (.int p0), .val (.int p1), .val (.int p2), .val (.int p3), .val (.int p4), .val (.int p5), .val (.int (1 : Int32)), .unset, .unset, .unset, .unset, .unset, .unset, .unset, .unset, .unset, .unset, .unset, .unset] [])
    refine own_st (fun _ k => XS.iloadN X0.here hx rfl (hb hby at_13) rfl k) ?_
    show own_Go p e s below _ _ _ T0 (mkF m 14 #[.val (.int p0), .val (.int p1), .val (.int p2), .val (.int p3), .val (.int p4), .val (.int p5), .val (.int (1 : Int32)), .unset, .unset, .unset, .unset, .unset, .unset, .unset, .unset, .unset, .unset, .unset, .unset] [(.int p2)])
    refine own_st (fun _ k => XS.bipush X0.here hx rfl (hb hby at_14) k) ?_
    show own_Go p e s below _ _ _ T0 (mkF m 16 #[.val (.int p0), .val (.int p1), .val (.int p2), .val (.int p3), .val (.int p4), .val (.int p5), .val (.int (1 : Int32)), .unset, .unset, .unset, .unset, .unset, .unset, .unset, .unset, .unset, .unset, .unset, .unset] [(.int (31 : Int32)), (.int p2)])
    refine own_st (fun _ k => XS.iushr X0.here hx rfl (hb hby at_16) rfl k) ?_
    show own_Go p e s below _ _ _ T0 (mkF m 17 #[.val (.int p0), .val (.int p1), .val (.int p2), .val (.int p3), .val (.int p4), .val (.int p5), .val (.int (1 : Int32)), .unset, .unset, .unset, .unset, .unset, .unset, .unset, .unset, .unset, .unset, .unset, .unset] [(.int ((p2.toUInt32 >>> ((31 : Int32) &&& 31).toUInt32).toInt32))])
    by_cases c17_109 : ((p2.toUInt32 >>> ((31 : Int32) &&& 31).toUInt32).toInt32) = (0 : Int32)
    · refine own_st (fun _ k => XS.ifYes X0.here hx rfl (pc0 := 17) (pc' := 24) rfl (hb hby at_17) rfl ((if0 _ _).trans (teq c17_109).1) (by decide) (by decide) k) ?_
      show own_Go p e s below _ _ _ T0 (mkF m 24 #[.val (.int p0), .val (.int p1), .val (.int p2), .val (.int p3), .val (.int p4), .val (.int p5), .val (.int (1 : Int32)), .unset, .unset, .unset, .unset, .unset, .unset, .unset, .unset, .unset, .unset, .unset, .unset] [])
      refine own_st (fun _ k => XS.iload X0.here hx rfl (hb hby at_24) rfl k) ?_
      show own_Go p e s below _ _ _ T0 (mkF m 26 #[.val (.int p0), .val (.int p1), .val (.int p2), .val (.int p3), .val (.int p4), .val (.int p5), .val (.int (1 : Int32)), .unset, .unset, .unset, .unset, .unset, .unset, .unset, .unset, .unset, .unset, .unset, .unset] [(.int (1 : Int32))])
      refine own_st (fun _ k => XS.istore X0.here hx rfl (hb hby at_26) rfl (l' := #[.val (.int p0), .val (.int p1), .val (.int p2), .val (.int p3), .val (.int p4), .val (.int p5), .val (.int (1 : Int32)), .val (.int (1 : Int32)), .unset, .unset, .unset, .unset, .unset, .unset, .unset, .unset, .unset, .unset, .unset]) rfl k) ?_
      show own_Go p e s below _ _ _ T0 (mkF m 28 #[.val (.int p0), .val (.int p1), .val (.int p2), .val (.int p3), .val (.int p4), .val (.int p5), .val (.int (1 : Int32)), .val (.int (1 : Int32)), .unset, .unset, .unset, .unset, .unset, .unset, .unset, .unset, .unset, .unset, .unset] [])
      refine own_st (fun _ k => XS.iloadN X0.here hx rfl (hb hby at_28) rfl k) ?_
      show own_Go p e s below _ _ _ T0 (mkF m 29 #[.val (.int p0), .val (.int p1), .val (.int p2), .val (.int p3), .val (.int p4), .val (.int p5), .val (.int (1 : Int32)), .val (.int (1 : Int32)), .unset, .unset, .unset, .unset, .unset, .unset, .unset, .unset, .unset, .unset, .unset] [(.int p0)])
      refine own_st (X0.ldcInt hx hown (mvT hZ (hw _ (List.mem_of_getElem? (i := 0) rfl))) (g := (mkF m 29 #[.val (.int p0), .val (.int p1), .val (.int p2), .val (.int p3), .val (.int p4), .val (.int p5), .val (.int (1 : Int32)), .val (.int (1 : Int32)), .unset, .unset, .unset, .unset, .unset, .unset, .unset, .unset, .unset, .unset, .unset] [(.int p0)])) rfl (hb hby at_29)) ?_
      show own_Go p e s below _ _ _ T0 (mkF m 31 #[.val (.int p0), .val (.int p1), .val (.int p2), .val (.int p3), .val (.int p4), .val (.int p5), .val (.int (1 : Int32)), .val (.int (1 : Int32)), .unset, .unset, .unset, .unset, .unset, .unset, .unset, .unset, .unset, .unset, .unset] [(.int (2147483647 : Int32)), (.int p0)])
      refine own_st (fun _ k => XS.iand X0.here hx rfl (hb hby at_31) rfl k) ?_
      show own_Go p e s below _ _ _ T0 (mkF m 32 #[.val (.int p0), .val (.int p1), .val (.int p2), .val (.int p3), .val (.int p4), .val (.int p5), .val (.int (1 : Int32)), .val (.int (1 : Int32)), .unset, .unset, .unset, .unset, .unset, .unset, .unset, .unset, .unset, .unset, .unset] [(.int (p0 &&& (2147483647 : Int32)))])
      refine own_st (fun _ k => XS.istore X0.here hx rfl (hb hby at_32) rfl (l' := #[.val (.int p0), .val (.int p1), .val (.int p2), .val (.int p3), .val (.int p4), .val (.int p5), .val (.int (1 : Int32)), .val (.int (1 : Int32)), .val (.int (p0 &&& (2147483647 : Int32))), .unset, .unset, .unset, .unset, .unset, .unset, .unset, .unset, .unset, .unset]) rfl k) ?_
      show own_Go p e s below _ _ _ T0 (mkF m 34 #[.val (.int p0), .val (.int p1), .val (.int p2), .val (.int p3), .val (.int p4), .val (.int p5), .val (.int (1 : Int32)), .val (.int (1 : Int32)), .val (.int (p0 &&& (2147483647 : Int32))), .unset, .unset, .unset, .unset, .unset, .unset, .unset, .unset, .unset, .unset] [])
      refine own_st (fun _ k => XS.iloadN X0.here hx rfl (hb hby at_34) rfl k) ?_
      show own_Go p e s below _ _ _ T0 (mkF m 35 #[.val (.int p0), .val (.int p1), .val (.int p2), .val (.int p3), .val (.int p4), .val (.int p5), .val (.int (1 : Int32)), .val (.int (1 : Int32)), .val (.int (p0 &&& (2147483647 : Int32))), .unset, .unset, .unset, .unset, .unset, .unset, .unset, .unset, .unset, .unset] [(.int p1)])
      refine own_st (X0.ldcInt hx hown (mvT hZ (hw _ (List.mem_of_getElem? (i := 0) rfl))) (g := (mkF m 35 #[.val (.int p0), .val (.int p1), .val (.int p2), .val (.int p3), .val (.int p4), .val (.int p5), .val (.int (1 : Int32)), .val (.int (1 : Int32)), .val (.int (p0 &&& (2147483647 : Int32))), .unset, .unset, .unset, .unset, .unset, .unset, .unset, .unset, .unset, .unset] [(.int p1)])) rfl (hb hby at_35)) ?_
      show own_Go p e s below _ _ _ T0 (mkF m 37 #[.val (.int p0), .val (.int p1), .val (.int p2), .val (.int p3), .val (.int p4), .val (.int p5), .val (.int (1 : Int32)), .val (.int (1 : Int32)), .val (.int (p0 &&& (2147483647 : Int32))), .unset, .unset, .unset, .unset, .unset, .unset, .unset, .unset, .unset, .unset] [(.int (2147483647 : Int32)), (.int p1)])
      refine own_st (fun _ k => XS.iand X0.here hx rfl (hb hby at_37) rfl k) ?_
      show own_Go p e s below _ _ _ T0 (mkF m 38 #[.val (.int p0), .val (.int p1), .val (.int p2), .val (.int p3), .val (.int p4), .val (.int p5), .val (.int (1 : Int32)), .val (.int (1 : Int32)), .val (.int (p0 &&& (2147483647 : Int32))), .unset, .unset, .unset, .unset, .unset, .unset, .unset, .unset, .unset, .unset] [(.int (p1 &&& (2147483647 : Int32)))])
      refine own_st (fun _ k => XS.istore X0.here hx rfl (hb hby at_38) rfl (l' := #[.val (.int p0), .val (.int p1), .val (.int p2), .val (.int p3), .val (.int p4), .val (.int p5), .val (.int (1 : Int32)), .val (.int (1 : Int32)), .val (.int (p0 &&& (2147483647 : Int32))), .val (.int (p1 &&& (2147483647 : Int32))), .unset, .unset, .unset, .unset, .unset, .unset, .unset, .unset, .unset]) rfl k) ?_
      show own_Go p e s below _ _ _ T0 (mkF m 40 #[.val (.int p0), .val (.int p1), .val (.int p2), .val (.int p3), .val (.int p4), .val (.int p5), .val (.int (1 : Int32)), .val (.int (1 : Int32)), .val (.int (p0 &&& (2147483647 : Int32))), .val (.int (p1 &&& (2147483647 : Int32))), .unset, .unset, .unset, .unset, .unset, .unset, .unset, .unset, .unset] [])
      refine own_st (fun _ k => XS.iloadN X0.here hx rfl (hb hby at_40) rfl k) ?_
      show own_Go p e s below _ _ _ T0 (mkF m 41 #[.val (.int p0), .val (.int p1), .val (.int p2), .val (.int p3), .val (.int p4), .val (.int p5), .val (.int (1 : Int32)), .val (.int (1 : Int32)), .val (.int (p0 &&& (2147483647 : Int32))), .val (.int (p1 &&& (2147483647 : Int32))), .unset, .unset, .unset, .unset, .unset, .unset, .unset, .unset, .unset] [(.int p2)])
      refine own_st (X0.ldcInt hx hown (mvT hZ (hw _ (List.mem_of_getElem? (i := 0) rfl))) (g := (mkF m 41 #[.val (.int p0), .val (.int p1), .val (.int p2), .val (.int p3), .val (.int p4), .val (.int p5), .val (.int (1 : Int32)), .val (.int (1 : Int32)), .val (.int (p0 &&& (2147483647 : Int32))), .val (.int (p1 &&& (2147483647 : Int32))), .unset, .unset, .unset, .unset, .unset, .unset, .unset, .unset, .unset] [(.int p2)])) rfl (hb hby at_41)) ?_
      show own_Go p e s below _ _ _ T0 (mkF m 43 #[.val (.int p0), .val (.int p1), .val (.int p2), .val (.int p3), .val (.int p4), .val (.int p5), .val (.int (1 : Int32)), .val (.int (1 : Int32)), .val (.int (p0 &&& (2147483647 : Int32))), .val (.int (p1 &&& (2147483647 : Int32))), .unset, .unset, .unset, .unset, .unset, .unset, .unset, .unset, .unset] [(.int (2147483647 : Int32)), (.int p2)])
      refine own_st (fun _ k => XS.iand X0.here hx rfl (hb hby at_43) rfl k) ?_
      show own_Go p e s below _ _ _ T0 (mkF m 44 #[.val (.int p0), .val (.int p1), .val (.int p2), .val (.int p3), .val (.int p4), .val (.int p5), .val (.int (1 : Int32)), .val (.int (1 : Int32)), .val (.int (p0 &&& (2147483647 : Int32))), .val (.int (p1 &&& (2147483647 : Int32))), .unset, .unset, .unset, .unset, .unset, .unset, .unset, .unset, .unset] [(.int (p2 &&& (2147483647 : Int32)))])
      refine own_st (fun _ k => XS.istore X0.here hx rfl (hb hby at_44) rfl (l' := #[.val (.int p0), .val (.int p1), .val (.int p2), .val (.int p3), .val (.int p4), .val (.int p5), .val (.int (1 : Int32)), .val (.int (1 : Int32)), .val (.int (p0 &&& (2147483647 : Int32))), .val (.int (p1 &&& (2147483647 : Int32))), .val (.int (p2 &&& (2147483647 : Int32))), .unset, .unset, .unset, .unset, .unset, .unset, .unset, .unset]) rfl k) ?_
      show own_Go p e s below _ _ _ T0 (mkF m 46 #[.val (.int p0), .val (.int p1), .val (.int p2), .val (.int p3), .val (.int p4), .val (.int p5), .val (.int (1 : Int32)), .val (.int (1 : Int32)), .val (.int (p0 &&& (2147483647 : Int32))), .val (.int (p1 &&& (2147483647 : Int32))), .val (.int (p2 &&& (2147483647 : Int32))), .unset, .unset, .unset, .unset, .unset, .unset, .unset, .unset] [])
      refine own_st (fun _ k => XS.iloadN X0.here hx rfl (hb hby at_46) rfl k) ?_
      show own_Go p e s below _ _ _ T0 (mkF m 47 #[.val (.int p0), .val (.int p1), .val (.int p2), .val (.int p3), .val (.int p4), .val (.int p5), .val (.int (1 : Int32)), .val (.int (1 : Int32)), .val (.int (p0 &&& (2147483647 : Int32))), .val (.int (p1 &&& (2147483647 : Int32))), .val (.int (p2 &&& (2147483647 : Int32))), .unset, .unset, .unset, .unset, .unset, .unset, .unset, .unset] [(.int p3)])
      refine own_st (X0.ldcInt hx hown (mvT hZ (hw _ (List.mem_of_getElem? (i := 0) rfl))) (g := (mkF m 47 #[.val (.int p0), .val (.int p1), .val (.int p2), .val (.int p3), .val (.int p4), .val (.int p5), .val (.int (1 : Int32)), .val (.int (1 : Int32)), .val (.int (p0 &&& (2147483647 : Int32))), .val (.int (p1 &&& (2147483647 : Int32))), .val (.int (p2 &&& (2147483647 : Int32))), .unset, .unset, .unset, .unset, .unset, .unset, .unset, .unset] [(.int p3)])) rfl (hb hby at_47)) ?_
      show own_Go p e s below _ _ _ T0 (mkF m 49 #[.val (.int p0), .val (.int p1), .val (.int p2), .val (.int p3), .val (.int p4), .val (.int p5), .val (.int (1 : Int32)), .val (.int (1 : Int32)), .val (.int (p0 &&& (2147483647 : Int32))), .val (.int (p1 &&& (2147483647 : Int32))), .val (.int (p2 &&& (2147483647 : Int32))), .unset, .unset, .unset, .unset, .unset, .unset, .unset, .unset] [(.int (2147483647 : Int32)), (.int p3)])
      refine own_st (fun _ k => XS.iand X0.here hx rfl (hb hby at_49) rfl k) ?_
      show own_Go p e s below _ _ _ T0 (mkF m 50 #[.val (.int p0), .val (.int p1), .val (.int p2), .val (.int p3), .val (.int p4), .val (.int p5), .val (.int (1 : Int32)), .val (.int (1 : Int32)), .val (.int (p0 &&& (2147483647 : Int32))), .val (.int (p1 &&& (2147483647 : Int32))), .val (.int (p2 &&& (2147483647 : Int32))), .unset, .unset, .unset, .unset, .unset, .unset, .unset, .unset] [(.int (p3 &&& (2147483647 : Int32)))])
      refine own_st (fun _ k => XS.istore X0.here hx rfl (hb hby at_50) rfl (l' := #[.val (.int p0), .val (.int p1), .val (.int p2), .val (.int p3), .val (.int p4), .val (.int p5), .val (.int (1 : Int32)), .val (.int (1 : Int32)), .val (.int (p0 &&& (2147483647 : Int32))), .val (.int (p1 &&& (2147483647 : Int32))), .val (.int (p2 &&& (2147483647 : Int32))), .val (.int (p3 &&& (2147483647 : Int32))), .unset, .unset, .unset, .unset, .unset, .unset, .unset]) rfl k) ?_
      show own_Go p e s below _ _ _ T0 (mkF m 52 #[.val (.int p0), .val (.int p1), .val (.int p2), .val (.int p3), .val (.int p4), .val (.int p5), .val (.int (1 : Int32)), .val (.int (1 : Int32)), .val (.int (p0 &&& (2147483647 : Int32))), .val (.int (p1 &&& (2147483647 : Int32))), .val (.int (p2 &&& (2147483647 : Int32))), .val (.int (p3 &&& (2147483647 : Int32))), .unset, .unset, .unset, .unset, .unset, .unset, .unset] [])
      refine own_st (fun _ k => XS.iload X0.here hx rfl (hb hby at_52) rfl k) ?_
      show own_Go p e s below _ _ _ T0 (mkF m 54 #[.val (.int p0), .val (.int p1), .val (.int p2), .val (.int p3), .val (.int p4), .val (.int p5), .val (.int (1 : Int32)), .val (.int (1 : Int32)), .val (.int (p0 &&& (2147483647 : Int32))), .val (.int (p1 &&& (2147483647 : Int32))), .val (.int (p2 &&& (2147483647 : Int32))), .val (.int (p3 &&& (2147483647 : Int32))), .unset, .unset, .unset, .unset, .unset, .unset, .unset] [(.int p4)])
      refine own_st (X0.ldcInt hx hown (mvT hZ (hw _ (List.mem_of_getElem? (i := 0) rfl))) (g := (mkF m 54 #[.val (.int p0), .val (.int p1), .val (.int p2), .val (.int p3), .val (.int p4), .val (.int p5), .val (.int (1 : Int32)), .val (.int (1 : Int32)), .val (.int (p0 &&& (2147483647 : Int32))), .val (.int (p1 &&& (2147483647 : Int32))), .val (.int (p2 &&& (2147483647 : Int32))), .val (.int (p3 &&& (2147483647 : Int32))), .unset, .unset, .unset, .unset, .unset, .unset, .unset] [(.int p4)])) rfl (hb hby at_54)) ?_
      show own_Go p e s below _ _ _ T0 (mkF m 56 #[.val (.int p0), .val (.int p1), .val (.int p2), .val (.int p3), .val (.int p4), .val (.int p5), .val (.int (1 : Int32)), .val (.int (1 : Int32)), .val (.int (p0 &&& (2147483647 : Int32))), .val (.int (p1 &&& (2147483647 : Int32))), .val (.int (p2 &&& (2147483647 : Int32))), .val (.int (p3 &&& (2147483647 : Int32))), .unset, .unset, .unset, .unset, .unset, .unset, .unset] [(.int (2147483647 : Int32)), (.int p4)])
      refine own_st (fun _ k => XS.iand X0.here hx rfl (hb hby at_56) rfl k) ?_
      show own_Go p e s below _ _ _ T0 (mkF m 57 #[.val (.int p0), .val (.int p1), .val (.int p2), .val (.int p3), .val (.int p4), .val (.int p5), .val (.int (1 : Int32)), .val (.int (1 : Int32)), .val (.int (p0 &&& (2147483647 : Int32))), .val (.int (p1 &&& (2147483647 : Int32))), .val (.int (p2 &&& (2147483647 : Int32))), .val (.int (p3 &&& (2147483647 : Int32))), .unset, .unset, .unset, .unset, .unset, .unset, .unset] [(.int (p4 &&& (2147483647 : Int32)))])
      refine own_st (fun _ k => XS.istore X0.here hx rfl (hb hby at_57) rfl (l' := #[.val (.int p0), .val (.int p1), .val (.int p2), .val (.int p3), .val (.int p4), .val (.int p5), .val (.int (1 : Int32)), .val (.int (1 : Int32)), .val (.int (p0 &&& (2147483647 : Int32))), .val (.int (p1 &&& (2147483647 : Int32))), .val (.int (p2 &&& (2147483647 : Int32))), .val (.int (p3 &&& (2147483647 : Int32))), .val (.int (p4 &&& (2147483647 : Int32))), .unset, .unset, .unset, .unset, .unset, .unset]) rfl k) ?_
      show own_Go p e s below _ _ _ T0 (mkF m 59 #[.val (.int p0), .val (.int p1), .val (.int p2), .val (.int p3), .val (.int p4), .val (.int p5), .val (.int (1 : Int32)), .val (.int (1 : Int32)), .val (.int (p0 &&& (2147483647 : Int32))), .val (.int (p1 &&& (2147483647 : Int32))), .val (.int (p2 &&& (2147483647 : Int32))), .val (.int (p3 &&& (2147483647 : Int32))), .val (.int (p4 &&& (2147483647 : Int32))), .unset, .unset, .unset, .unset, .unset, .unset] [])
      refine own_st (fun _ k => XS.iload X0.here hx rfl (hb hby at_59) rfl k) ?_
      show own_Go p e s below _ _ _ T0 (mkF m 61 #[.val (.int p0), .val (.int p1), .val (.int p2), .val (.int p3), .val (.int p4), .val (.int p5), .val (.int (1 : Int32)), .val (.int (1 : Int32)), .val (.int (p0 &&& (2147483647 : Int32))), .val (.int (p1 &&& (2147483647 : Int32))), .val (.int (p2 &&& (2147483647 : Int32))), .val (.int (p3 &&& (2147483647 : Int32))), .val (.int (p4 &&& (2147483647 : Int32))), .unset, .unset, .unset, .unset, .unset, .unset] [(.int p5)])
      refine own_st (X0.ldcInt hx hown (mvT hZ (hw _ (List.mem_of_getElem? (i := 0) rfl))) (g := (mkF m 61 #[.val (.int p0), .val (.int p1), .val (.int p2), .val (.int p3), .val (.int p4), .val (.int p5), .val (.int (1 : Int32)), .val (.int (1 : Int32)), .val (.int (p0 &&& (2147483647 : Int32))), .val (.int (p1 &&& (2147483647 : Int32))), .val (.int (p2 &&& (2147483647 : Int32))), .val (.int (p3 &&& (2147483647 : Int32))), .val (.int (p4 &&& (2147483647 : Int32))), .unset, .unset, .unset, .unset, .unset, .unset] [(.int p5)])) rfl (hb hby at_61)) ?_
      show own_Go p e s below _ _ _ T0 (mkF m 63 #[.val (.int p0), .val (.int p1), .val (.int p2), .val (.int p3), .val (.int p4), .val (.int p5), .val (.int (1 : Int32)), .val (.int (1 : Int32)), .val (.int (p0 &&& (2147483647 : Int32))), .val (.int (p1 &&& (2147483647 : Int32))), .val (.int (p2 &&& (2147483647 : Int32))), .val (.int (p3 &&& (2147483647 : Int32))), .val (.int (p4 &&& (2147483647 : Int32))), .unset, .unset, .unset, .unset, .unset, .unset] [(.int (2147483647 : Int32)), (.int p5)])
      refine own_st (fun _ k => XS.iand X0.here hx rfl (hb hby at_63) rfl k) ?_
      show own_Go p e s below _ _ _ T0 (mkF m 64 #[.val (.int p0), .val (.int p1), .val (.int p2), .val (.int p3), .val (.int p4), .val (.int p5), .val (.int (1 : Int32)), .val (.int (1 : Int32)), .val (.int (p0 &&& (2147483647 : Int32))), .val (.int (p1 &&& (2147483647 : Int32))), .val (.int (p2 &&& (2147483647 : Int32))), .val (.int (p3 &&& (2147483647 : Int32))), .val (.int (p4 &&& (2147483647 : Int32))), .unset, .unset, .unset, .unset, .unset, .unset] [(.int (p5 &&& (2147483647 : Int32)))])
      refine own_st (fun _ k => XS.istore X0.here hx rfl (hb hby at_64) rfl (l' := #[.val (.int p0), .val (.int p1), .val (.int p2), .val (.int p3), .val (.int p4), .val (.int p5), .val (.int (1 : Int32)), .val (.int (1 : Int32)), .val (.int (p0 &&& (2147483647 : Int32))), .val (.int (p1 &&& (2147483647 : Int32))), .val (.int (p2 &&& (2147483647 : Int32))), .val (.int (p3 &&& (2147483647 : Int32))), .val (.int (p4 &&& (2147483647 : Int32))), .val (.int (p5 &&& (2147483647 : Int32))), .unset, .unset, .unset, .unset, .unset]) rfl k) ?_
      show own_Go p e s below _ _ _ T0 (mkF m 66 #[.val (.int p0), .val (.int p1), .val (.int p2), .val (.int p3), .val (.int p4), .val (.int p5), .val (.int (1 : Int32)), .val (.int (1 : Int32)), .val (.int (p0 &&& (2147483647 : Int32))), .val (.int (p1 &&& (2147483647 : Int32))), .val (.int (p2 &&& (2147483647 : Int32))), .val (.int (p3 &&& (2147483647 : Int32))), .val (.int (p4 &&& (2147483647 : Int32))), .val (.int (p5 &&& (2147483647 : Int32))), .unset, .unset, .unset, .unset, .unset] [])
      obtain ⟨x0, qx0⟩ : ∃ z, z = (p0 &&& (2147483647 : Int32)) := ⟨_, rfl⟩
      rw [← qx0]
      have nx0 : ¬ x0 < 0 := qx0 ▸ own_nn _
      obtain ⟨x1, qx1⟩ : ∃ z, z = (p1 &&& (2147483647 : Int32)) := ⟨_, rfl⟩
      rw [← qx1]
      have nx1 : ¬ x1 < 0 := qx1 ▸ own_nn _
      obtain ⟨x2, qx2⟩ : ∃ z, z = (p2 &&& (2147483647 : Int32)) := ⟨_, rfl⟩
      rw [← qx2]
      have nx2 : ¬ x2 < 0 := qx2 ▸ own_nn _
      obtain ⟨y0, qy0⟩ : ∃ z, z = (p3 &&& (2147483647 : Int32)) := ⟨_, rfl⟩
      rw [← qy0]
      have ny0 : ¬ y0 < 0 := qy0 ▸ own_nn _
      obtain ⟨y1, qy1⟩ : ∃ z, z = (p4 &&& (2147483647 : Int32)) := ⟨_, rfl⟩
      rw [← qy1]
      have ny1 : ¬ y1 < 0 := qy1 ▸ own_nn _
      obtain ⟨y2, qy2⟩ : ∃ z, z = (p5 &&& (2147483647 : Int32)) := ⟨_, rfl⟩
      rw [← qy2]
      have ny2 : ¬ y2 < 0 := qy2 ▸ own_nn _
      show own_Go p e s below _ _ _ T0 (mkF m 66 #[.val (.int p0), .val (.int p1), .val (.int p2), .val (.int p3), .val (.int p4), .val (.int p5), .val (.int (1 : Int32)), .val (.int (1 : Int32)), .val (.int x0), .val (.int x1), .val (.int x2), .val (.int y0), .val (.int y1), .val (.int y2), .unset, .unset, .unset, .unset, .unset] [])
      refine own_st (fun _ k => XS.iload X0.here hx rfl (hb hby at_66) rfl k) ?_
      show own_Go p e s below _ _ _ T0 (mkF m 68 #[.val (.int p0), .val (.int p1), .val (.int p2), .val (.int p3), .val (.int p4), .val (.int p5), .val (.int (1 : Int32)), .val (.int (1 : Int32)), .val (.int x0), .val (.int x1), .val (.int x2), .val (.int y0), .val (.int y1), .val (.int y2), .unset, .unset, .unset, .unset, .unset] [(.int (1 : Int32))])
      obtain ⟨T110, h110, k110, X110, e110, E110, A110, Ex110, st110⟩ := newPE X0 hx hZ (hw _ (List.mem_of_getElem? (i := 1) rfl)) e0 (g := (mkF m 68 #[.val (.int p0), .val (.int p1), .val (.int p2), .val (.int p3), .val (.int p4), .val (.int p5), .val (.int (1 : Int32)), .val (.int (1 : Int32)), .val (.int x0), .val (.int x1), .val (.int x2), .val (.int y0), .val (.int y1), .val (.int y2), .unset, .unset, .unset, .unset, .unset] [(.int (1 : Int32))])) rfl (hb hby at_68) rfl (by decide) (cap := 1) (by decide) (by decide) (by decide) (by decide) (ad := "[I") (by decide)
      obtain ⟨ar, g110⟩ : ∃ z, z = h0.size := ⟨_, rfl⟩
      rw [← g110] at A110 Ex110 st110
      have g_ar : n0 ≤ ar := Nat.le_trans Z0 (Nat.le_of_eq g110.symm)
      have Z111 := Nat.le_trans Z0 E110.1
      have V_ar : Arv Z h110 ar k110 .int (1 : Int32) [(.int (0 : Int32))] (.int (0 : Int32)) := (Arv.new A110 (by decide)).pad (pad_rep [] (.int (0 : Int32)) 1)
      have E_ar := Ex110
      refine own_st st110 ?_
      show own_Go p e s below _ _ _ T110 (mkF m 70 #[.val (.int p0), .val (.int p1), .val (.int p2), .val (.int p3), .val (.int p4), .val (.int p5), .val (.int (1 : Int32)), .val (.int (1 : Int32)), .val (.int x0), .val (.int x1), .val (.int x2), .val (.int y0), .val (.int y1), .val (.int y2), .unset, .unset, .unset, .unset, .unset] [(.ref ar)])
      refine own_st (fun _ k => XS.astore X110.here hx rfl (hb hby at_70) rfl rfl (l' := #[.val (.int p0), .val (.int p1), .val (.int p2), .val (.int p3), .val (.int p4), .val (.int p5), .val (.int (1 : Int32)), .val (.int (1 : Int32)), .val (.int x0), .val (.int x1), .val (.int x2), .val (.int y0), .val (.int y1), .val (.int y2), .val (.ref ar), .unset, .unset, .unset, .unset]) rfl k) ?_
      show own_Go p e s below _ _ _ T110 (mkF m 72 #[.val (.int p0), .val (.int p1), .val (.int p2), .val (.int p3), .val (.int p4), .val (.int p5), .val (.int (1 : Int32)), .val (.int (1 : Int32)), .val (.int x0), .val (.int x1), .val (.int x2), .val (.int y0), .val (.int y1), .val (.int y2), .val (.ref ar), .unset, .unset, .unset, .unset] [])
      refine own_st (fun _ k => XS.iload X110.here hx rfl (hb hby at_72) rfl k) ?_
      show own_Go p e s below _ _ _ T110 (mkF m 74 #[.val (.int p0), .val (.int p1), .val (.int p2), .val (.int p3), .val (.int p4), .val (.int p5), .val (.int (1 : Int32)), .val (.int (1 : Int32)), .val (.int x0), .val (.int x1), .val (.int x2), .val (.int y0), .val (.int y1), .val (.int y2), .val (.ref ar), .unset, .unset, .unset, .unset] [(.int (1 : Int32))])
      refine own_st (fun _ k => XS.ifNo X110.here hx rfl (hb hby at_74) rfl (by decide) k) ?_
      show own_Go p e s below _ _ _ T110 (mkF m 77 #[.val (.int p0), .val (.int p1), .val (.int p2), .val (.int p3), .val (.int p4), .val (.int p5), .val (.int (1 : Int32)), .val (.int (1 : Int32)), .val (.int x0), .val (.int x1), .val (.int x2), .val (.int y0), .val (.int y1), .val (.int y2), .val (.ref ar), .unset, .unset, .unset, .unset] [])
      refine own_st (fun _ k => XS.aload X110.here hx rfl (hb hby at_77) rfl rfl k) ?_
      show own_Go p e s below _ _ _ T110 (mkF m 79 #[.val (.int p0), .val (.int p1), .val (.int p2), .val (.int p3), .val (.int p4), .val (.int p5), .val (.int (1 : Int32)), .val (.int (1 : Int32)), .val (.int x0), .val (.int x1), .val (.int x2), .val (.int y0), .val (.int y1), .val (.int y2), .val (.ref ar), .unset, .unset, .unset, .unset] [(.ref ar)])
      refine own_st (fun _ k => XS.iconst X110.here hx rfl (hb hby at_79) k) ?_
      show own_Go p e s below _ _ _ T110 (mkF m 80 #[.val (.int p0), .val (.int p1), .val (.int p2), .val (.int p3), .val (.int p4), .val (.int p5), .val (.int (1 : Int32)), .val (.int (1 : Int32)), .val (.int x0), .val (.int x1), .val (.int x2), .val (.int y0), .val (.int y1), .val (.int y2), .val (.ref ar), .unset, .unset, .unset, .unset] [(.int (0 : Int32)), (.ref ar)])
      refine own_st (fun _ k => XS.iload X110.here hx rfl (hb hby at_80) rfl k) ?_
      show own_Go p e s below _ _ _ T110 (mkF m 82 #[.val (.int p0), .val (.int p1), .val (.int p2), .val (.int p3), .val (.int p4), .val (.int p5), .val (.int (1 : Int32)), .val (.int (1 : Int32)), .val (.int x0), .val (.int x1), .val (.int x2), .val (.int y0), .val (.int y1), .val (.int y2), .val (.ref ar), .unset, .unset, .unset, .unset] [(.int x0), (.int (0 : Int32)), (.ref ar)])
      obtain ⟨T112, h112, X112, e112, W112, V112, st112⟩ := own_stI X110 hx hZ e110 V_ar (j := (0 : Int32)) ⟨by decide, by decide⟩ (Nat.le_of_ble_eq_true rfl) (g := (mkF m 82 #[.val (.int p0), .val (.int p1), .val (.int p2), .val (.int p3), .val (.int p4), .val (.int p5), .val (.int (1 : Int32)), .val (.int (1 : Int32)), .val (.int x0), .val (.int x1), .val (.int x2), .val (.int y0), .val (.int y1), .val (.int y2), .val (.ref ar), .unset, .unset, .unset, .unset] [(.int x0), (.int (0 : Int32)), (.ref ar)])) rfl rfl (hb hby at_82)
      clear V_ar
      have V_ar : Arv Z h112 ar k110 .int (1 : Int32) [(.int x0)] (.int (0 : Int32)) := V112
      replace E_ar := E_ar.wr W112
      have Z113 := Nat.le_trans Z111 (Keep.of_wr W112).1
      have N112 := Fr.snoc X112 N0 g_ar
      refine own_st st112 ?_
      show own_Go p e s below _ _ _ T112 (mkF m 83 #[.val (.int p0), .val (.int p1), .val (.int p2), .val (.int p3), .val (.int p4), .val (.int p5), .val (.int (1 : Int32)), .val (.int (1 : Int32)), .val (.int x0), .val (.int x1), .val (.int x2), .val (.int y0), .val (.int y1), .val (.int y2), .val (.ref ar), .unset, .unset, .unset, .unset] [])
      refine own_st (fun _ k => XS.iload X112.here hx rfl (hb hby at_83) rfl k) ?_
      show own_Go p e s below _ _ _ T112 (mkF m 85 #[.val (.int p0), .val (.int p1), .val (.int p2), .val (.int p3), .val (.int p4), .val (.int p5), .val (.int (1 : Int32)), .val (.int (1 : Int32)), .val (.int x0), .val (.int x1), .val (.int x2), .val (.int y0), .val (.int y1), .val (.int y2), .val (.ref ar), .unset, .unset, .unset, .unset] [(.int (1 : Int32))])
      refine own_st (fun _ k => XS.iconst X112.here hx rfl (hb hby at_85) k) ?_
      show own_Go p e s below _ _ _ T112 (mkF m 86 #[.val (.int p0), .val (.int p1), .val (.int p2), .val (.int p3), .val (.int p4), .val (.int p5), .val (.int (1 : Int32)), .val (.int (1 : Int32)), .val (.int x0), .val (.int x1), .val (.int x2), .val (.int y0), .val (.int y1), .val (.int y2), .val (.ref ar), .unset, .unset, .unset, .unset] [(.int (1 : Int32)), (.int (1 : Int32))])
      refine own_st (fun _ k => XS.icmpYes X112.here hx rfl (pc0 := 86) (pc' := 95) rfl (hb hby at_86) rfl (by decide) (by decide) (by decide) k) ?_
      show own_Go p e s below _ _ _ T112 (mkF m 95 #[.val (.int p0), .val (.int p1), .val (.int p2), .val (.int p3), .val (.int p4), .val (.int p5), .val (.int (1 : Int32)), .val (.int (1 : Int32)), .val (.int x0), .val (.int x1), .val (.int x2), .val (.int y0), .val (.int y1), .val (.int y2), .val (.ref ar), .unset, .unset, .unset, .unset] [])
      refine own_st (fun _ k => XS.iload X112.here hx rfl (hb hby at_95) rfl k) ?_
      show own_Go p e s below _ _ _ T112 (mkF m 97 #[.val (.int p0), .val (.int p1), .val (.int p2), .val (.int p3), .val (.int p4), .val (.int p5), .val (.int (1 : Int32)), .val (.int (1 : Int32)), .val (.int x0), .val (.int x1), .val (.int x2), .val (.int y0), .val (.int y1), .val (.int y2), .val (.ref ar), .unset, .unset, .unset, .unset] [(.int (1 : Int32))])
      refine own_st (fun _ k => XS.iconst X112.here hx rfl (hb hby at_97) k) ?_
      show own_Go p e s below _ _ _ T112 (mkF m 98 #[.val (.int p0), .val (.int p1), .val (.int p2), .val (.int p3), .val (.int p4), .val (.int p5), .val (.int (1 : Int32)), .val (.int (1 : Int32)), .val (.int x0), .val (.int x1), .val (.int x2), .val (.int y0), .val (.int y1), .val (.int y2), .val (.ref ar), .unset, .unset, .unset, .unset] [(.int (2 : Int32)), (.int (1 : Int32))])
      refine own_st (fun _ k => XS.icmpYes X112.here hx rfl (pc0 := 98) (pc' := 107) rfl (hb hby at_98) rfl (by decide) (by decide) (by decide) k) ?_
      show own_Go p e s below _ _ _ T112 (mkF m 107 #[.val (.int p0), .val (.int p1), .val (.int p2), .val (.int p3), .val (.int p4), .val (.int p5), .val (.int (1 : Int32)), .val (.int (1 : Int32)), .val (.int x0), .val (.int x1), .val (.int x2), .val (.int y0), .val (.int y1), .val (.int y2), .val (.ref ar), .unset, .unset, .unset, .unset] [])
      refine own_st (fun _ k => XS.iload X112.here hx rfl (hb hby at_107) rfl k) ?_
      show own_Go p e s below _ _ _ T112 (mkF m 109 #[.val (.int p0), .val (.int p1), .val (.int p2), .val (.int p3), .val (.int p4), .val (.int p5), .val (.int (1 : Int32)), .val (.int (1 : Int32)), .val (.int x0), .val (.int x1), .val (.int x2), .val (.int y0), .val (.int y1), .val (.int y2), .val (.ref ar), .unset, .unset, .unset, .unset] [(.int (1 : Int32))])
      obtain ⟨T114, h114, k114, X114, e114, E114, A114, Ex114, st114⟩ := newPE X112 hx hZ (hw _ (List.mem_of_getElem? (i := 1) rfl)) e112 (g := (mkF m 109 #[.val (.int p0), .val (.int p1), .val (.int p2), .val (.int p3), .val (.int p4), .val (.int p5), .val (.int (1 : Int32)), .val (.int (1 : Int32)), .val (.int x0), .val (.int x1), .val (.int x2), .val (.int y0), .val (.int y1), .val (.int y2), .val (.ref ar), .unset, .unset, .unset, .unset] [(.int (1 : Int32))])) rfl (hb hby at_109) rfl (by decide) (cap := 1) (by decide) (by decide) (by decide) (by decide) (ad := "[I") (by decide)
      obtain ⟨ao, g114⟩ : ∃ z, z = h112.size := ⟨_, rfl⟩
      rw [← g114] at A114 Ex114 st114
      have g_ao : n0 ≤ ao := Nat.le_trans Z113 (Nat.le_of_eq g114.symm)
      have ne_ar_ao : ar ≠ ao := Nat.ne_of_lt (Nat.lt_of_lt_of_le E_ar.lt (Nat.le_of_eq g114.symm))
      have ne_ao_ar := Ne.symm ne_ar_ao
      replace E_ar := E_ar.ext E114
      replace V_ar := V_ar.ext E114
      have Z115 := Nat.le_trans Z113 E114.1
      have V_ao : Arv Z h114 ao k114 .int (1 : Int32) [(.int (0 : Int32))] (.int (0 : Int32)) := (Arv.new A114 (by decide)).pad (pad_rep [] (.int (0 : Int32)) 1)
      have E_ao := Ex114
      refine own_st st114 ?_
      show own_Go p e s below _ _ _ T114 (mkF m 111 #[.val (.int p0), .val (.int p1), .val (.int p2), .val (.int p3), .val (.int p4), .val (.int p5), .val (.int (1 : Int32)), .val (.int (1 : Int32)), .val (.int x0), .val (.int x1), .val (.int x2), .val (.int y0), .val (.int y1), .val (.int y2), .val (.ref ar), .unset, .unset, .unset, .unset] [(.ref ao)])
      refine own_st (fun _ k => XS.astore X114.here hx rfl (hb hby at_111) rfl rfl (l' := #[.val (.int p0), .val (.int p1), .val (.int p2), .val (.int p3), .val (.int p4), .val (.int p5), .val (.int (1 : Int32)), .val (.int (1 : Int32)), .val (.int x0), .val (.int x1), .val (.int x2), .val (.int y0), .val (.int y1), .val (.int y2), .val (.ref ar), .val (.ref ao), .unset, .unset, .unset]) rfl k) ?_
      show own_Go p e s below _ _ _ T114 (mkF m 113 #[.val (.int p0), .val (.int p1), .val (.int p2), .val (.int p3), .val (.int p4), .val (.int p5), .val (.int (1 : Int32)), .val (.int (1 : Int32)), .val (.int x0), .val (.int x1), .val (.int x2), .val (.int y0), .val (.int y1), .val (.int y2), .val (.ref ar), .val (.ref ao), .unset, .unset, .unset] [])
      refine own_st (fun _ k => XS.iload X114.here hx rfl (hb hby at_113) rfl k) ?_
      show own_Go p e s below _ _ _ T114 (mkF m 115 #[.val (.int p0), .val (.int p1), .val (.int p2), .val (.int p3), .val (.int p4), .val (.int p5), .val (.int (1 : Int32)), .val (.int (1 : Int32)), .val (.int x0), .val (.int x1), .val (.int x2), .val (.int y0), .val (.int y1), .val (.int y2), .val (.ref ar), .val (.ref ao), .unset, .unset, .unset] [(.int (1 : Int32))])
      refine own_st (fun _ k => XS.ifNo X114.here hx rfl (hb hby at_115) rfl (by decide) k) ?_
      show own_Go p e s below _ _ _ T114 (mkF m 118 #[.val (.int p0), .val (.int p1), .val (.int p2), .val (.int p3), .val (.int p4), .val (.int p5), .val (.int (1 : Int32)), .val (.int (1 : Int32)), .val (.int x0), .val (.int x1), .val (.int x2), .val (.int y0), .val (.int y1), .val (.int y2), .val (.ref ar), .val (.ref ao), .unset, .unset, .unset] [])
      refine own_st (fun _ k => XS.aload X114.here hx rfl (hb hby at_118) rfl rfl k) ?_
      show own_Go p e s below _ _ _ T114 (mkF m 120 #[.val (.int p0), .val (.int p1), .val (.int p2), .val (.int p3), .val (.int p4), .val (.int p5), .val (.int (1 : Int32)), .val (.int (1 : Int32)), .val (.int x0), .val (.int x1), .val (.int x2), .val (.int y0), .val (.int y1), .val (.int y2), .val (.ref ar), .val (.ref ao), .unset, .unset, .unset] [(.ref ao)])
      refine own_st (fun _ k => XS.iconst X114.here hx rfl (hb hby at_120) k) ?_
      show own_Go p e s below _ _ _ T114 (mkF m 121 #[.val (.int p0), .val (.int p1), .val (.int p2), .val (.int p3), .val (.int p4), .val (.int p5), .val (.int (1 : Int32)), .val (.int (1 : Int32)), .val (.int x0), .val (.int x1), .val (.int x2), .val (.int y0), .val (.int y1), .val (.int y2), .val (.ref ar), .val (.ref ao), .unset, .unset, .unset] [(.int (0 : Int32)), (.ref ao)])
      refine own_st (fun _ k => XS.iload X114.here hx rfl (hb hby at_121) rfl k) ?_
      show own_Go p e s below _ _ _ T114 (mkF m 123 #[.val (.int p0), .val (.int p1), .val (.int p2), .val (.int p3), .val (.int p4), .val (.int p5), .val (.int (1 : Int32)), .val (.int (1 : Int32)), .val (.int x0), .val (.int x1), .val (.int x2), .val (.int y0), .val (.int y1), .val (.int y2), .val (.ref ar), .val (.ref ao), .unset, .unset, .unset] [(.int y0), (.int (0 : Int32)), (.ref ao)])
      obtain ⟨T116, h116, X116, e116, W116, V116, st116⟩ := own_stI X114 hx hZ e114 V_ao (j := (0 : Int32)) ⟨by decide, by decide⟩ (Nat.le_of_ble_eq_true rfl) (g := (mkF m 123 #[.val (.int p0), .val (.int p1), .val (.int p2), .val (.int p3), .val (.int p4), .val (.int p5), .val (.int (1 : Int32)), .val (.int (1 : Int32)), .val (.int x0), .val (.int x1), .val (.int x2), .val (.int y0), .val (.int y1), .val (.int y2), .val (.ref ar), .val (.ref ao), .unset, .unset, .unset] [(.int y0), (.int (0 : Int32)), (.ref ao)])) rfl rfl (hb hby at_123)
      clear V_ao
      have V_ao : Arv Z h116 ao k114 .int (1 : Int32) [(.int y0)] (.int (0 : Int32)) := V116
      replace E_ar := E_ar.wr W116
      replace V_ar := V_ar.other W116 ne_ar_ao
      replace E_ao := E_ao.wr W116
      have Z117 := Nat.le_trans Z115 (Keep.of_wr W116).1
      have N116 := Fr.snoc X116 N112 g_ao
      refine own_st st116 ?_
      show own_Go p e s below _ _ _ T116 (mkF m 124 #[.val (.int p0), .val (.int p1), .val (.int p2), .val (.int p3), .val (.int p4), .val (.int p5), .val (.int (1 : Int32)), .val (.int (1 : Int32)), .val (.int x0), .val (.int x1), .val (.int x2), .val (.int y0), .val (.int y1), .val (.int y2), .val (.ref ar), .val (.ref ao), .unset, .unset, .unset] [])
      refine own_st (fun _ k => XS.iload X116.here hx rfl (hb hby at_124) rfl k) ?_
      show own_Go p e s below _ _ _ T116 (mkF m 126 #[.val (.int p0), .val (.int p1), .val (.int p2), .val (.int p3), .val (.int p4), .val (.int p5), .val (.int (1 : Int32)), .val (.int (1 : Int32)), .val (.int x0), .val (.int x1), .val (.int x2), .val (.int y0), .val (.int y1), .val (.int y2), .val (.ref ar), .val (.ref ao), .unset, .unset, .unset] [(.int (1 : Int32))])
      refine own_st (fun _ k => XS.iconst X116.here hx rfl (hb hby at_126) k) ?_
      show own_Go p e s below _ _ _ T116 (mkF m 127 #[.val (.int p0), .val (.int p1), .val (.int p2), .val (.int p3), .val (.int p4), .val (.int p5), .val (.int (1 : Int32)), .val (.int (1 : Int32)), .val (.int x0), .val (.int x1), .val (.int x2), .val (.int y0), .val (.int y1), .val (.int y2), .val (.ref ar), .val (.ref ao), .unset, .unset, .unset] [(.int (1 : Int32)), (.int (1 : Int32))])
      refine own_st (fun _ k => XS.icmpYes X116.here hx rfl (pc0 := 127) (pc' := 136) rfl (hb hby at_127) rfl (by decide) (by decide) (by decide) k) ?_
      show own_Go p e s below _ _ _ T116 (mkF m 136 #[.val (.int p0), .val (.int p1), .val (.int p2), .val (.int p3), .val (.int p4), .val (.int p5), .val (.int (1 : Int32)), .val (.int (1 : Int32)), .val (.int x0), .val (.int x1), .val (.int x2), .val (.int y0), .val (.int y1), .val (.int y2), .val (.ref ar), .val (.ref ao), .unset, .unset, .unset] [])
      refine own_st (fun _ k => XS.iload X116.here hx rfl (hb hby at_136) rfl k) ?_
      show own_Go p e s below _ _ _ T116 (mkF m 138 #[.val (.int p0), .val (.int p1), .val (.int p2), .val (.int p3), .val (.int p4), .val (.int p5), .val (.int (1 : Int32)), .val (.int (1 : Int32)), .val (.int x0), .val (.int x1), .val (.int x2), .val (.int y0), .val (.int y1), .val (.int y2), .val (.ref ar), .val (.ref ao), .unset, .unset, .unset] [(.int (1 : Int32))])
      refine own_st (fun _ k => XS.iconst X116.here hx rfl (hb hby at_138) k) ?_
      show own_Go p e s below _ _ _ T116 (mkF m 139 #[.val (.int p0), .val (.int p1), .val (.int p2), .val (.int p3), .val (.int p4), .val (.int p5), .val (.int (1 : Int32)), .val (.int (1 : Int32)), .val (.int x0), .val (.int x1), .val (.int x2), .val (.int y0), .val (.int y1), .val (.int y2), .val (.ref ar), .val (.ref ao), .unset, .unset, .unset] [(.int (2 : Int32)), (.int (1 : Int32))])
      refine own_st (fun _ k => XS.icmpYes X116.here hx rfl (pc0 := 139) (pc' := 148) rfl (hb hby at_139) rfl (by decide) (by decide) (by decide) k) ?_
      show own_Go p e s below _ _ _ T116 (mkF m 148 #[.val (.int p0), .val (.int p1), .val (.int p2), .val (.int p3), .val (.int p4), .val (.int p5), .val (.int (1 : Int32)), .val (.int (1 : Int32)), .val (.int x0), .val (.int x1), .val (.int x2), .val (.int y0), .val (.int y1), .val (.int y2), .val (.ref ar), .val (.ref ao), .unset, .unset, .unset] [])
      obtain ⟨T118, h118, X118, e118, E118, A118, D118, -, st118⟩ := newO X116 hx hZ hown (hw _ (List.mem_of_getElem? (i := 2) rfl)) (hw _ (List.mem_of_getElem? (i := 3) rfl)) (hw _ (List.mem_of_getElem? (i := 4) rfl)) e116 (g := (mkF m 148 #[.val (.int p0), .val (.int p1), .val (.int p2), .val (.int p3), .val (.int p4), .val (.int p5), .val (.int (1 : Int32)), .val (.int (1 : Int32)), .val (.int x0), .val (.int x1), .val (.int x2), .val (.int y0), .val (.int y1), .val (.int y2), .val (.ref ar), .val (.ref ao), .unset, .unset, .unset] [])) rfl (hb hby at_148) (by decide) (by decide)
      obtain ⟨bt, g118⟩ : ∃ z, z = h116.size := ⟨_, rfl⟩
      rw [← g118] at A118 D118 st118
      have g_bt : n0 ≤ bt := Nat.le_trans Z117 (Nat.le_of_eq g118.symm)
      have ne_ao_bt : ao ≠ bt := Nat.ne_of_lt (Nat.lt_of_lt_of_le E_ao.lt (Nat.le_of_eq g118.symm))
      have ne_bt_ao := Ne.symm ne_ao_bt
      have ne_ar_bt : ar ≠ bt := Nat.ne_of_lt (Nat.lt_of_lt_of_le E_ar.lt (Nat.le_of_eq g118.symm))
      have ne_bt_ar := Ne.symm ne_ar_bt
      replace E_ar := E_ar.ext E118
      replace V_ar := V_ar.ext E118
      replace E_ao := E_ao.ext E118
      replace V_ao := V_ao.ext E118
      have Z119 := Nat.le_trans Z117 E118.1
      have E_bt := A118
      have F_levels_bt : Fld Z h118 bt "com/example/hush5/hush5/model/Transformation" "levels" "[I" .null := D118 (Or.inr (hw _ (List.mem_of_getElem? (i := 21) rfl))) (ty := (.array .int)) (by decide)
      refine own_st st118 ?_
      show own_Go p e s below _ _ _ T118 (mkF m 151 #[.val (.int p0), .val (.int p1), .val (.int p2), .val (.int p3), .val (.int p4), .val (.int p5), .val (.int (1 : Int32)), .val (.int (1 : Int32)), .val (.int x0), .val (.int x1), .val (.int x2), .val (.int y0), .val (.int y1), .val (.int y2), .val (.ref ar), .val (.ref ao), .unset, .unset, .unset] [(.ref bt)])
      refine own_st (fun _ k => XS.dup X118.here hx rfl (hb hby at_151) rfl rfl k) ?_
      show own_Go p e s below _ _ _ T118 (mkF m 152 #[.val (.int p0), .val (.int p1), .val (.int p2), .val (.int p3), .val (.int p4), .val (.int p5), .val (.int (1 : Int32)), .val (.int (1 : Int32)), .val (.int x0), .val (.int x1), .val (.int x2), .val (.int y0), .val (.int y1), .val (.int y2), .val (.ref ar), .val (.ref ao), .unset, .unset, .unset] [(.ref bt), (.ref bt)])
      refine own_st (fun _ k => XS.aload X118.here hx rfl (hb hby at_152) rfl rfl k) ?_
      show own_Go p e s below _ _ _ T118 (mkF m 154 #[.val (.int p0), .val (.int p1), .val (.int p2), .val (.int p3), .val (.int p4), .val (.int p5), .val (.int (1 : Int32)), .val (.int (1 : Int32)), .val (.int x0), .val (.int x1), .val (.int x2), .val (.int y0), .val (.int y1), .val (.int y2), .val (.ref ar), .val (.ref ao), .unset, .unset, .unset] [(.ref ar), (.ref bt), (.ref bt)])
      refine own_callN X118 hx hZ (y := (⟨"com/example/hush5/hush5/model/Transformation", "<init>", "([I)V"⟩ : MethodName)) rfl hown (hw _ (List.mem_of_getElem? (i := 5) rfl)) (hw _ (List.mem_of_getElem? (i := 6) rfl)) (hw _ (List.mem_of_getElem? (i := 4) rfl)) (hw _ (List.mem_of_getElem? (i := 7) rfl)) (by decide) e118 (rm1_1 l Z a0 hw [] bt ar k110 x0 h118 n0 Z119 E_bt F_levels_bt V_ar E_ar ne_bt_ar ne_ar_bt g_bt nx0) 1 (by decide) (by decide) (g := (mkF m 154 #[.val (.int p0), .val (.int p1), .val (.int p2), .val (.int p3), .val (.int p4), .val (.int p5), .val (.int (1 : Int32)), .val (.int (1 : Int32)), .val (.int x0), .val (.int x1), .val (.int x2), .val (.int y0), .val (.int y1), .val (.int y2), .val (.ref ar), .val (.ref ao), .unset, .unset, .unset] [(.ref ar), (.ref bt), (.ref bt)])) rfl (by rw [hml]; rfl) (a := bt) (argsL := [(.ref ar)]) (rest := [(.ref bt)]) pd0 rfl rfl rfl (by show 2 * 0 + _ ≤ _; exact Nat.le_of_eq rfl) (hb hby at_154) (by decide) (by decide) ?_
      intro T120 v120 L120 X120 hQ120
      obtain ⟨dt, rfl, N120q, K120q, y120_0, y120_1, y120_2, y120_3⟩ := hQ120
      have N120 := Fr.app N116 N120q
      replace E_ar := E_ar.keep K120q
      replace V_ar := V_ar.keep K120q (ninS ne_ar_bt nin0)
      replace E_ao := E_ao.keep K120q
      replace V_ao := V_ao.keep K120q (ninS ne_ao_bt nin0)
      replace E_bt := E_bt.keep K120q
      clear F_levels_bt
      have Z121 := Nat.le_trans Z119 K120q.1
      have E_bt := y120_0
      have F_levels_bt := y120_1
      have V_dt := y120_2
      have E_dt := y120_3
      show own_Go p e s below _ _ _ T120 (mkF m 157 #[.val (.int p0), .val (.int p1), .val (.int p2), .val (.int p3), .val (.int p4), .val (.int p5), .val (.int (1 : Int32)), .val (.int (1 : Int32)), .val (.int x0), .val (.int x1), .val (.int x2), .val (.int y0), .val (.int y1), .val (.int y2), .val (.ref ar), .val (.ref ao), .unset, .unset, .unset] [(.ref bt)])
      refine own_st (fun _ k => XS.astore X120.here hx rfl (hb hby at_157) rfl rfl (l' := #[.val (.int p0), .val (.int p1), .val (.int p2), .val (.int p3), .val (.int p4), .val (.int p5), .val (.int (1 : Int32)), .val (.int (1 : Int32)), .val (.int x0), .val (.int x1), .val (.int x2), .val (.int y0), .val (.int y1), .val (.int y2), .val (.ref ar), .val (.ref ao), .val (.ref bt), .unset, .unset]) rfl k) ?_
      show own_Go p e s below _ _ _ T120 (mkF m 159 #[.val (.int p0), .val (.int p1), .val (.int p2), .val (.int p3), .val (.int p4), .val (.int p5), .val (.int (1 : Int32)), .val (.int (1 : Int32)), .val (.int x0), .val (.int x1), .val (.int x2), .val (.int y0), .val (.int y1), .val (.int y2), .val (.ref ar), .val (.ref ao), .val (.ref bt), .unset, .unset] [])
      obtain ⟨T122, h122, X122, e122, E122, A122, D122, -, st122⟩ := newO X120 hx hZ hown (hw _ (List.mem_of_getElem? (i := 2) rfl)) (hw _ (List.mem_of_getElem? (i := 3) rfl)) (hw _ (List.mem_of_getElem? (i := 4) rfl)) rfl (g := (mkF m 159 #[.val (.int p0), .val (.int p1), .val (.int p2), .val (.int p3), .val (.int p4), .val (.int p5), .val (.int (1 : Int32)), .val (.int (1 : Int32)), .val (.int x0), .val (.int x1), .val (.int x2), .val (.int y0), .val (.int y1), .val (.int y2), .val (.ref ar), .val (.ref ao), .val (.ref bt), .unset, .unset] [])) rfl (hb hby at_159) (by decide) (by decide)
      obtain ⟨bu, g122⟩ : ∃ z, z = T120.heap.size := ⟨_, rfl⟩
      rw [← g122] at A122 D122 st122
      have g_bu : n0 ≤ bu := Nat.le_trans Z121 (Nat.le_of_eq g122.symm)
      have ne_ao_bu : ao ≠ bu := Nat.ne_of_lt (Nat.lt_of_lt_of_le E_ao.lt (Nat.le_of_eq g122.symm))
      have ne_bu_ao := Ne.symm ne_ao_bu
      have ne_ar_bu : ar ≠ bu := Nat.ne_of_lt (Nat.lt_of_lt_of_le E_ar.lt (Nat.le_of_eq g122.symm))
      have ne_bu_ar := Ne.symm ne_ar_bu
      have ne_bt_bu : bt ≠ bu := Nat.ne_of_lt (Nat.lt_of_lt_of_le E_bt.lt (Nat.le_of_eq g122.symm))
      have ne_bu_bt := Ne.symm ne_bt_bu
      have ne_dt_bu : dt ≠ bu := Nat.ne_of_lt (Nat.lt_of_lt_of_le V_dt.lt (Nat.le_of_eq g122.symm))
      have ne_bu_dt := Ne.symm ne_dt_bu
      replace E_ar := E_ar.ext E122
      replace V_ar := V_ar.ext E122
      replace E_ao := E_ao.ext E122
      replace V_ao := V_ao.ext E122
      replace E_bt := E_bt.ext E122
      replace F_levels_bt := F_levels_bt.ext E122
      replace V_dt := V_dt.ext E122
      replace E_dt := E_dt.ext E122
      have Z123 := Nat.le_trans Z121 E122.1
      have E_bu := A122
      have F_levels_bu : Fld Z h122 bu "com/example/hush5/hush5/model/Transformation" "levels" "[I" .null := D122 (Or.inr (hw _ (List.mem_of_getElem? (i := 21) rfl))) (ty := (.array .int)) (by decide)
      refine own_st st122 ?_
      show own_Go p e s below _ _ _ T122 (mkF m 162 #[.val (.int p0), .val (.int p1), .val (.int p2), .val (.int p3), .val (.int p4), .val (.int p5), .val (.int (1 : Int32)), .val (.int (1 : Int32)), .val (.int x0), .val (.int x1), .val (.int x2), .val (.int y0), .val (.int y1), .val (.int y2), .val (.ref ar), .val (.ref ao), .val (.ref bt), .unset, .unset] [(.ref bu)])
      refine own_st (fun _ k => XS.dup X122.here hx rfl (hb hby at_162) rfl rfl k) ?_
      show own_Go p e s below _ _ _ T122 (mkF m 163 #[.val (.int p0), .val (.int p1), .val (.int p2), .val (.int p3), .val (.int p4), .val (.int p5), .val (.int (1 : Int32)), .val (.int (1 : Int32)), .val (.int x0), .val (.int x1), .val (.int x2), .val (.int y0), .val (.int y1), .val (.int y2), .val (.ref ar), .val (.ref ao), .val (.ref bt), .unset, .unset] [(.ref bu), (.ref bu)])
      refine own_st (fun _ k => XS.aload X122.here hx rfl (hb hby at_163) rfl rfl k) ?_
      show own_Go p e s below _ _ _ T122 (mkF m 165 #[.val (.int p0), .val (.int p1), .val (.int p2), .val (.int p3), .val (.int p4), .val (.int p5), .val (.int (1 : Int32)), .val (.int (1 : Int32)), .val (.int x0), .val (.int x1), .val (.int x2), .val (.int y0), .val (.int y1), .val (.int y2), .val (.ref ar), .val (.ref ao), .val (.ref bt), .unset, .unset] [(.ref ao), (.ref bu), (.ref bu)])
      refine own_callN X122 hx hZ (y := (⟨"com/example/hush5/hush5/model/Transformation", "<init>", "([I)V"⟩ : MethodName)) rfl hown (hw _ (List.mem_of_getElem? (i := 5) rfl)) (hw _ (List.mem_of_getElem? (i := 6) rfl)) (hw _ (List.mem_of_getElem? (i := 4) rfl)) (hw _ (List.mem_of_getElem? (i := 7) rfl)) (by decide) e122 (rm1_1 l Z a0 hw [] bu ao k114 y0 h122 n0 Z123 E_bu F_levels_bu V_ao E_ao ne_bu_ao ne_ao_bu g_bu ny0) 1 (by decide) (by decide) (g := (mkF m 165 #[.val (.int p0), .val (.int p1), .val (.int p2), .val (.int p3), .val (.int p4), .val (.int p5), .val (.int (1 : Int32)), .val (.int (1 : Int32)), .val (.int x0), .val (.int x1), .val (.int x2), .val (.int y0), .val (.int y1), .val (.int y2), .val (.ref ar), .val (.ref ao), .val (.ref bt), .unset, .unset] [(.ref ao), (.ref bu), (.ref bu)])) rfl (by rw [hml]; rfl) (a := bu) (argsL := [(.ref ao)]) (rest := [(.ref bu)]) pd0 rfl rfl rfl (by show 2 * 0 + _ ≤ _; exact Nat.le_of_eq rfl) (hb hby at_165) (by decide) (by decide) ?_
      intro T124 v124 L124 X124 hQ124
      obtain ⟨du, rfl, N124q, K124q, y124_0, y124_1, y124_2, y124_3⟩ := hQ124
      have N124 := Fr.app N120 N124q
      replace E_ar := E_ar.keep K124q
      replace V_ar := V_ar.keep K124q (ninS ne_ar_bu nin0)
      replace E_ao := E_ao.keep K124q
      replace V_ao := V_ao.keep K124q (ninS ne_ao_bu nin0)
      replace E_bt := E_bt.keep K124q
      replace F_levels_bt := F_levels_bt.keep K124q (ninS ne_bt_bu nin0)
      replace V_dt := V_dt.keep K124q (ninS ne_dt_bu nin0)
      replace E_dt := E_dt.keep K124q
      replace E_bu := E_bu.keep K124q
      clear F_levels_bu
      have Z125 := Nat.le_trans Z123 K124q.1
      have E_bu := y124_0
      have F_levels_bu := y124_1
      have V_du := y124_2
      have E_du := y124_3
      show own_Go p e s below _ _ _ T124 (mkF m 168 #[.val (.int p0), .val (.int p1), .val (.int p2), .val (.int p3), .val (.int p4), .val (.int p5), .val (.int (1 : Int32)), .val (.int (1 : Int32)), .val (.int x0), .val (.int x1), .val (.int x2), .val (.int y0), .val (.int y1), .val (.int y2), .val (.ref ar), .val (.ref ao), .val (.ref bt), .unset, .unset] [(.ref bu)])
      refine own_st (fun _ k => XS.astore X124.here hx rfl (hb hby at_168) rfl rfl (l' := #[.val (.int p0), .val (.int p1), .val (.int p2), .val (.int p3), .val (.int p4), .val (.int p5), .val (.int (1 : Int32)), .val (.int (1 : Int32)), .val (.int x0), .val (.int x1), .val (.int x2), .val (.int y0), .val (.int y1), .val (.int y2), .val (.ref ar), .val (.ref ao), .val (.ref bt), .val (.ref bu), .unset]) rfl k) ?_
      show own_Go p e s below _ _ _ T124 (mkF m 170 #[.val (.int p0), .val (.int p1), .val (.int p2), .val (.int p3), .val (.int p4), .val (.int p5), .val (.int (1 : Int32)), .val (.int (1 : Int32)), .val (.int x0), .val (.int x1), .val (.int x2), .val (.int y0), .val (.int y1), .val (.int y2), .val (.ref ar), .val (.ref ao), .val (.ref bt), .val (.ref bu), .unset] [])
      refine own_st (fun _ k => XS.iload X124.here hx rfl (hb hby at_170) rfl k) ?_
      show own_Go p e s below _ _ _ T124 (mkF m 172 #[.val (.int p0), .val (.int p1), .val (.int p2), .val (.int p3), .val (.int p4), .val (.int p5), .val (.int (1 : Int32)), .val (.int (1 : Int32)), .val (.int x0), .val (.int x1), .val (.int x2), .val (.int y0), .val (.int y1), .val (.int y2), .val (.ref ar), .val (.ref ao), .val (.ref bt), .val (.ref bu), .unset] [(.int (1 : Int32))])
      refine own_st (fun _ k => XS.iconst X124.here hx rfl (hb hby at_172) k) ?_
      show own_Go p e s below _ _ _ T124 (mkF m 173 #[.val (.int p0), .val (.int p1), .val (.int p2), .val (.int p3), .val (.int p4), .val (.int p5), .val (.int (1 : Int32)), .val (.int (1 : Int32)), .val (.int x0), .val (.int x1), .val (.int x2), .val (.int y0), .val (.int y1), .val (.int y2), .val (.ref ar), .val (.ref ao), .val (.ref bt), .val (.ref bu), .unset] [(.int (1 : Int32)), (.int (1 : Int32))])
      have J214 : ∀  (bz : Int32) (_ : bz = own_b (¬ y0 < x0)), own_Go p e s below (fun (v : Option Value) (h : Heap) (L : List Loc) => v = some (.int 1) ∧ Fr n0 L) 24 128 T124 (mkF m 214 #[.val (.int p0), .val (.int p1), .val (.int p2), .val (.int p3), .val (.int p4), .val (.int p5), .val (.int (1 : Int32)), .val (.int (1 : Int32)), .val (.int x0), .val (.int x1), .val (.int x2), .val (.int y0), .val (.int y1), .val (.int y2), .val (.ref ar), .val (.ref ao), .val (.ref bt), .val (.ref bu), .unset] [(.int bz)]) := by
        rintro _ rfl
        show own_Go p e s below _ _ _ T124 (mkF m 214 #[.val (.int p0), .val (.int p1), .val (.int p2), .val (.int p3), .val (.int p4), .val (.int p5), .val (.int (1 : Int32)), .val (.int (1 : Int32)), .val (.int x0), .val (.int x1), .val (.int x2), .val (.int y0), .val (.int y1), .val (.int y2), .val (.ref ar), .val (.ref ao), .val (.ref bt), .val (.ref bu), .unset] [(.int (own_b (¬ y0 < x0)))])
        refine own_st (fun _ k => XS.istore X124.here hx rfl (hb hby at_214) rfl (l' := #[.val (.int p0), .val (.int p1), .val (.int p2), .val (.int p3), .val (.int p4), .val (.int p5), .val (.int (1 : Int32)), .val (.int (1 : Int32)), .val (.int x0), .val (.int x1), .val (.int x2), .val (.int y0), .val (.int y1), .val (.int y2), .val (.ref ar), .val (.ref ao), .val (.ref bt), .val (.ref bu), .val (.int (own_b (¬ y0 < x0)))]) rfl k) ?_
        show own_Go p e s below _ _ _ T124 (mkF m 216 #[.val (.int p0), .val (.int p1), .val (.int p2), .val (.int p3), .val (.int p4), .val (.int p5), .val (.int (1 : Int32)), .val (.int (1 : Int32)), .val (.int x0), .val (.int x1), .val (.int x2), .val (.int y0), .val (.int y1), .val (.int y2), .val (.ref ar), .val (.ref ao), .val (.ref bt), .val (.ref bu), .val (.int (own_b (¬ y0 < x0)))] [])
        refine own_st (fun _ k => XS.aload X124.here hx rfl (hb hby at_216) rfl rfl k) ?_
        show own_Go p e s below _ _ _ T124 (mkF m 218 #[.val (.int p0), .val (.int p1), .val (.int p2), .val (.int p3), .val (.int p4), .val (.int p5), .val (.int (1 : Int32)), .val (.int (1 : Int32)), .val (.int x0), .val (.int x1), .val (.int x2), .val (.int y0), .val (.int y1), .val (.int y2), .val (.ref ar), .val (.ref ao), .val (.ref bt), .val (.ref bu), .val (.int (own_b (¬ y0 < x0)))] [(.ref bt)])
        refine own_st (fun _ k => XS.aload X124.here hx rfl (hb hby at_218) rfl rfl k) ?_
        show own_Go p e s below _ _ _ T124 (mkF m 220 #[.val (.int p0), .val (.int p1), .val (.int p2), .val (.int p3), .val (.int p4), .val (.int p5), .val (.int (1 : Int32)), .val (.int (1 : Int32)), .val (.int x0), .val (.int x1), .val (.int x2), .val (.int y0), .val (.int y1), .val (.int y2), .val (.ref ar), .val (.ref ao), .val (.ref bt), .val (.ref bu), .val (.int (own_b (¬ y0 < x0)))] [(.ref bu), (.ref bt)])
        refine own_callV X124 hx hZ (y := (⟨"com/example/hush5/hush5/model/Transformation", "liesAtOrBelow", "(Lcom/example/hush5/hush5/model/Transformation;)Z"⟩ : MethodName)) hown (hw _ (List.mem_of_getElem? (i := 22) rfl)) (hw _ (List.mem_of_getElem? (i := 23) rfl)) (hw _ (List.mem_of_getElem? (i := 25) rfl)) (hw _ (List.mem_of_getElem? (i := 24) rfl)) (hw _ (List.mem_of_getElem? (i := 4) rfl)) (hw _ (List.mem_of_getElem? (i := 26) rfl)) (by decide) rfl (rm3_1_1 l Z a0 hw [] bt bu dt du k110 k114 x0 y0 T124.heap n0 Z125 F_levels_bt F_levels_bu V_dt V_du) 0 (by decide) (by decide) E_bt (g := (mkF m 220 #[.val (.int p0), .val (.int p1), .val (.int p2), .val (.int p3), .val (.int p4), .val (.int p5), .val (.int (1 : Int32)), .val (.int (1 : Int32)), .val (.int x0), .val (.int x1), .val (.int x2), .val (.int y0), .val (.int y1), .val (.int y2), .val (.ref ar), .val (.ref ao), .val (.ref bt), .val (.ref bu), .val (.int (own_b (¬ y0 < x0)))] [(.ref bu), (.ref bt)])) rfl (by rw [hml]; rfl) (argsL := [(.ref bu)]) (rest := []) pd1 rfl rfl rfl (by show 2 * 0 + _ ≤ _; exact Nat.le_of_eq rfl) (hb hby at_220) (by decide) (by decide) ?_
        intro T126 v126 L126 X126 hQ126
        obtain ⟨rfl, N126q, e126⟩ := hQ126
        have N126 := Fr.app N124 N126q
        show own_Go p e s below _ _ _ T126 (mkF m 223 #[.val (.int p0), .val (.int p1), .val (.int p2), .val (.int p3), .val (.int p4), .val (.int p5), .val (.int (1 : Int32)), .val (.int (1 : Int32)), .val (.int x0), .val (.int x1), .val (.int x2), .val (.int y0), .val (.int y1), .val (.int y2), .val (.ref ar), .val (.ref ao), .val (.ref bt), .val (.ref bu), .val (.int (own_b (¬ y0 < x0)))] [(.int (own_b (¬ y0 < x0)))])
        refine own_st (fun _ k => XS.iload X126.here hx rfl (hb hby at_223) rfl k) ?_
        show own_Go p e s below _ _ _ T126 (mkF m 225 #[.val (.int p0), .val (.int p1), .val (.int p2), .val (.int p3), .val (.int p4), .val (.int p5), .val (.int (1 : Int32)), .val (.int (1 : Int32)), .val (.int x0), .val (.int x1), .val (.int x2), .val (.int y0), .val (.int y1), .val (.int y2), .val (.ref ar), .val (.ref ao), .val (.ref bt), .val (.ref bu), .val (.int (own_b (¬ y0 < x0)))] [(.int (own_b (¬ y0 < x0))), (.int (own_b (¬ y0 < x0)))])
        refine own_st (fun _ k => XS.icmpNo X126.here hx rfl (hb hby at_225) rfl (teq (rfl : (own_b (¬ y0 < x0)) = (own_b (¬ y0 < x0)))).2 k) ?_
        show own_Go p e s below _ _ _ T126 (mkF m 228 #[.val (.int p0), .val (.int p1), .val (.int p2), .val (.int p3), .val (.int p4), .val (.int p5), .val (.int (1 : Int32)), .val (.int (1 : Int32)), .val (.int x0), .val (.int x1), .val (.int x2), .val (.int y0), .val (.int y1), .val (.int y2), .val (.ref ar), .val (.ref ao), .val (.ref bt), .val (.ref bu), .val (.int (own_b (¬ y0 < x0)))] [])
        refine own_st (fun _ k => XS.iconst X126.here hx rfl (hb hby at_228) k) ?_
        show own_Go p e s below _ _ _ T126 (mkF m 229 #[.val (.int p0), .val (.int p1), .val (.int p2), .val (.int p3), .val (.int p4), .val (.int p5), .val (.int (1 : Int32)), .val (.int (1 : Int32)), .val (.int x0), .val (.int x1), .val (.int x2), .val (.int y0), .val (.int y1), .val (.int y2), .val (.ref ar), .val (.ref ao), .val (.ref bt), .val (.ref bu), .val (.int (own_b (¬ y0 < x0)))] [(.int (1 : Int32))])
        refine own_st (fun _ k => XS.goto X126.here hx rfl (pc0 := 229) (pc' := 233) rfl (hb hby at_229) (by decide) (by decide) k) ?_
        show own_Go p e s below _ _ _ T126 (mkF m 233 #[.val (.int p0), .val (.int p1), .val (.int p2), .val (.int p3), .val (.int p4), .val (.int p5), .val (.int (1 : Int32)), .val (.int (1 : Int32)), .val (.int x0), .val (.int x1), .val (.int x2), .val (.int y0), .val (.int y1), .val (.int y2), .val (.ref ar), .val (.ref ao), .val (.ref bt), .val (.ref bu), .val (.int (own_b (¬ y0 < x0)))] [(.int (1 : Int32))])
        exact own_retN X126 hx hlk (t := .boolean) hret (by simp) (hb hby at_233) (z' := (1 : Int32)) rfl (by decide) (by decide) ⟨rfl, N126⟩
      refine own_st (fun _ k => XS.icmpNo X124.here hx rfl (hb hby at_173) rfl (by decide) k) ?_
      show own_Go p e s below _ _ _ T124 (mkF m 176 #[.val (.int p0), .val (.int p1), .val (.int p2), .val (.int p3), .val (.int p4), .val (.int p5), .val (.int (1 : Int32)), .val (.int (1 : Int32)), .val (.int x0), .val (.int x1), .val (.int x2), .val (.int y0), .val (.int y1), .val (.int y2), .val (.ref ar), .val (.ref ao), .val (.ref bt), .val (.ref bu), .unset] [])
      refine own_st (fun _ k => XS.iload X124.here hx rfl (hb hby at_176) rfl k) ?_
      show own_Go p e s below _ _ _ T124 (mkF m 178 #[.val (.int p0), .val (.int p1), .val (.int p2), .val (.int p3), .val (.int p4), .val (.int p5), .val (.int (1 : Int32)), .val (.int (1 : Int32)), .val (.int x0), .val (.int x1), .val (.int x2), .val (.int y0), .val (.int y1), .val (.int y2), .val (.ref ar), .val (.ref ao), .val (.ref bt), .val (.ref bu), .unset] [(.int x0)])
      refine own_st (fun _ k => XS.iload X124.here hx rfl (hb hby at_178) rfl k) ?_
      show own_Go p e s below _ _ _ T124 (mkF m 180 #[.val (.int p0), .val (.int p1), .val (.int p2), .val (.int p3), .val (.int p4), .val (.int p5), .val (.int (1 : Int32)), .val (.int (1 : Int32)), .val (.int x0), .val (.int x1), .val (.int x2), .val (.int y0), .val (.int y1), .val (.int y2), .val (.ref ar), .val (.ref ao), .val (.ref bt), .val (.ref bu), .unset] [(.int y0), (.int x0)])
      by_cases c180_127 : y0 < x0
      · refine own_st (fun _ k => XS.icmpYes X124.here hx rfl (pc0 := 180) (pc' := 213) rfl (hb hby at_180) rfl (tlt c180_127).2.2.1 (by decide) (by decide) k) ?_
        show own_Go p e s below _ _ _ T124 (mkF m 213 #[.val (.int p0), .val (.int p1), .val (.int p2), .val (.int p3), .val (.int p4), .val (.int p5), .val (.int (1 : Int32)), .val (.int (1 : Int32)), .val (.int x0), .val (.int x1), .val (.int x2), .val (.int y0), .val (.int y1), .val (.int y2), .val (.ref ar), .val (.ref ao), .val (.ref bt), .val (.ref bu), .unset] [])
        refine own_st (fun _ k => XS.iconst X124.here hx rfl (hb hby at_213) k) ?_
        show own_Go p e s below _ _ _ T124 (mkF m 214 #[.val (.int p0), .val (.int p1), .val (.int p2), .val (.int p3), .val (.int p4), .val (.int p5), .val (.int (1 : Int32)), .val (.int (1 : Int32)), .val (.int x0), .val (.int x1), .val (.int x2), .val (.int y0), .val (.int y1), .val (.int y2), .val (.ref ar), .val (.ref ao), .val (.ref bt), .val (.ref bu), .unset] [(.int (0 : Int32))])
        exact J214  _ (by rw [own_bf (P := (¬ y0 < x0)) (by simp [c180_127])])
      · refine own_st (fun _ k => XS.icmpNo X124.here hx rfl (hb hby at_180) rfl (flt c180_127).2.2.1 k) ?_
        show own_Go p e s below _ _ _ T124 (mkF m 183 #[.val (.int p0), .val (.int p1), .val (.int p2), .val (.int p3), .val (.int p4), .val (.int p5), .val (.int (1 : Int32)), .val (.int (1 : Int32)), .val (.int x0), .val (.int x1), .val (.int x2), .val (.int y0), .val (.int y1), .val (.int y2), .val (.ref ar), .val (.ref ao), .val (.ref bt), .val (.ref bu), .unset] [])
        refine own_st (fun _ k => XS.iload X124.here hx rfl (hb hby at_183) rfl k) ?_
        show own_Go p e s below _ _ _ T124 (mkF m 185 #[.val (.int p0), .val (.int p1), .val (.int p2), .val (.int p3), .val (.int p4), .val (.int p5), .val (.int (1 : Int32)), .val (.int (1 : Int32)), .val (.int x0), .val (.int x1), .val (.int x2), .val (.int y0), .val (.int y1), .val (.int y2), .val (.ref ar), .val (.ref ao), .val (.ref bt), .val (.ref bu), .unset] [(.int (1 : Int32))])
        refine own_st (fun _ k => XS.iconst X124.here hx rfl (hb hby at_185) k) ?_
        show own_Go p e s below _ _ _ T124 (mkF m 186 #[.val (.int p0), .val (.int p1), .val (.int p2), .val (.int p3), .val (.int p4), .val (.int p5), .val (.int (1 : Int32)), .val (.int (1 : Int32)), .val (.int x0), .val (.int x1), .val (.int x2), .val (.int y0), .val (.int y1), .val (.int y2), .val (.ref ar), .val (.ref ao), .val (.ref bt), .val (.ref bu), .unset] [(.int (2 : Int32)), (.int (1 : Int32))])
        refine own_st (fun _ k => XS.icmpYes X124.here hx rfl (pc0 := 186) (pc' := 196) rfl (hb hby at_186) rfl (by decide) (by decide) (by decide) k) ?_
        show own_Go p e s below _ _ _ T124 (mkF m 196 #[.val (.int p0), .val (.int p1), .val (.int p2), .val (.int p3), .val (.int p4), .val (.int p5), .val (.int (1 : Int32)), .val (.int (1 : Int32)), .val (.int x0), .val (.int x1), .val (.int x2), .val (.int y0), .val (.int y1), .val (.int y2), .val (.ref ar), .val (.ref ao), .val (.ref bt), .val (.ref bu), .unset] [])
        refine own_st (fun _ k => XS.iload X124.here hx rfl (hb hby at_196) rfl k) ?_
        show own_Go p e s below _ _ _ T124 (mkF m 198 #[.val (.int p0), .val (.int p1), .val (.int p2), .val (.int p3), .val (.int p4), .val (.int p5), .val (.int (1 : Int32)), .val (.int (1 : Int32)), .val (.int x0), .val (.int x1), .val (.int x2), .val (.int y0), .val (.int y1), .val (.int y2), .val (.ref ar), .val (.ref ao), .val (.ref bt), .val (.ref bu), .unset] [(.int (1 : Int32))])
        refine own_st (fun _ k => XS.iconst X124.here hx rfl (hb hby at_198) k) ?_
        show own_Go p e s below _ _ _ T124 (mkF m 199 #[.val (.int p0), .val (.int p1), .val (.int p2), .val (.int p3), .val (.int p4), .val (.int p5), .val (.int (1 : Int32)), .val (.int (1 : Int32)), .val (.int x0), .val (.int x1), .val (.int x2), .val (.int y0), .val (.int y1), .val (.int y2), .val (.ref ar), .val (.ref ao), .val (.ref bt), .val (.ref bu), .unset] [(.int (3 : Int32)), (.int (1 : Int32))])
        refine own_st (fun _ k => XS.icmpYes X124.here hx rfl (pc0 := 199) (pc' := 209) rfl (hb hby at_199) rfl (by decide) (by decide) (by decide) k) ?_
        show own_Go p e s below _ _ _ T124 (mkF m 209 #[.val (.int p0), .val (.int p1), .val (.int p2), .val (.int p3), .val (.int p4), .val (.int p5), .val (.int (1 : Int32)), .val (.int (1 : Int32)), .val (.int x0), .val (.int x1), .val (.int x2), .val (.int y0), .val (.int y1), .val (.int y2), .val (.ref ar), .val (.ref ao), .val (.ref bt), .val (.ref bu), .unset] [])
        refine own_st (fun _ k => XS.iconst X124.here hx rfl (hb hby at_209) k) ?_
        show own_Go p e s below _ _ _ T124 (mkF m 210 #[.val (.int p0), .val (.int p1), .val (.int p2), .val (.int p3), .val (.int p4), .val (.int p5), .val (.int (1 : Int32)), .val (.int (1 : Int32)), .val (.int x0), .val (.int x1), .val (.int x2), .val (.int y0), .val (.int y1), .val (.int y2), .val (.ref ar), .val (.ref ao), .val (.ref bt), .val (.ref bu), .unset] [(.int (1 : Int32))])
        refine own_st (fun _ k => XS.goto X124.here hx rfl (pc0 := 210) (pc' := 214) rfl (hb hby at_210) (by decide) (by decide) k) ?_
        show own_Go p e s below _ _ _ T124 (mkF m 214 #[.val (.int p0), .val (.int p1), .val (.int p2), .val (.int p3), .val (.int p4), .val (.int p5), .val (.int (1 : Int32)), .val (.int (1 : Int32)), .val (.int x0), .val (.int x1), .val (.int x2), .val (.int y0), .val (.int y1), .val (.int y2), .val (.ref ar), .val (.ref ao), .val (.ref bt), .val (.ref bu), .unset] [(.int (1 : Int32))])
        exact J214  _ (by rw [own_bt (P := (¬ y0 < x0)) (by simp [c180_127])])
    · refine own_st (fun _ k => XS.ifNo X0.here hx rfl (hb hby at_17) rfl ((if0 _ _).trans (feq c17_109).1) k) ?_
      show own_Go p e s below _ _ _ T0 (mkF m 20 #[.val (.int p0), .val (.int p1), .val (.int p2), .val (.int p3), .val (.int p4), .val (.int p5), .val (.int (1 : Int32)), .unset, .unset, .unset, .unset, .unset, .unset, .unset, .unset, .unset, .unset, .unset, .unset] [])
      refine own_st (fun _ k => XS.iconst X0.here hx rfl (hb hby at_20) k) ?_
      show own_Go p e s below _ _ _ T0 (mkF m 21 #[.val (.int p0), .val (.int p1), .val (.int p2), .val (.int p3), .val (.int p4), .val (.int p5), .val (.int (1 : Int32)), .unset, .unset, .unset, .unset, .unset, .unset, .unset, .unset, .unset, .unset, .unset, .unset] [(.int (3 : Int32))])
      refine own_st (fun _ k => XS.goto X0.here hx rfl (pc0 := 21) (pc' := 26) rfl (hb hby at_21) (by decide) (by decide) k) ?_
      show own_Go p e s below _ _ _ T0 (mkF m 26 #[.val (.int p0), .val (.int p1), .val (.int p2), .val (.int p3), .val (.int p4), .val (.int p5), .val (.int (1 : Int32)), .unset, .unset, .unset, .unset, .unset, .unset, .unset, .unset, .unset, .unset, .unset, .unset] [(.int (3 : Int32))])
      refine own_st (fun _ k => XS.istore X0.here hx rfl (hb hby at_26) rfl (l' := #[.val (.int p0), .val (.int p1), .val (.int p2), .val (.int p3), .val (.int p4), .val (.int p5), .val (.int (1 : Int32)), .val (.int (3 : Int32)), .unset, .unset, .unset, .unset, .unset, .unset, .unset, .unset, .unset, .unset, .unset]) rfl k) ?_
      show own_Go p e s below _ _ _ T0 (mkF m 28 #[.val (.int p0), .val (.int p1), .val (.int p2), .val (.int p3), .val (.int p4), .val (.int p5), .val (.int (1 : Int32)), .val (.int (3 : Int32)), .unset, .unset, .unset, .unset, .unset, .unset, .unset, .unset, .unset, .unset, .unset] [])
      refine own_st (fun _ k => XS.iloadN X0.here hx rfl (hb hby at_28) rfl k) ?_
      show own_Go p e s below _ _ _ T0 (mkF m 29 #[.val (.int p0), .val (.int p1), .val (.int p2), .val (.int p3), .val (.int p4), .val (.int p5), .val (.int (1 : Int32)), .val (.int (3 : Int32)), .unset, .unset, .unset, .unset, .unset, .unset, .unset, .unset, .unset, .unset, .unset] [(.int p0)])
      refine own_st (X0.ldcInt hx hown (mvT hZ (hw _ (List.mem_of_getElem? (i := 0) rfl))) (g := (mkF m 29 #[.val (.int p0), .val (.int p1), .val (.int p2), .val (.int p3), .val (.int p4), .val (.int p5), .val (.int (1 : Int32)), .val (.int (3 : Int32)), .unset, .unset, .unset, .unset, .unset, .unset, .unset, .unset, .unset, .unset, .unset] [(.int p0)])) rfl (hb hby at_29)) ?_
      show own_Go p e s below _ _ _ T0 (mkF m 31 #[.val (.int p0), .val (.int p1), .val (.int p2), .val (.int p3), .val (.int p4), .val (.int p5), .val (.int (1 : Int32)), .val (.int (3 : Int32)), .unset, .unset, .unset, .unset, .unset, .unset, .unset, .unset, .unset, .unset, .unset] [(.int (2147483647 : Int32)), (.int p0)])
      refine own_st (fun _ k => XS.iand X0.here hx rfl (hb hby at_31) rfl k) ?_
      show own_Go p e s below _ _ _ T0 (mkF m 32 #[.val (.int p0), .val (.int p1), .val (.int p2), .val (.int p3), .val (.int p4), .val (.int p5), .val (.int (1 : Int32)), .val (.int (3 : Int32)), .unset, .unset, .unset, .unset, .unset, .unset, .unset, .unset, .unset, .unset, .unset] [(.int (p0 &&& (2147483647 : Int32)))])
      refine own_st (fun _ k => XS.istore X0.here hx rfl (hb hby at_32) rfl (l' := #[.val (.int p0), .val (.int p1), .val (.int p2), .val (.int p3), .val (.int p4), .val (.int p5), .val (.int (1 : Int32)), .val (.int (3 : Int32)), .val (.int (p0 &&& (2147483647 : Int32))), .unset, .unset, .unset, .unset, .unset, .unset, .unset, .unset, .unset, .unset]) rfl k) ?_
      show own_Go p e s below _ _ _ T0 (mkF m 34 #[.val (.int p0), .val (.int p1), .val (.int p2), .val (.int p3), .val (.int p4), .val (.int p5), .val (.int (1 : Int32)), .val (.int (3 : Int32)), .val (.int (p0 &&& (2147483647 : Int32))), .unset, .unset, .unset, .unset, .unset, .unset, .unset, .unset, .unset, .unset] [])
      refine own_st (fun _ k => XS.iloadN X0.here hx rfl (hb hby at_34) rfl k) ?_
      show own_Go p e s below _ _ _ T0 (mkF m 35 #[.val (.int p0), .val (.int p1), .val (.int p2), .val (.int p3), .val (.int p4), .val (.int p5), .val (.int (1 : Int32)), .val (.int (3 : Int32)), .val (.int (p0 &&& (2147483647 : Int32))), .unset, .unset, .unset, .unset, .unset, .unset, .unset, .unset, .unset, .unset] [(.int p1)])
      refine own_st (X0.ldcInt hx hown (mvT hZ (hw _ (List.mem_of_getElem? (i := 0) rfl))) (g := (mkF m 35 #[.val (.int p0), .val (.int p1), .val (.int p2), .val (.int p3), .val (.int p4), .val (.int p5), .val (.int (1 : Int32)), .val (.int (3 : Int32)), .val (.int (p0 &&& (2147483647 : Int32))), .unset, .unset, .unset, .unset, .unset, .unset, .unset, .unset, .unset, .unset] [(.int p1)])) rfl (hb hby at_35)) ?_
      show own_Go p e s below _ _ _ T0 (mkF m 37 #[.val (.int p0), .val (.int p1), .val (.int p2), .val (.int p3), .val (.int p4), .val (.int p5), .val (.int (1 : Int32)), .val (.int (3 : Int32)), .val (.int (p0 &&& (2147483647 : Int32))), .unset, .unset, .unset, .unset, .unset, .unset, .unset, .unset, .unset, .unset] [(.int (2147483647 : Int32)), (.int p1)])
      refine own_st (fun _ k => XS.iand X0.here hx rfl (hb hby at_37) rfl k) ?_
      show own_Go p e s below _ _ _ T0 (mkF m 38 #[.val (.int p0), .val (.int p1), .val (.int p2), .val (.int p3), .val (.int p4), .val (.int p5), .val (.int (1 : Int32)), .val (.int (3 : Int32)), .val (.int (p0 &&& (2147483647 : Int32))), .unset, .unset, .unset, .unset, .unset, .unset, .unset, .unset, .unset, .unset] [(.int (p1 &&& (2147483647 : Int32)))])
      refine own_st (fun _ k => XS.istore X0.here hx rfl (hb hby at_38) rfl (l' := #[.val (.int p0), .val (.int p1), .val (.int p2), .val (.int p3), .val (.int p4), .val (.int p5), .val (.int (1 : Int32)), .val (.int (3 : Int32)), .val (.int (p0 &&& (2147483647 : Int32))), .val (.int (p1 &&& (2147483647 : Int32))), .unset, .unset, .unset, .unset, .unset, .unset, .unset, .unset, .unset]) rfl k) ?_
      show own_Go p e s below _ _ _ T0 (mkF m 40 #[.val (.int p0), .val (.int p1), .val (.int p2), .val (.int p3), .val (.int p4), .val (.int p5), .val (.int (1 : Int32)), .val (.int (3 : Int32)), .val (.int (p0 &&& (2147483647 : Int32))), .val (.int (p1 &&& (2147483647 : Int32))), .unset, .unset, .unset, .unset, .unset, .unset, .unset, .unset, .unset] [])
      refine own_st (fun _ k => XS.iloadN X0.here hx rfl (hb hby at_40) rfl k) ?_
      show own_Go p e s below _ _ _ T0 (mkF m 41 #[.val (.int p0), .val (.int p1), .val (.int p2), .val (.int p3), .val (.int p4), .val (.int p5), .val (.int (1 : Int32)), .val (.int (3 : Int32)), .val (.int (p0 &&& (2147483647 : Int32))), .val (.int (p1 &&& (2147483647 : Int32))), .unset, .unset, .unset, .unset, .unset, .unset, .unset, .unset, .unset] [(.int p2)])
      refine own_st (X0.ldcInt hx hown (mvT hZ (hw _ (List.mem_of_getElem? (i := 0) rfl))) (g := (mkF m 41 #[.val (.int p0), .val (.int p1), .val (.int p2), .val (.int p3), .val (.int p4), .val (.int p5), .val (.int (1 : Int32)), .val (.int (3 : Int32)), .val (.int (p0 &&& (2147483647 : Int32))), .val (.int (p1 &&& (2147483647 : Int32))), .unset, .unset, .unset, .unset, .unset, .unset, .unset, .unset, .unset] [(.int p2)])) rfl (hb hby at_41)) ?_
      show own_Go p e s below _ _ _ T0 (mkF m 43 #[.val (.int p0), .val (.int p1), .val (.int p2), .val (.int p3), .val (.int p4), .val (.int p5), .val (.int (1 : Int32)), .val (.int (3 : Int32)), .val (.int (p0 &&& (2147483647 : Int32))), .val (.int (p1 &&& (2147483647 : Int32))), .unset, .unset, .unset, .unset, .unset, .unset, .unset, .unset, .unset] [(.int (2147483647 : Int32)), (.int p2)])
      refine own_st (fun _ k => XS.iand X0.here hx rfl (hb hby at_43) rfl k) ?_
      show own_Go p e s below _ _ _ T0 (mkF m 44 #[.val (.int p0), .val (.int p1), .val (.int p2), .val (.int p3), .val (.int p4), .val (.int p5), .val (.int (1 : Int32)), .val (.int (3 : Int32)), .val (.int (p0 &&& (2147483647 : Int32))), .val (.int (p1 &&& (2147483647 : Int32))), .unset, .unset, .unset, .unset, .unset, .unset, .unset, .unset, .unset] [(.int (p2 &&& (2147483647 : Int32)))])
      refine own_st (fun _ k => XS.istore X0.here hx rfl (hb hby at_44) rfl (l' := #[.val (.int p0), .val (.int p1), .val (.int p2), .val (.int p3), .val (.int p4), .val (.int p5), .val (.int (1 : Int32)), .val (.int (3 : Int32)), .val (.int (p0 &&& (2147483647 : Int32))), .val (.int (p1 &&& (2147483647 : Int32))), .val (.int (p2 &&& (2147483647 : Int32))), .unset, .unset, .unset, .unset, .unset, .unset, .unset, .unset]) rfl k) ?_
      show own_Go p e s below _ _ _ T0 (mkF m 46 #[.val (.int p0), .val (.int p1), .val (.int p2), .val (.int p3), .val (.int p4), .val (.int p5), .val (.int (1 : Int32)), .val (.int (3 : Int32)), .val (.int (p0 &&& (2147483647 : Int32))), .val (.int (p1 &&& (2147483647 : Int32))), .val (.int (p2 &&& (2147483647 : Int32))), .unset, .unset, .unset, .unset, .unset, .unset, .unset, .unset] [])
      refine own_st (fun _ k => XS.iloadN X0.here hx rfl (hb hby at_46) rfl k) ?_
      show own_Go p e s below _ _ _ T0 (mkF m 47 #[.val (.int p0), .val (.int p1), .val (.int p2), .val (.int p3), .val (.int p4), .val (.int p5), .val (.int (1 : Int32)), .val (.int (3 : Int32)), .val (.int (p0 &&& (2147483647 : Int32))), .val (.int (p1 &&& (2147483647 : Int32))), .val (.int (p2 &&& (2147483647 : Int32))), .unset, .unset, .unset, .unset, .unset, .unset, .unset, .unset] [(.int p3)])
      refine own_st (X0.ldcInt hx hown (mvT hZ (hw _ (List.mem_of_getElem? (i := 0) rfl))) (g := (mkF m 47 #[.val (.int p0), .val (.int p1), .val (.int p2), .val (.int p3), .val (.int p4), .val (.int p5), .val (.int (1 : Int32)), .val (.int (3 : Int32)), .val (.int (p0 &&& (2147483647 : Int32))), .val (.int (p1 &&& (2147483647 : Int32))), .val (.int (p2 &&& (2147483647 : Int32))), .unset, .unset, .unset, .unset, .unset, .unset, .unset, .unset] [(.int p3)])) rfl (hb hby at_47)) ?_
      show own_Go p e s below _ _ _ T0 (mkF m 49 #[.val (.int p0), .val (.int p1), .val (.int p2), .val (.int p3), .val (.int p4), .val (.int p5), .val (.int (1 : Int32)), .val (.int (3 : Int32)), .val (.int (p0 &&& (2147483647 : Int32))), .val (.int (p1 &&& (2147483647 : Int32))), .val (.int (p2 &&& (2147483647 : Int32))), .unset, .unset, .unset, .unset, .unset, .unset, .unset, .unset] [(.int (2147483647 : Int32)), (.int p3)])
      refine own_st (fun _ k => XS.iand X0.here hx rfl (hb hby at_49) rfl k) ?_
      show own_Go p e s below _ _ _ T0 (mkF m 50 #[.val (.int p0), .val (.int p1), .val (.int p2), .val (.int p3), .val (.int p4), .val (.int p5), .val (.int (1 : Int32)), .val (.int (3 : Int32)), .val (.int (p0 &&& (2147483647 : Int32))), .val (.int (p1 &&& (2147483647 : Int32))), .val (.int (p2 &&& (2147483647 : Int32))), .unset, .unset, .unset, .unset, .unset, .unset, .unset, .unset] [(.int (p3 &&& (2147483647 : Int32)))])
      refine own_st (fun _ k => XS.istore X0.here hx rfl (hb hby at_50) rfl (l' := #[.val (.int p0), .val (.int p1), .val (.int p2), .val (.int p3), .val (.int p4), .val (.int p5), .val (.int (1 : Int32)), .val (.int (3 : Int32)), .val (.int (p0 &&& (2147483647 : Int32))), .val (.int (p1 &&& (2147483647 : Int32))), .val (.int (p2 &&& (2147483647 : Int32))), .val (.int (p3 &&& (2147483647 : Int32))), .unset, .unset, .unset, .unset, .unset, .unset, .unset]) rfl k) ?_
      show own_Go p e s below _ _ _ T0 (mkF m 52 #[.val (.int p0), .val (.int p1), .val (.int p2), .val (.int p3), .val (.int p4), .val (.int p5), .val (.int (1 : Int32)), .val (.int (3 : Int32)), .val (.int (p0 &&& (2147483647 : Int32))), .val (.int (p1 &&& (2147483647 : Int32))), .val (.int (p2 &&& (2147483647 : Int32))), .val (.int (p3 &&& (2147483647 : Int32))), .unset, .unset, .unset, .unset, .unset, .unset, .unset] [])
      refine own_st (fun _ k => XS.iload X0.here hx rfl (hb hby at_52) rfl k) ?_
      show own_Go p e s below _ _ _ T0 (mkF m 54 #[.val (.int p0), .val (.int p1), .val (.int p2), .val (.int p3), .val (.int p4), .val (.int p5), .val (.int (1 : Int32)), .val (.int (3 : Int32)), .val (.int (p0 &&& (2147483647 : Int32))), .val (.int (p1 &&& (2147483647 : Int32))), .val (.int (p2 &&& (2147483647 : Int32))), .val (.int (p3 &&& (2147483647 : Int32))), .unset, .unset, .unset, .unset, .unset, .unset, .unset] [(.int p4)])
      refine own_st (X0.ldcInt hx hown (mvT hZ (hw _ (List.mem_of_getElem? (i := 0) rfl))) (g := (mkF m 54 #[.val (.int p0), .val (.int p1), .val (.int p2), .val (.int p3), .val (.int p4), .val (.int p5), .val (.int (1 : Int32)), .val (.int (3 : Int32)), .val (.int (p0 &&& (2147483647 : Int32))), .val (.int (p1 &&& (2147483647 : Int32))), .val (.int (p2 &&& (2147483647 : Int32))), .val (.int (p3 &&& (2147483647 : Int32))), .unset, .unset, .unset, .unset, .unset, .unset, .unset] [(.int p4)])) rfl (hb hby at_54)) ?_
      show own_Go p e s below _ _ _ T0 (mkF m 56 #[.val (.int p0), .val (.int p1), .val (.int p2), .val (.int p3), .val (.int p4), .val (.int p5), .val (.int (1 : Int32)), .val (.int (3 : Int32)), .val (.int (p0 &&& (2147483647 : Int32))), .val (.int (p1 &&& (2147483647 : Int32))), .val (.int (p2 &&& (2147483647 : Int32))), .val (.int (p3 &&& (2147483647 : Int32))), .unset, .unset, .unset, .unset, .unset, .unset, .unset] [(.int (2147483647 : Int32)), (.int p4)])
      refine own_st (fun _ k => XS.iand X0.here hx rfl (hb hby at_56) rfl k) ?_
      show own_Go p e s below _ _ _ T0 (mkF m 57 #[.val (.int p0), .val (.int p1), .val (.int p2), .val (.int p3), .val (.int p4), .val (.int p5), .val (.int (1 : Int32)), .val (.int (3 : Int32)), .val (.int (p0 &&& (2147483647 : Int32))), .val (.int (p1 &&& (2147483647 : Int32))), .val (.int (p2 &&& (2147483647 : Int32))), .val (.int (p3 &&& (2147483647 : Int32))), .unset, .unset, .unset, .unset, .unset, .unset, .unset] [(.int (p4 &&& (2147483647 : Int32)))])
      refine own_st (fun _ k => XS.istore X0.here hx rfl (hb hby at_57) rfl (l' := #[.val (.int p0), .val (.int p1), .val (.int p2), .val (.int p3), .val (.int p4), .val (.int p5), .val (.int (1 : Int32)), .val (.int (3 : Int32)), .val (.int (p0 &&& (2147483647 : Int32))), .val (.int (p1 &&& (2147483647 : Int32))), .val (.int (p2 &&& (2147483647 : Int32))), .val (.int (p3 &&& (2147483647 : Int32))), .val (.int (p4 &&& (2147483647 : Int32))), .unset, .unset, .unset, .unset, .unset, .unset]) rfl k) ?_
      show own_Go p e s below _ _ _ T0 (mkF m 59 #[.val (.int p0), .val (.int p1), .val (.int p2), .val (.int p3), .val (.int p4), .val (.int p5), .val (.int (1 : Int32)), .val (.int (3 : Int32)), .val (.int (p0 &&& (2147483647 : Int32))), .val (.int (p1 &&& (2147483647 : Int32))), .val (.int (p2 &&& (2147483647 : Int32))), .val (.int (p3 &&& (2147483647 : Int32))), .val (.int (p4 &&& (2147483647 : Int32))), .unset, .unset, .unset, .unset, .unset, .unset] [])
      refine own_st (fun _ k => XS.iload X0.here hx rfl (hb hby at_59) rfl k) ?_
      show own_Go p e s below _ _ _ T0 (mkF m 61 #[.val (.int p0), .val (.int p1), .val (.int p2), .val (.int p3), .val (.int p4), .val (.int p5), .val (.int (1 : Int32)), .val (.int (3 : Int32)), .val (.int (p0 &&& (2147483647 : Int32))), .val (.int (p1 &&& (2147483647 : Int32))), .val (.int (p2 &&& (2147483647 : Int32))), .val (.int (p3 &&& (2147483647 : Int32))), .val (.int (p4 &&& (2147483647 : Int32))), .unset, .unset, .unset, .unset, .unset, .unset] [(.int p5)])
      refine own_st (X0.ldcInt hx hown (mvT hZ (hw _ (List.mem_of_getElem? (i := 0) rfl))) (g := (mkF m 61 #[.val (.int p0), .val (.int p1), .val (.int p2), .val (.int p3), .val (.int p4), .val (.int p5), .val (.int (1 : Int32)), .val (.int (3 : Int32)), .val (.int (p0 &&& (2147483647 : Int32))), .val (.int (p1 &&& (2147483647 : Int32))), .val (.int (p2 &&& (2147483647 : Int32))), .val (.int (p3 &&& (2147483647 : Int32))), .val (.int (p4 &&& (2147483647 : Int32))), .unset, .unset, .unset, .unset, .unset, .unset] [(.int p5)])) rfl (hb hby at_61)) ?_
      show own_Go p e s below _ _ _ T0 (mkF m 63 #[.val (.int p0), .val (.int p1), .val (.int p2), .val (.int p3), .val (.int p4), .val (.int p5), .val (.int (1 : Int32)), .val (.int (3 : Int32)), .val (.int (p0 &&& (2147483647 : Int32))), .val (.int (p1 &&& (2147483647 : Int32))), .val (.int (p2 &&& (2147483647 : Int32))), .val (.int (p3 &&& (2147483647 : Int32))), .val (.int (p4 &&& (2147483647 : Int32))), .unset, .unset, .unset, .unset, .unset, .unset] [(.int (2147483647 : Int32)), (.int p5)])
      refine own_st (fun _ k => XS.iand X0.here hx rfl (hb hby at_63) rfl k) ?_
      show own_Go p e s below _ _ _ T0 (mkF m 64 #[.val (.int p0), .val (.int p1), .val (.int p2), .val (.int p3), .val (.int p4), .val (.int p5), .val (.int (1 : Int32)), .val (.int (3 : Int32)), .val (.int (p0 &&& (2147483647 : Int32))), .val (.int (p1 &&& (2147483647 : Int32))), .val (.int (p2 &&& (2147483647 : Int32))), .val (.int (p3 &&& (2147483647 : Int32))), .val (.int (p4 &&& (2147483647 : Int32))), .unset, .unset, .unset, .unset, .unset, .unset] [(.int (p5 &&& (2147483647 : Int32)))])
      refine own_st (fun _ k => XS.istore X0.here hx rfl (hb hby at_64) rfl (l' := #[.val (.int p0), .val (.int p1), .val (.int p2), .val (.int p3), .val (.int p4), .val (.int p5), .val (.int (1 : Int32)), .val (.int (3 : Int32)), .val (.int (p0 &&& (2147483647 : Int32))), .val (.int (p1 &&& (2147483647 : Int32))), .val (.int (p2 &&& (2147483647 : Int32))), .val (.int (p3 &&& (2147483647 : Int32))), .val (.int (p4 &&& (2147483647 : Int32))), .val (.int (p5 &&& (2147483647 : Int32))), .unset, .unset, .unset, .unset, .unset]) rfl k) ?_
      show own_Go p e s below _ _ _ T0 (mkF m 66 #[.val (.int p0), .val (.int p1), .val (.int p2), .val (.int p3), .val (.int p4), .val (.int p5), .val (.int (1 : Int32)), .val (.int (3 : Int32)), .val (.int (p0 &&& (2147483647 : Int32))), .val (.int (p1 &&& (2147483647 : Int32))), .val (.int (p2 &&& (2147483647 : Int32))), .val (.int (p3 &&& (2147483647 : Int32))), .val (.int (p4 &&& (2147483647 : Int32))), .val (.int (p5 &&& (2147483647 : Int32))), .unset, .unset, .unset, .unset, .unset] [])
      obtain ⟨x0, qx0⟩ : ∃ z, z = (p0 &&& (2147483647 : Int32)) := ⟨_, rfl⟩
      rw [← qx0]
      have nx0 : ¬ x0 < 0 := qx0 ▸ own_nn _
      obtain ⟨x1, qx1⟩ : ∃ z, z = (p1 &&& (2147483647 : Int32)) := ⟨_, rfl⟩
      rw [← qx1]
      have nx1 : ¬ x1 < 0 := qx1 ▸ own_nn _
      obtain ⟨x2, qx2⟩ : ∃ z, z = (p2 &&& (2147483647 : Int32)) := ⟨_, rfl⟩
      rw [← qx2]
      have nx2 : ¬ x2 < 0 := qx2 ▸ own_nn _
      obtain ⟨y0, qy0⟩ : ∃ z, z = (p3 &&& (2147483647 : Int32)) := ⟨_, rfl⟩
      rw [← qy0]
      have ny0 : ¬ y0 < 0 := qy0 ▸ own_nn _
      obtain ⟨y1, qy1⟩ : ∃ z, z = (p4 &&& (2147483647 : Int32)) := ⟨_, rfl⟩
      rw [← qy1]
      have ny1 : ¬ y1 < 0 := qy1 ▸ own_nn _
      obtain ⟨y2, qy2⟩ : ∃ z, z = (p5 &&& (2147483647 : Int32)) := ⟨_, rfl⟩
      rw [← qy2]
      have ny2 : ¬ y2 < 0 := qy2 ▸ own_nn _
      show own_Go p e s below _ _ _ T0 (mkF m 66 #[.val (.int p0), .val (.int p1), .val (.int p2), .val (.int p3), .val (.int p4), .val (.int p5), .val (.int (1 : Int32)), .val (.int (3 : Int32)), .val (.int x0), .val (.int x1), .val (.int x2), .val (.int y0), .val (.int y1), .val (.int y2), .unset, .unset, .unset, .unset, .unset] [])
      refine own_st (fun _ k => XS.iload X0.here hx rfl (hb hby at_66) rfl k) ?_
      show own_Go p e s below _ _ _ T0 (mkF m 68 #[.val (.int p0), .val (.int p1), .val (.int p2), .val (.int p3), .val (.int p4), .val (.int p5), .val (.int (1 : Int32)), .val (.int (3 : Int32)), .val (.int x0), .val (.int x1), .val (.int x2), .val (.int y0), .val (.int y1), .val (.int y2), .unset, .unset, .unset, .unset, .unset] [(.int (1 : Int32))])
      obtain ⟨T128, h128, k128, X128, e128, E128, A128, Ex128, st128⟩ := newPE X0 hx hZ (hw _ (List.mem_of_getElem? (i := 1) rfl)) e0 (g := (mkF m 68 #[.val (.int p0), .val (.int p1), .val (.int p2), .val (.int p3), .val (.int p4), .val (.int p5), .val (.int (1 : Int32)), .val (.int (3 : Int32)), .val (.int x0), .val (.int x1), .val (.int x2), .val (.int y0), .val (.int y1), .val (.int y2), .unset, .unset, .unset, .unset, .unset] [(.int (1 : Int32))])) rfl (hb hby at_68) rfl (by decide) (cap := 1) (by decide) (by decide) (by decide) (by decide) (ad := "[I") (by decide)
      obtain ⟨ar, g128⟩ : ∃ z, z = h0.size := ⟨_, rfl⟩
      rw [← g128] at A128 Ex128 st128
      have g_ar : n0 ≤ ar := Nat.le_trans Z0 (Nat.le_of_eq g128.symm)
      have Z129 := Nat.le_trans Z0 E128.1
      have V_ar : Arv Z h128 ar k128 .int (1 : Int32) [(.int (0 : Int32))] (.int (0 : Int32)) := (Arv.new A128 (by decide)).pad (pad_rep [] (.int (0 : Int32)) 1)
      have E_ar := Ex128
      refine own_st st128 ?_
      show own_Go p e s below _ _ _ T128 (mkF m 70 #[.val (.int p0), .val (.int p1), .val (.int p2), .val (.int p3), .val (.int p4), .val (.int p5), .val (.int (1 : Int32)), .val (.int (3 : Int32)), .val (.int x0), .val (.int x1), .val (.int x2), .val (.int y0), .val (.int y1), .val (.int y2), .unset, .unset, .unset, .unset, .unset] [(.ref ar)])
      refine own_st (fun _ k => XS.astore X128.here hx rfl (hb hby at_70) rfl rfl (l' := #[.val (.int p0), .val (.int p1), .val (.int p2), .val (.int p3), .val (.int p4), .val (.int p5), .val (.int (1 : Int32)), .val (.int (3 : Int32)), .val (.int x0), .val (.int x1), .val (.int x2), .val (.int y0), .val (.int y1), .val (.int y2), .val (.ref ar), .unset, .unset, .unset, .unset]) rfl k) ?_
      show own_Go p e s below _ _ _ T128 (mkF m 72 #[.val (.int p0), .val (.int p1), .val (.int p2), .val (.int p3), .val (.int p4), .val (.int p5), .val (.int (1 : Int32)), .val (.int (3 : Int32)), .val (.int x0), .val (.int x1), .val (.int x2), .val (.int y0), .val (.int y1), .val (.int y2), .val (.ref ar), .unset, .unset, .unset, .unset] [])
      refine own_st (fun _ k => XS.iload X128.here hx rfl (hb hby at_72) rfl k) ?_
      show own_Go p e s below _ _ _ T128 (mkF m 74 #[.val (.int p0), .val (.int p1), .val (.int p2), .val (.int p3), .val (.int p4), .val (.int p5), .val (.int (1 : Int32)), .val (.int (3 : Int32)), .val (.int x0), .val (.int x1), .val (.int x2), .val (.int y0), .val (.int y1), .val (.int y2), .val (.ref ar), .unset, .unset, .unset, .unset] [(.int (1 : Int32))])
      refine own_st (fun _ k => XS.ifNo X128.here hx rfl (hb hby at_74) rfl (by decide) k) ?_
      show own_Go p e s below _ _ _ T128 (mkF m 77 #[.val (.int p0), .val (.int p1), .val (.int p2), .val (.int p3), .val (.int p4), .val (.int p5), .val (.int (1 : Int32)), .val (.int (3 : Int32)), .val (.int x0), .val (.int x1), .val (.int x2), .val (.int y0), .val (.int y1), .val (.int y2), .val (.ref ar), .unset, .unset, .unset, .unset] [])
      refine own_st (fun _ k => XS.aload X128.here hx rfl (hb hby at_77) rfl rfl k) ?_
      show own_Go p e s below _ _ _ T128 (mkF m 79 #[.val (.int p0), .val (.int p1), .val (.int p2), .val (.int p3), .val (.int p4), .val (.int p5), .val (.int (1 : Int32)), .val (.int (3 : Int32)), .val (.int x0), .val (.int x1), .val (.int x2), .val (.int y0), .val (.int y1), .val (.int y2), .val (.ref ar), .unset, .unset, .unset, .unset] [(.ref ar)])
      refine own_st (fun _ k => XS.iconst X128.here hx rfl (hb hby at_79) k) ?_
      show own_Go p e s below _ _ _ T128 (mkF m 80 #[.val (.int p0), .val (.int p1), .val (.int p2), .val (.int p3), .val (.int p4), .val (.int p5), .val (.int (1 : Int32)), .val (.int (3 : Int32)), .val (.int x0), .val (.int x1), .val (.int x2), .val (.int y0), .val (.int y1), .val (.int y2), .val (.ref ar), .unset, .unset, .unset, .unset] [(.int (0 : Int32)), (.ref ar)])
      refine own_st (fun _ k => XS.iload X128.here hx rfl (hb hby at_80) rfl k) ?_
      show own_Go p e s below _ _ _ T128 (mkF m 82 #[.val (.int p0), .val (.int p1), .val (.int p2), .val (.int p3), .val (.int p4), .val (.int p5), .val (.int (1 : Int32)), .val (.int (3 : Int32)), .val (.int x0), .val (.int x1), .val (.int x2), .val (.int y0), .val (.int y1), .val (.int y2), .val (.ref ar), .unset, .unset, .unset, .unset] [(.int x0), (.int (0 : Int32)), (.ref ar)])
      obtain ⟨T130, h130, X130, e130, W130, V130, st130⟩ := own_stI X128 hx hZ e128 V_ar (j := (0 : Int32)) ⟨by decide, by decide⟩ (Nat.le_of_ble_eq_true rfl) (g := (mkF m 82 #[.val (.int p0), .val (.int p1), .val (.int p2), .val (.int p3), .val (.int p4), .val (.int p5), .val (.int (1 : Int32)), .val (.int (3 : Int32)), .val (.int x0), .val (.int x1), .val (.int x2), .val (.int y0), .val (.int y1), .val (.int y2), .val (.ref ar), .unset, .unset, .unset, .unset] [(.int x0), (.int (0 : Int32)), (.ref ar)])) rfl rfl (hb hby at_82)
      clear V_ar
      have V_ar : Arv Z h130 ar k128 .int (1 : Int32) [(.int x0)] (.int (0 : Int32)) := V130
      replace E_ar := E_ar.wr W130
      have Z131 := Nat.le_trans Z129 (Keep.of_wr W130).1
      have N130 := Fr.snoc X130 N0 g_ar
      refine own_st st130 ?_
      show own_Go p e s below _ _ _ T130 (mkF m 83 #[.val (.int p0), .val (.int p1), .val (.int p2), .val (.int p3), .val (.int p4), .val (.int p5), .val (.int (1 : Int32)), .val (.int (3 : Int32)), .val (.int x0), .val (.int x1), .val (.int x2), .val (.int y0), .val (.int y1), .val (.int y2), .val (.ref ar), .unset, .unset, .unset, .unset] [])
      refine own_st (fun _ k => XS.iload X130.here hx rfl (hb hby at_83) rfl k) ?_
      show own_Go p e s below _ _ _ T130 (mkF m 85 #[.val (.int p0), .val (.int p1), .val (.int p2), .val (.int p3), .val (.int p4), .val (.int p5), .val (.int (1 : Int32)), .val (.int (3 : Int32)), .val (.int x0), .val (.int x1), .val (.int x2), .val (.int y0), .val (.int y1), .val (.int y2), .val (.ref ar), .unset, .unset, .unset, .unset] [(.int (1 : Int32))])
      refine own_st (fun _ k => XS.iconst X130.here hx rfl (hb hby at_85) k) ?_
      show own_Go p e s below _ _ _ T130 (mkF m 86 #[.val (.int p0), .val (.int p1), .val (.int p2), .val (.int p3), .val (.int p4), .val (.int p5), .val (.int (1 : Int32)), .val (.int (3 : Int32)), .val (.int x0), .val (.int x1), .val (.int x2), .val (.int y0), .val (.int y1), .val (.int y2), .val (.ref ar), .unset, .unset, .unset, .unset] [(.int (1 : Int32)), (.int (1 : Int32))])
      refine own_st (fun _ k => XS.icmpYes X130.here hx rfl (pc0 := 86) (pc' := 95) rfl (hb hby at_86) rfl (by decide) (by decide) (by decide) k) ?_
      show own_Go p e s below _ _ _ T130 (mkF m 95 #[.val (.int p0), .val (.int p1), .val (.int p2), .val (.int p3), .val (.int p4), .val (.int p5), .val (.int (1 : Int32)), .val (.int (3 : Int32)), .val (.int x0), .val (.int x1), .val (.int x2), .val (.int y0), .val (.int y1), .val (.int y2), .val (.ref ar), .unset, .unset, .unset, .unset] [])
      refine own_st (fun _ k => XS.iload X130.here hx rfl (hb hby at_95) rfl k) ?_
      show own_Go p e s below _ _ _ T130 (mkF m 97 #[.val (.int p0), .val (.int p1), .val (.int p2), .val (.int p3), .val (.int p4), .val (.int p5), .val (.int (1 : Int32)), .val (.int (3 : Int32)), .val (.int x0), .val (.int x1), .val (.int x2), .val (.int y0), .val (.int y1), .val (.int y2), .val (.ref ar), .unset, .unset, .unset, .unset] [(.int (1 : Int32))])
      refine own_st (fun _ k => XS.iconst X130.here hx rfl (hb hby at_97) k) ?_
      show own_Go p e s below _ _ _ T130 (mkF m 98 #[.val (.int p0), .val (.int p1), .val (.int p2), .val (.int p3), .val (.int p4), .val (.int p5), .val (.int (1 : Int32)), .val (.int (3 : Int32)), .val (.int x0), .val (.int x1), .val (.int x2), .val (.int y0), .val (.int y1), .val (.int y2), .val (.ref ar), .unset, .unset, .unset, .unset] [(.int (2 : Int32)), (.int (1 : Int32))])
      refine own_st (fun _ k => XS.icmpYes X130.here hx rfl (pc0 := 98) (pc' := 107) rfl (hb hby at_98) rfl (by decide) (by decide) (by decide) k) ?_
      show own_Go p e s below _ _ _ T130 (mkF m 107 #[.val (.int p0), .val (.int p1), .val (.int p2), .val (.int p3), .val (.int p4), .val (.int p5), .val (.int (1 : Int32)), .val (.int (3 : Int32)), .val (.int x0), .val (.int x1), .val (.int x2), .val (.int y0), .val (.int y1), .val (.int y2), .val (.ref ar), .unset, .unset, .unset, .unset] [])
      refine own_st (fun _ k => XS.iload X130.here hx rfl (hb hby at_107) rfl k) ?_
      show own_Go p e s below _ _ _ T130 (mkF m 109 #[.val (.int p0), .val (.int p1), .val (.int p2), .val (.int p3), .val (.int p4), .val (.int p5), .val (.int (1 : Int32)), .val (.int (3 : Int32)), .val (.int x0), .val (.int x1), .val (.int x2), .val (.int y0), .val (.int y1), .val (.int y2), .val (.ref ar), .unset, .unset, .unset, .unset] [(.int (3 : Int32))])
      obtain ⟨T132, h132, k132, X132, e132, E132, A132, Ex132, st132⟩ := newPE X130 hx hZ (hw _ (List.mem_of_getElem? (i := 1) rfl)) e130 (g := (mkF m 109 #[.val (.int p0), .val (.int p1), .val (.int p2), .val (.int p3), .val (.int p4), .val (.int p5), .val (.int (1 : Int32)), .val (.int (3 : Int32)), .val (.int x0), .val (.int x1), .val (.int x2), .val (.int y0), .val (.int y1), .val (.int y2), .val (.ref ar), .unset, .unset, .unset, .unset] [(.int (3 : Int32))])) rfl (hb hby at_109) rfl (by decide) (cap := 3) (by decide) (by decide) (by decide) (by decide) (ad := "[I") (by decide)
      obtain ⟨ao, g132⟩ : ∃ z, z = h130.size := ⟨_, rfl⟩
      rw [← g132] at A132 Ex132 st132
      have g_ao : n0 ≤ ao := Nat.le_trans Z131 (Nat.le_of_eq g132.symm)
      have ne_ar_ao : ar ≠ ao := Nat.ne_of_lt (Nat.lt_of_lt_of_le E_ar.lt (Nat.le_of_eq g132.symm))
      have ne_ao_ar := Ne.symm ne_ar_ao
      replace E_ar := E_ar.ext E132
      replace V_ar := V_ar.ext E132
      have Z133 := Nat.le_trans Z131 E132.1
      have V_ao : Arv Z h132 ao k132 .int (3 : Int32) [(.int (0 : Int32)), (.int (0 : Int32)), (.int (0 : Int32))] (.int (0 : Int32)) := (Arv.new A132 (by decide)).pad (pad_rep [] (.int (0 : Int32)) 3)
      have E_ao := Ex132
      refine own_st st132 ?_
      show own_Go p e s below _ _ _ T132 (mkF m 111 #[.val (.int p0), .val (.int p1), .val (.int p2), .val (.int p3), .val (.int p4), .val (.int p5), .val (.int (1 : Int32)), .val (.int (3 : Int32)), .val (.int x0), .val (.int x1), .val (.int x2), .val (.int y0), .val (.int y1), .val (.int y2), .val (.ref ar), .unset, .unset, .unset, .unset] [(.ref ao)])
      refine own_st (fun _ k => XS.astore X132.here hx rfl (hb hby at_111) rfl rfl (l' := #[.val (.int p0), .val (.int p1), .val (.int p2), .val (.int p3), .val (.int p4), .val (.int p5), .val (.int (1 : Int32)), .val (.int (3 : Int32)), .val (.int x0), .val (.int x1), .val (.int x2), .val (.int y0), .val (.int y1), .val (.int y2), .val (.ref ar), .val (.ref ao), .unset, .unset, .unset]) rfl k) ?_
      show own_Go p e s below _ _ _ T132 (mkF m 113 #[.val (.int p0), .val (.int p1), .val (.int p2), .val (.int p3), .val (.int p4), .val (.int p5), .val (.int (1 : Int32)), .val (.int (3 : Int32)), .val (.int x0), .val (.int x1), .val (.int x2), .val (.int y0), .val (.int y1), .val (.int y2), .val (.ref ar), .val (.ref ao), .unset, .unset, .unset] [])
      refine own_st (fun _ k => XS.iload X132.here hx rfl (hb hby at_113) rfl k) ?_
      show own_Go p e s below _ _ _ T132 (mkF m 115 #[.val (.int p0), .val (.int p1), .val (.int p2), .val (.int p3), .val (.int p4), .val (.int p5), .val (.int (1 : Int32)), .val (.int (3 : Int32)), .val (.int x0), .val (.int x1), .val (.int x2), .val (.int y0), .val (.int y1), .val (.int y2), .val (.ref ar), .val (.ref ao), .unset, .unset, .unset] [(.int (3 : Int32))])
      refine own_st (fun _ k => XS.ifNo X132.here hx rfl (hb hby at_115) rfl (by decide) k) ?_
      show own_Go p e s below _ _ _ T132 (mkF m 118 #[.val (.int p0), .val (.int p1), .val (.int p2), .val (.int p3), .val (.int p4), .val (.int p5), .val (.int (1 : Int32)), .val (.int (3 : Int32)), .val (.int x0), .val (.int x1), .val (.int x2), .val (.int y0), .val (.int y1), .val (.int y2), .val (.ref ar), .val (.ref ao), .unset, .unset, .unset] [])
      refine own_st (fun _ k => XS.aload X132.here hx rfl (hb hby at_118) rfl rfl k) ?_
      show own_Go p e s below _ _ _ T132 (mkF m 120 #[.val (.int p0), .val (.int p1), .val (.int p2), .val (.int p3), .val (.int p4), .val (.int p5), .val (.int (1 : Int32)), .val (.int (3 : Int32)), .val (.int x0), .val (.int x1), .val (.int x2), .val (.int y0), .val (.int y1), .val (.int y2), .val (.ref ar), .val (.ref ao), .unset, .unset, .unset] [(.ref ao)])
      refine own_st (fun _ k => XS.iconst X132.here hx rfl (hb hby at_120) k) ?_
      show own_Go p e s below _ _ _ T132 (mkF m 121 #[.val (.int p0), .val (.int p1), .val (.int p2), .val (.int p3), .val (.int p4), .val (.int p5), .val (.int (1 : Int32)), .val (.int (3 : Int32)), .val (.int x0), .val (.int x1), .val (.int x2), .val (.int y0), .val (.int y1), .val (.int y2), .val (.ref ar), .val (.ref ao), .unset, .unset, .unset] [(.int (0 : Int32)), (.ref ao)])
      refine own_st (fun _ k => XS.iload X132.here hx rfl (hb hby at_121) rfl k) ?_
      show own_Go p e s below _ _ _ T132 (mkF m 123 #[.val (.int p0), .val (.int p1), .val (.int p2), .val (.int p3), .val (.int p4), .val (.int p5), .val (.int (1 : Int32)), .val (.int (3 : Int32)), .val (.int x0), .val (.int x1), .val (.int x2), .val (.int y0), .val (.int y1), .val (.int y2), .val (.ref ar), .val (.ref ao), .unset, .unset, .unset] [(.int y0), (.int (0 : Int32)), (.ref ao)])
      obtain ⟨T134, h134, X134, e134, W134, V134, st134⟩ := own_stI X132 hx hZ e132 V_ao (j := (0 : Int32)) ⟨by decide, by decide⟩ (Nat.le_of_ble_eq_true rfl) (g := (mkF m 123 #[.val (.int p0), .val (.int p1), .val (.int p2), .val (.int p3), .val (.int p4), .val (.int p5), .val (.int (1 : Int32)), .val (.int (3 : Int32)), .val (.int x0), .val (.int x1), .val (.int x2), .val (.int y0), .val (.int y1), .val (.int y2), .val (.ref ar), .val (.ref ao), .unset, .unset, .unset] [(.int y0), (.int (0 : Int32)), (.ref ao)])) rfl rfl (hb hby at_123)
      clear V_ao
      have V_ao : Arv Z h134 ao k132 .int (3 : Int32) [(.int y0), (.int (0 : Int32)), (.int (0 : Int32))] (.int (0 : Int32)) := V134
      replace E_ar := E_ar.wr W134
      replace V_ar := V_ar.other W134 ne_ar_ao
      replace E_ao := E_ao.wr W134
      have Z135 := Nat.le_trans Z133 (Keep.of_wr W134).1
      have N134 := Fr.snoc X134 N130 g_ao
      refine own_st st134 ?_
      show own_Go p e s below _ _ _ T134 (mkF m 124 #[.val (.int p0), .val (.int p1), .val (.int p2), .val (.int p3), .val (.int p4), .val (.int p5), .val (.int (1 : Int32)), .val (.int (3 : Int32)), .val (.int x0), .val (.int x1), .val (.int x2), .val (.int y0), .val (.int y1), .val (.int y2), .val (.ref ar), .val (.ref ao), .unset, .unset, .unset] [])
      refine own_st (fun _ k => XS.iload X134.here hx rfl (hb hby at_124) rfl k) ?_
      show own_Go p e s below _ _ _ T134 (mkF m 126 #[.val (.int p0), .val (.int p1), .val (.int p2), .val (.int p3), .val (.int p4), .val (.int p5), .val (.int (1 : Int32)), .val (.int (3 : Int32)), .val (.int x0), .val (.int x1), .val (.int x2), .val (.int y0), .val (.int y1), .val (.int y2), .val (.ref ar), .val (.ref ao), .unset, .unset, .unset] [(.int (3 : Int32))])
      refine own_st (fun _ k => XS.iconst X134.here hx rfl (hb hby at_126) k) ?_
      show own_Go p e s below _ _ _ T134 (mkF m 127 #[.val (.int p0), .val (.int p1), .val (.int p2), .val (.int p3), .val (.int p4), .val (.int p5), .val (.int (1 : Int32)), .val (.int (3 : Int32)), .val (.int x0), .val (.int x1), .val (.int x2), .val (.int y0), .val (.int y1), .val (.int y2), .val (.ref ar), .val (.ref ao), .unset, .unset, .unset] [(.int (1 : Int32)), (.int (3 : Int32))])
      refine own_st (fun _ k => XS.icmpNo X134.here hx rfl (hb hby at_127) rfl (by decide) k) ?_
      show own_Go p e s below _ _ _ T134 (mkF m 130 #[.val (.int p0), .val (.int p1), .val (.int p2), .val (.int p3), .val (.int p4), .val (.int p5), .val (.int (1 : Int32)), .val (.int (3 : Int32)), .val (.int x0), .val (.int x1), .val (.int x2), .val (.int y0), .val (.int y1), .val (.int y2), .val (.ref ar), .val (.ref ao), .unset, .unset, .unset] [])
      refine own_st (fun _ k => XS.aload X134.here hx rfl (hb hby at_130) rfl rfl k) ?_
      show own_Go p e s below _ _ _ T134 (mkF m 132 #[.val (.int p0), .val (.int p1), .val (.int p2), .val (.int p3), .val (.int p4), .val (.int p5), .val (.int (1 : Int32)), .val (.int (3 : Int32)), .val (.int x0), .val (.int x1), .val (.int x2), .val (.int y0), .val (.int y1), .val (.int y2), .val (.ref ar), .val (.ref ao), .unset, .unset, .unset] [(.ref ao)])
      refine own_st (fun _ k => XS.iconst X134.here hx rfl (hb hby at_132) k) ?_
      show own_Go p e s below _ _ _ T134 (mkF m 133 #[.val (.int p0), .val (.int p1), .val (.int p2), .val (.int p3), .val (.int p4), .val (.int p5), .val (.int (1 : Int32)), .val (.int (3 : Int32)), .val (.int x0), .val (.int x1), .val (.int x2), .val (.int y0), .val (.int y1), .val (.int y2), .val (.ref ar), .val (.ref ao), .unset, .unset, .unset] [(.int (1 : Int32)), (.ref ao)])
      refine own_st (fun _ k => XS.iload X134.here hx rfl (hb hby at_133) rfl k) ?_
      show own_Go p e s below _ _ _ T134 (mkF m 135 #[.val (.int p0), .val (.int p1), .val (.int p2), .val (.int p3), .val (.int p4), .val (.int p5), .val (.int (1 : Int32)), .val (.int (3 : Int32)), .val (.int x0), .val (.int x1), .val (.int x2), .val (.int y0), .val (.int y1), .val (.int y2), .val (.ref ar), .val (.ref ao), .unset, .unset, .unset] [(.int y1), (.int (1 : Int32)), (.ref ao)])
      obtain ⟨T136, h136, X136, e136, W136, V136, st136⟩ := own_stI X134 hx hZ e134 V_ao (j := (1 : Int32)) ⟨by decide, by decide⟩ (Nat.le_of_ble_eq_true rfl) (g := (mkF m 135 #[.val (.int p0), .val (.int p1), .val (.int p2), .val (.int p3), .val (.int p4), .val (.int p5), .val (.int (1 : Int32)), .val (.int (3 : Int32)), .val (.int x0), .val (.int x1), .val (.int x2), .val (.int y0), .val (.int y1), .val (.int y2), .val (.ref ar), .val (.ref ao), .unset, .unset, .unset] [(.int y1), (.int (1 : Int32)), (.ref ao)])) rfl rfl (hb hby at_135)
      clear V_ao
      have V_ao : Arv Z h136 ao k132 .int (3 : Int32) [(.int y0), (.int y1), (.int (0 : Int32))] (.int (0 : Int32)) := V136
      replace E_ar := E_ar.wr W136
      replace V_ar := V_ar.other W136 ne_ar_ao
      replace E_ao := E_ao.wr W136
      have Z137 := Nat.le_trans Z135 (Keep.of_wr W136).1
      have N136 := Fr.snoc X136 N134 g_ao
      refine own_st st136 ?_
      show own_Go p e s below _ _ _ T136 (mkF m 136 #[.val (.int p0), .val (.int p1), .val (.int p2), .val (.int p3), .val (.int p4), .val (.int p5), .val (.int (1 : Int32)), .val (.int (3 : Int32)), .val (.int x0), .val (.int x1), .val (.int x2), .val (.int y0), .val (.int y1), .val (.int y2), .val (.ref ar), .val (.ref ao), .unset, .unset, .unset] [])
      refine own_st (fun _ k => XS.iload X136.here hx rfl (hb hby at_136) rfl k) ?_
      show own_Go p e s below _ _ _ T136 (mkF m 138 #[.val (.int p0), .val (.int p1), .val (.int p2), .val (.int p3), .val (.int p4), .val (.int p5), .val (.int (1 : Int32)), .val (.int (3 : Int32)), .val (.int x0), .val (.int x1), .val (.int x2), .val (.int y0), .val (.int y1), .val (.int y2), .val (.ref ar), .val (.ref ao), .unset, .unset, .unset] [(.int (3 : Int32))])
      refine own_st (fun _ k => XS.iconst X136.here hx rfl (hb hby at_138) k) ?_
      show own_Go p e s below _ _ _ T136 (mkF m 139 #[.val (.int p0), .val (.int p1), .val (.int p2), .val (.int p3), .val (.int p4), .val (.int p5), .val (.int (1 : Int32)), .val (.int (3 : Int32)), .val (.int x0), .val (.int x1), .val (.int x2), .val (.int y0), .val (.int y1), .val (.int y2), .val (.ref ar), .val (.ref ao), .unset, .unset, .unset] [(.int (2 : Int32)), (.int (3 : Int32))])
      refine own_st (fun _ k => XS.icmpNo X136.here hx rfl (hb hby at_139) rfl (by decide) k) ?_
      show own_Go p e s below _ _ _ T136 (mkF m 142 #[.val (.int p0), .val (.int p1), .val (.int p2), .val (.int p3), .val (.int p4), .val (.int p5), .val (.int (1 : Int32)), .val (.int (3 : Int32)), .val (.int x0), .val (.int x1), .val (.int x2), .val (.int y0), .val (.int y1), .val (.int y2), .val (.ref ar), .val (.ref ao), .unset, .unset, .unset] [])
      refine own_st (fun _ k => XS.aload X136.here hx rfl (hb hby at_142) rfl rfl k) ?_
      show own_Go p e s below _ _ _ T136 (mkF m 144 #[.val (.int p0), .val (.int p1), .val (.int p2), .val (.int p3), .val (.int p4), .val (.int p5), .val (.int (1 : Int32)), .val (.int (3 : Int32)), .val (.int x0), .val (.int x1), .val (.int x2), .val (.int y0), .val (.int y1), .val (.int y2), .val (.ref ar), .val (.ref ao), .unset, .unset, .unset] [(.ref ao)])
      refine own_st (fun _ k => XS.iconst X136.here hx rfl (hb hby at_144) k) ?_
      show own_Go p e s below _ _ _ T136 (mkF m 145 #[.val (.int p0), .val (.int p1), .val (.int p2), .val (.int p3), .val (.int p4), .val (.int p5), .val (.int (1 : Int32)), .val (.int (3 : Int32)), .val (.int x0), .val (.int x1), .val (.int x2), .val (.int y0), .val (.int y1), .val (.int y2), .val (.ref ar), .val (.ref ao), .unset, .unset, .unset] [(.int (2 : Int32)), (.ref ao)])
      refine own_st (fun _ k => XS.iload X136.here hx rfl (hb hby at_145) rfl k) ?_
      show own_Go p e s below _ _ _ T136 (mkF m 147 #[.val (.int p0), .val (.int p1), .val (.int p2), .val (.int p3), .val (.int p4), .val (.int p5), .val (.int (1 : Int32)), .val (.int (3 : Int32)), .val (.int x0), .val (.int x1), .val (.int x2), .val (.int y0), .val (.int y1), .val (.int y2), .val (.ref ar), .val (.ref ao), .unset, .unset, .unset] [(.int y2), (.int (2 : Int32)), (.ref ao)])
      obtain ⟨T138, h138, X138, e138, W138, V138, st138⟩ := own_stI X136 hx hZ e136 V_ao (j := (2 : Int32)) ⟨by decide, by decide⟩ (Nat.le_of_ble_eq_true rfl) (g := (mkF m 147 #[.val (.int p0), .val (.int p1), .val (.int p2), .val (.int p3), .val (.int p4), .val (.int p5), .val (.int (1 : Int32)), .val (.int (3 : Int32)), .val (.int x0), .val (.int x1), .val (.int x2), .val (.int y0), .val (.int y1), .val (.int y2), .val (.ref ar), .val (.ref ao), .unset, .unset, .unset] [(.int y2), (.int (2 : Int32)), (.ref ao)])) rfl rfl (hb hby at_147)
      clear V_ao
      have V_ao : Arv Z h138 ao k132 .int (3 : Int32) [(.int y0), (.int y1), (.int y2)] (.int (0 : Int32)) := V138
      replace E_ar := E_ar.wr W138
      replace V_ar := V_ar.other W138 ne_ar_ao
      replace E_ao := E_ao.wr W138
      have Z139 := Nat.le_trans Z137 (Keep.of_wr W138).1
      have N138 := Fr.snoc X138 N136 g_ao
      refine own_st st138 ?_
      show own_Go p e s below _ _ _ T138 (mkF m 148 #[.val (.int p0), .val (.int p1), .val (.int p2), .val (.int p3), .val (.int p4), .val (.int p5), .val (.int (1 : Int32)), .val (.int (3 : Int32)), .val (.int x0), .val (.int x1), .val (.int x2), .val (.int y0), .val (.int y1), .val (.int y2), .val (.ref ar), .val (.ref ao), .unset, .unset, .unset] [])
      obtain ⟨T140, h140, X140, e140, E140, A140, D140, -, st140⟩ := newO X138 hx hZ hown (hw _ (List.mem_of_getElem? (i := 2) rfl)) (hw _ (List.mem_of_getElem? (i := 3) rfl)) (hw _ (List.mem_of_getElem? (i := 4) rfl)) e138 (g := (mkF m 148 #[.val (.int p0), .val (.int p1), .val (.int p2), .val (.int p3), .val (.int p4), .val (.int p5), .val (.int (1 : Int32)), .val (.int (3 : Int32)), .val (.int x0), .val (.int x1), .val (.int x2), .val (.int y0), .val (.int y1), .val (.int y2), .val (.ref ar), .val (.ref ao), .unset, .unset, .unset] [])) rfl (hb hby at_148) (by decide) (by decide)
      obtain ⟨bt, g140⟩ : ∃ z, z = h138.size := ⟨_, rfl⟩
      rw [← g140] at A140 D140 st140
      have g_bt : n0 ≤ bt := Nat.le_trans Z139 (Nat.le_of_eq g140.symm)
      have ne_ao_bt : ao ≠ bt := Nat.ne_of_lt (Nat.lt_of_lt_of_le E_ao.lt (Nat.le_of_eq g140.symm))
      have ne_bt_ao := Ne.symm ne_ao_bt
      have ne_ar_bt : ar ≠ bt := Nat.ne_of_lt (Nat.lt_of_lt_of_le E_ar.lt (Nat.le_of_eq g140.symm))
      have ne_bt_ar := Ne.symm ne_ar_bt
      replace E_ar := E_ar.ext E140
      replace V_ar := V_ar.ext E140
      replace E_ao := E_ao.ext E140
      replace V_ao := V_ao.ext E140
      have Z141 := Nat.le_trans Z139 E140.1
      have E_bt := A140
      have F_levels_bt : Fld Z h140 bt "com/example/hush5/hush5/model/Transformation" "levels" "[I" .null := D140 (Or.inr (hw _ (List.mem_of_getElem? (i := 21) rfl))) (ty := (.array .int)) (by decide)
      refine own_st st140 ?_
      show own_Go p e s below _ _ _ T140 (mkF m 151 #[.val (.int p0), .val (.int p1), .val (.int p2), .val (.int p3), .val (.int p4), .val (.int p5), .val (.int (1 : Int32)), .val (.int (3 : Int32)), .val (.int x0), .val (.int x1), .val (.int x2), .val (.int y0), .val (.int y1), .val (.int y2), .val (.ref ar), .val (.ref ao), .unset, .unset, .unset] [(.ref bt)])
      refine own_st (fun _ k => XS.dup X140.here hx rfl (hb hby at_151) rfl rfl k) ?_
      show own_Go p e s below _ _ _ T140 (mkF m 152 #[.val (.int p0), .val (.int p1), .val (.int p2), .val (.int p3), .val (.int p4), .val (.int p5), .val (.int (1 : Int32)), .val (.int (3 : Int32)), .val (.int x0), .val (.int x1), .val (.int x2), .val (.int y0), .val (.int y1), .val (.int y2), .val (.ref ar), .val (.ref ao), .unset, .unset, .unset] [(.ref bt), (.ref bt)])
      refine own_st (fun _ k => XS.aload X140.here hx rfl (hb hby at_152) rfl rfl k) ?_
      show own_Go p e s below _ _ _ T140 (mkF m 154 #[.val (.int p0), .val (.int p1), .val (.int p2), .val (.int p3), .val (.int p4), .val (.int p5), .val (.int (1 : Int32)), .val (.int (3 : Int32)), .val (.int x0), .val (.int x1), .val (.int x2), .val (.int y0), .val (.int y1), .val (.int y2), .val (.ref ar), .val (.ref ao), .unset, .unset, .unset] [(.ref ar), (.ref bt), (.ref bt)])
      refine own_callN X140 hx hZ (y := (⟨"com/example/hush5/hush5/model/Transformation", "<init>", "([I)V"⟩ : MethodName)) rfl hown (hw _ (List.mem_of_getElem? (i := 5) rfl)) (hw _ (List.mem_of_getElem? (i := 6) rfl)) (hw _ (List.mem_of_getElem? (i := 4) rfl)) (hw _ (List.mem_of_getElem? (i := 7) rfl)) (by decide) e140 (rm1_1 l Z a0 hw [] bt ar k128 x0 h140 n0 Z141 E_bt F_levels_bt V_ar E_ar ne_bt_ar ne_ar_bt g_bt nx0) 1 (by decide) (by decide) (g := (mkF m 154 #[.val (.int p0), .val (.int p1), .val (.int p2), .val (.int p3), .val (.int p4), .val (.int p5), .val (.int (1 : Int32)), .val (.int (3 : Int32)), .val (.int x0), .val (.int x1), .val (.int x2), .val (.int y0), .val (.int y1), .val (.int y2), .val (.ref ar), .val (.ref ao), .unset, .unset, .unset] [(.ref ar), (.ref bt), (.ref bt)])) rfl (by rw [hml]; rfl) (a := bt) (argsL := [(.ref ar)]) (rest := [(.ref bt)]) pd0 rfl rfl rfl (by show 2 * 0 + _ ≤ _; exact Nat.le_of_eq rfl) (hb hby at_154) (by decide) (by decide) ?_
      intro T142 v142 L142 X142 hQ142
      obtain ⟨dt, rfl, N142q, K142q, y142_0, y142_1, y142_2, y142_3⟩ := hQ142
      have N142 := Fr.app N138 N142q
      replace E_ar := E_ar.keep K142q
      replace V_ar := V_ar.keep K142q (ninS ne_ar_bt nin0)
      replace E_ao := E_ao.keep K142q
      replace V_ao := V_ao.keep K142q (ninS ne_ao_bt nin0)
      replace E_bt := E_bt.keep K142q
      clear F_levels_bt
      have Z143 := Nat.le_trans Z141 K142q.1
      have E_bt := y142_0
      have F_levels_bt := y142_1
      have V_dt := y142_2
      have E_dt := y142_3
      show own_Go p e s below _ _ _ T142 (mkF m 157 #[.val (.int p0), .val (.int p1), .val (.int p2), .val (.int p3), .val (.int p4), .val (.int p5), .val (.int (1 : Int32)), .val (.int (3 : Int32)), .val (.int x0), .val (.int x1), .val (.int x2), .val (.int y0), .val (.int y1), .val (.int y2), .val (.ref ar), .val (.ref ao), .unset, .unset, .unset] [(.ref bt)])
      refine own_st (fun _ k => XS.astore X142.here hx rfl (hb hby at_157) rfl rfl (l' := #[.val (.int p0), .val (.int p1), .val (.int p2), .val (.int p3), .val (.int p4), .val (.int p5), .val (.int (1 : Int32)), .val (.int (3 : Int32)), .val (.int x0), .val (.int x1), .val (.int x2), .val (.int y0), .val (.int y1), .val (.int y2), .val (.ref ar), .val (.ref ao), .val (.ref bt), .unset, .unset]) rfl k) ?_
      show own_Go p e s below _ _ _ T142 (mkF m 159 #[.val (.int p0), .val (.int p1), .val (.int p2), .val (.int p3), .val (.int p4), .val (.int p5), .val (.int (1 : Int32)), .val (.int (3 : Int32)), .val (.int x0), .val (.int x1), .val (.int x2), .val (.int y0), .val (.int y1), .val (.int y2), .val (.ref ar), .val (.ref ao), .val (.ref bt), .unset, .unset] [])
      obtain ⟨T144, h144, X144, e144, E144, A144, D144, -, st144⟩ := newO X142 hx hZ hown (hw _ (List.mem_of_getElem? (i := 2) rfl)) (hw _ (List.mem_of_getElem? (i := 3) rfl)) (hw _ (List.mem_of_getElem? (i := 4) rfl)) rfl (g := (mkF m 159 #[.val (.int p0), .val (.int p1), .val (.int p2), .val (.int p3), .val (.int p4), .val (.int p5), .val (.int (1 : Int32)), .val (.int (3 : Int32)), .val (.int x0), .val (.int x1), .val (.int x2), .val (.int y0), .val (.int y1), .val (.int y2), .val (.ref ar), .val (.ref ao), .val (.ref bt), .unset, .unset] [])) rfl (hb hby at_159) (by decide) (by decide)
      obtain ⟨bu, g144⟩ : ∃ z, z = T142.heap.size := ⟨_, rfl⟩
      rw [← g144] at A144 D144 st144
      have g_bu : n0 ≤ bu := Nat.le_trans Z143 (Nat.le_of_eq g144.symm)
      have ne_ao_bu : ao ≠ bu := Nat.ne_of_lt (Nat.lt_of_lt_of_le E_ao.lt (Nat.le_of_eq g144.symm))
      have ne_bu_ao := Ne.symm ne_ao_bu
      have ne_ar_bu : ar ≠ bu := Nat.ne_of_lt (Nat.lt_of_lt_of_le E_ar.lt (Nat.le_of_eq g144.symm))
      have ne_bu_ar := Ne.symm ne_ar_bu
      have ne_bt_bu : bt ≠ bu := Nat.ne_of_lt (Nat.lt_of_lt_of_le E_bt.lt (Nat.le_of_eq g144.symm))
      have ne_bu_bt := Ne.symm ne_bt_bu
      have ne_dt_bu : dt ≠ bu := Nat.ne_of_lt (Nat.lt_of_lt_of_le V_dt.lt (Nat.le_of_eq g144.symm))
      have ne_bu_dt := Ne.symm ne_dt_bu
      replace E_ar := E_ar.ext E144
      replace V_ar := V_ar.ext E144
      replace E_ao := E_ao.ext E144
      replace V_ao := V_ao.ext E144
      replace E_bt := E_bt.ext E144
      replace F_levels_bt := F_levels_bt.ext E144
      replace V_dt := V_dt.ext E144
      replace E_dt := E_dt.ext E144
      have Z145 := Nat.le_trans Z143 E144.1
      have E_bu := A144
      have F_levels_bu : Fld Z h144 bu "com/example/hush5/hush5/model/Transformation" "levels" "[I" .null := D144 (Or.inr (hw _ (List.mem_of_getElem? (i := 21) rfl))) (ty := (.array .int)) (by decide)
      refine own_st st144 ?_
      show own_Go p e s below _ _ _ T144 (mkF m 162 #[.val (.int p0), .val (.int p1), .val (.int p2), .val (.int p3), .val (.int p4), .val (.int p5), .val (.int (1 : Int32)), .val (.int (3 : Int32)), .val (.int x0), .val (.int x1), .val (.int x2), .val (.int y0), .val (.int y1), .val (.int y2), .val (.ref ar), .val (.ref ao), .val (.ref bt), .unset, .unset] [(.ref bu)])
      refine own_st (fun _ k => XS.dup X144.here hx rfl (hb hby at_162) rfl rfl k) ?_
      show own_Go p e s below _ _ _ T144 (mkF m 163 #[.val (.int p0), .val (.int p1), .val (.int p2), .val (.int p3), .val (.int p4), .val (.int p5), .val (.int (1 : Int32)), .val (.int (3 : Int32)), .val (.int x0), .val (.int x1), .val (.int x2), .val (.int y0), .val (.int y1), .val (.int y2), .val (.ref ar), .val (.ref ao), .val (.ref bt), .unset, .unset] [(.ref bu), (.ref bu)])
      refine own_st (fun _ k => XS.aload X144.here hx rfl (hb hby at_163) rfl rfl k) ?_
      show own_Go p e s below _ _ _ T144 (mkF m 165 #[.val (.int p0), .val (.int p1), .val (.int p2), .val (.int p3), .val (.int p4), .val (.int p5), .val (.int (1 : Int32)), .val (.int (3 : Int32)), .val (.int x0), .val (.int x1), .val (.int x2), .val (.int y0), .val (.int y1), .val (.int y2), .val (.ref ar), .val (.ref ao), .val (.ref bt), .unset, .unset] [(.ref ao), (.ref bu), (.ref bu)])
      refine own_callN X144 hx hZ (y := (⟨"com/example/hush5/hush5/model/Transformation", "<init>", "([I)V"⟩ : MethodName)) rfl hown (hw _ (List.mem_of_getElem? (i := 5) rfl)) (hw _ (List.mem_of_getElem? (i := 6) rfl)) (hw _ (List.mem_of_getElem? (i := 4) rfl)) (hw _ (List.mem_of_getElem? (i := 7) rfl)) (by decide) e144 (rm1_3 l Z a0 hw [] bu ao k132 y0 y1 y2 h144 n0 Z145 E_bu F_levels_bu V_ao E_ao ne_bu_ao ne_ao_bu g_bu ny0 ny1 ny2) 1 (by decide) (by decide) (g := (mkF m 165 #[.val (.int p0), .val (.int p1), .val (.int p2), .val (.int p3), .val (.int p4), .val (.int p5), .val (.int (1 : Int32)), .val (.int (3 : Int32)), .val (.int x0), .val (.int x1), .val (.int x2), .val (.int y0), .val (.int y1), .val (.int y2), .val (.ref ar), .val (.ref ao), .val (.ref bt), .unset, .unset] [(.ref ao), (.ref bu), (.ref bu)])) rfl (by rw [hml]; rfl) (a := bu) (argsL := [(.ref ao)]) (rest := [(.ref bu)]) pd0 rfl rfl rfl (by show 2 * 0 + _ ≤ _; exact Nat.le_of_eq rfl) (hb hby at_165) (by decide) (by decide) ?_
      intro T146 v146 L146 X146 hQ146
      obtain ⟨du, rfl, N146q, K146q, y146_0, y146_1, y146_2, y146_3⟩ := hQ146
      have N146 := Fr.app N142 N146q
      replace E_ar := E_ar.keep K146q
      replace V_ar := V_ar.keep K146q (ninS ne_ar_bu nin0)
      replace E_ao := E_ao.keep K146q
      replace V_ao := V_ao.keep K146q (ninS ne_ao_bu nin0)
      replace E_bt := E_bt.keep K146q
      replace F_levels_bt := F_levels_bt.keep K146q (ninS ne_bt_bu nin0)
      replace V_dt := V_dt.keep K146q (ninS ne_dt_bu nin0)
      replace E_dt := E_dt.keep K146q
      replace E_bu := E_bu.keep K146q
      clear F_levels_bu
      have Z147 := Nat.le_trans Z145 K146q.1
      have E_bu := y146_0
      have F_levels_bu := y146_1
      have V_du := y146_2
      have E_du := y146_3
      show own_Go p e s below _ _ _ T146 (mkF m 168 #[.val (.int p0), .val (.int p1), .val (.int p2), .val (.int p3), .val (.int p4), .val (.int p5), .val (.int (1 : Int32)), .val (.int (3 : Int32)), .val (.int x0), .val (.int x1), .val (.int x2), .val (.int y0), .val (.int y1), .val (.int y2), .val (.ref ar), .val (.ref ao), .val (.ref bt), .unset, .unset] [(.ref bu)])
      refine own_st (fun _ k => XS.astore X146.here hx rfl (hb hby at_168) rfl rfl (l' := #[.val (.int p0), .val (.int p1), .val (.int p2), .val (.int p3), .val (.int p4), .val (.int p5), .val (.int (1 : Int32)), .val (.int (3 : Int32)), .val (.int x0), .val (.int x1), .val (.int x2), .val (.int y0), .val (.int y1), .val (.int y2), .val (.ref ar), .val (.ref ao), .val (.ref bt), .val (.ref bu), .unset]) rfl k) ?_
      show own_Go p e s below _ _ _ T146 (mkF m 170 #[.val (.int p0), .val (.int p1), .val (.int p2), .val (.int p3), .val (.int p4), .val (.int p5), .val (.int (1 : Int32)), .val (.int (3 : Int32)), .val (.int x0), .val (.int x1), .val (.int x2), .val (.int y0), .val (.int y1), .val (.int y2), .val (.ref ar), .val (.ref ao), .val (.ref bt), .val (.ref bu), .unset] [])
      refine own_st (fun _ k => XS.iload X146.here hx rfl (hb hby at_170) rfl k) ?_
      show own_Go p e s below _ _ _ T146 (mkF m 172 #[.val (.int p0), .val (.int p1), .val (.int p2), .val (.int p3), .val (.int p4), .val (.int p5), .val (.int (1 : Int32)), .val (.int (3 : Int32)), .val (.int x0), .val (.int x1), .val (.int x2), .val (.int y0), .val (.int y1), .val (.int y2), .val (.ref ar), .val (.ref ao), .val (.ref bt), .val (.ref bu), .unset] [(.int (1 : Int32))])
      refine own_st (fun _ k => XS.iconst X146.here hx rfl (hb hby at_172) k) ?_
      show own_Go p e s below _ _ _ T146 (mkF m 173 #[.val (.int p0), .val (.int p1), .val (.int p2), .val (.int p3), .val (.int p4), .val (.int p5), .val (.int (1 : Int32)), .val (.int (3 : Int32)), .val (.int x0), .val (.int x1), .val (.int x2), .val (.int y0), .val (.int y1), .val (.int y2), .val (.ref ar), .val (.ref ao), .val (.ref bt), .val (.ref bu), .unset] [(.int (1 : Int32)), (.int (1 : Int32))])
      have J214 : ∀  (bz : Int32) (_ : bz = own_b (¬ y0 < x0)), own_Go p e s below (fun (v : Option Value) (h : Heap) (L : List Loc) => v = some (.int 1) ∧ Fr n0 L) 24 128 T146 (mkF m 214 #[.val (.int p0), .val (.int p1), .val (.int p2), .val (.int p3), .val (.int p4), .val (.int p5), .val (.int (1 : Int32)), .val (.int (3 : Int32)), .val (.int x0), .val (.int x1), .val (.int x2), .val (.int y0), .val (.int y1), .val (.int y2), .val (.ref ar), .val (.ref ao), .val (.ref bt), .val (.ref bu), .unset] [(.int bz)]) := by
        rintro _ rfl
        show own_Go p e s below _ _ _ T146 (mkF m 214 #[.val (.int p0), .val (.int p1), .val (.int p2), .val (.int p3), .val (.int p4), .val (.int p5), .val (.int (1 : Int32)), .val (.int (3 : Int32)), .val (.int x0), .val (.int x1), .val (.int x2), .val (.int y0), .val (.int y1), .val (.int y2), .val (.ref ar), .val (.ref ao), .val (.ref bt), .val (.ref bu), .unset] [(.int (own_b (¬ y0 < x0)))])
        refine own_st (fun _ k => XS.istore X146.here hx rfl (hb hby at_214) rfl (l' := #[.val (.int p0), .val (.int p1), .val (.int p2), .val (.int p3), .val (.int p4), .val (.int p5), .val (.int (1 : Int32)), .val (.int (3 : Int32)), .val (.int x0), .val (.int x1), .val (.int x2), .val (.int y0), .val (.int y1), .val (.int y2), .val (.ref ar), .val (.ref ao), .val (.ref bt), .val (.ref bu), .val (.int (own_b (¬ y0 < x0)))]) rfl k) ?_
        show own_Go p e s below _ _ _ T146 (mkF m 216 #[.val (.int p0), .val (.int p1), .val (.int p2), .val (.int p3), .val (.int p4), .val (.int p5), .val (.int (1 : Int32)), .val (.int (3 : Int32)), .val (.int x0), .val (.int x1), .val (.int x2), .val (.int y0), .val (.int y1), .val (.int y2), .val (.ref ar), .val (.ref ao), .val (.ref bt), .val (.ref bu), .val (.int (own_b (¬ y0 < x0)))] [])
        refine own_st (fun _ k => XS.aload X146.here hx rfl (hb hby at_216) rfl rfl k) ?_
        show own_Go p e s below _ _ _ T146 (mkF m 218 #[.val (.int p0), .val (.int p1), .val (.int p2), .val (.int p3), .val (.int p4), .val (.int p5), .val (.int (1 : Int32)), .val (.int (3 : Int32)), .val (.int x0), .val (.int x1), .val (.int x2), .val (.int y0), .val (.int y1), .val (.int y2), .val (.ref ar), .val (.ref ao), .val (.ref bt), .val (.ref bu), .val (.int (own_b (¬ y0 < x0)))] [(.ref bt)])
        refine own_st (fun _ k => XS.aload X146.here hx rfl (hb hby at_218) rfl rfl k) ?_
        show own_Go p e s below _ _ _ T146 (mkF m 220 #[.val (.int p0), .val (.int p1), .val (.int p2), .val (.int p3), .val (.int p4), .val (.int p5), .val (.int (1 : Int32)), .val (.int (3 : Int32)), .val (.int x0), .val (.int x1), .val (.int x2), .val (.int y0), .val (.int y1), .val (.int y2), .val (.ref ar), .val (.ref ao), .val (.ref bt), .val (.ref bu), .val (.int (own_b (¬ y0 < x0)))] [(.ref bu), (.ref bt)])
        refine own_callV X146 hx hZ (y := (⟨"com/example/hush5/hush5/model/Transformation", "liesAtOrBelow", "(Lcom/example/hush5/hush5/model/Transformation;)Z"⟩ : MethodName)) hown (hw _ (List.mem_of_getElem? (i := 22) rfl)) (hw _ (List.mem_of_getElem? (i := 23) rfl)) (hw _ (List.mem_of_getElem? (i := 25) rfl)) (hw _ (List.mem_of_getElem? (i := 24) rfl)) (hw _ (List.mem_of_getElem? (i := 4) rfl)) (hw _ (List.mem_of_getElem? (i := 26) rfl)) (by decide) rfl (rm3_1_3 l Z a0 hw [] bt bu dt du k128 k132 x0 y0 y1 y2 T146.heap n0 Z147 F_levels_bt F_levels_bu V_dt V_du) 0 (by decide) (by decide) E_bt (g := (mkF m 220 #[.val (.int p0), .val (.int p1), .val (.int p2), .val (.int p3), .val (.int p4), .val (.int p5), .val (.int (1 : Int32)), .val (.int (3 : Int32)), .val (.int x0), .val (.int x1), .val (.int x2), .val (.int y0), .val (.int y1), .val (.int y2), .val (.ref ar), .val (.ref ao), .val (.ref bt), .val (.ref bu), .val (.int (own_b (¬ y0 < x0)))] [(.ref bu), (.ref bt)])) rfl (by rw [hml]; rfl) (argsL := [(.ref bu)]) (rest := []) pd1 rfl rfl rfl (by show 2 * 0 + _ ≤ _; exact Nat.le_of_eq rfl) (hb hby at_220) (by decide) (by decide) ?_
        intro T148 v148 L148 X148 hQ148
        obtain ⟨rfl, N148q, e148⟩ := hQ148
        have N148 := Fr.app N146 N148q
        show own_Go p e s below _ _ _ T148 (mkF m 223 #[.val (.int p0), .val (.int p1), .val (.int p2), .val (.int p3), .val (.int p4), .val (.int p5), .val (.int (1 : Int32)), .val (.int (3 : Int32)), .val (.int x0), .val (.int x1), .val (.int x2), .val (.int y0), .val (.int y1), .val (.int y2), .val (.ref ar), .val (.ref ao), .val (.ref bt), .val (.ref bu), .val (.int (own_b (¬ y0 < x0)))] [(.int (own_b (¬ y0 < x0)))])
        refine own_st (fun _ k => XS.iload X148.here hx rfl (hb hby at_223) rfl k) ?_
        show own_Go p e s below _ _ _ T148 (mkF m 225 #[.val (.int p0), .val (.int p1), .val (.int p2), .val (.int p3), .val (.int p4), .val (.int p5), .val (.int (1 : Int32)), .val (.int (3 : Int32)), .val (.int x0), .val (.int x1), .val (.int x2), .val (.int y0), .val (.int y1), .val (.int y2), .val (.ref ar), .val (.ref ao), .val (.ref bt), .val (.ref bu), .val (.int (own_b (¬ y0 < x0)))] [(.int (own_b (¬ y0 < x0))), (.int (own_b (¬ y0 < x0)))])
        refine own_st (fun _ k => XS.icmpNo X148.here hx rfl (hb hby at_225) rfl (teq (rfl : (own_b (¬ y0 < x0)) = (own_b (¬ y0 < x0)))).2 k) ?_
        show own_Go p e s below _ _ _ T148 (mkF m 228 #[.val (.int p0), .val (.int p1), .val (.int p2), .val (.int p3), .val (.int p4), .val (.int p5), .val (.int (1 : Int32)), .val (.int (3 : Int32)), .val (.int x0), .val (.int x1), .val (.int x2), .val (.int y0), .val (.int y1), .val (.int y2), .val (.ref ar), .val (.ref ao), .val (.ref bt), .val (.ref bu), .val (.int (own_b (¬ y0 < x0)))] [])
        refine own_st (fun _ k => XS.iconst X148.here hx rfl (hb hby at_228) k) ?_
        show own_Go p e s below _ _ _ T148 (mkF m 229 #[.val (.int p0), .val (.int p1), .val (.int p2), .val (.int p3), .val (.int p4), .val (.int p5), .val (.int (1 : Int32)), .val (.int (3 : Int32)), .val (.int x0), .val (.int x1), .val (.int x2), .val (.int y0), .val (.int y1), .val (.int y2), .val (.ref ar), .val (.ref ao), .val (.ref bt), .val (.ref bu), .val (.int (own_b (¬ y0 < x0)))] [(.int (1 : Int32))])
        refine own_st (fun _ k => XS.goto X148.here hx rfl (pc0 := 229) (pc' := 233) rfl (hb hby at_229) (by decide) (by decide) k) ?_
        show own_Go p e s below _ _ _ T148 (mkF m 233 #[.val (.int p0), .val (.int p1), .val (.int p2), .val (.int p3), .val (.int p4), .val (.int p5), .val (.int (1 : Int32)), .val (.int (3 : Int32)), .val (.int x0), .val (.int x1), .val (.int x2), .val (.int y0), .val (.int y1), .val (.int y2), .val (.ref ar), .val (.ref ao), .val (.ref bt), .val (.ref bu), .val (.int (own_b (¬ y0 < x0)))] [(.int (1 : Int32))])
        exact own_retN X148 hx hlk (t := .boolean) hret (by simp) (hb hby at_233) (z' := (1 : Int32)) rfl (by decide) (by decide) ⟨rfl, N148⟩
      refine own_st (fun _ k => XS.icmpNo X146.here hx rfl (hb hby at_173) rfl (by decide) k) ?_
      show own_Go p e s below _ _ _ T146 (mkF m 176 #[.val (.int p0), .val (.int p1), .val (.int p2), .val (.int p3), .val (.int p4), .val (.int p5), .val (.int (1 : Int32)), .val (.int (3 : Int32)), .val (.int x0), .val (.int x1), .val (.int x2), .val (.int y0), .val (.int y1), .val (.int y2), .val (.ref ar), .val (.ref ao), .val (.ref bt), .val (.ref bu), .unset] [])
      refine own_st (fun _ k => XS.iload X146.here hx rfl (hb hby at_176) rfl k) ?_
      show own_Go p e s below _ _ _ T146 (mkF m 178 #[.val (.int p0), .val (.int p1), .val (.int p2), .val (.int p3), .val (.int p4), .val (.int p5), .val (.int (1 : Int32)), .val (.int (3 : Int32)), .val (.int x0), .val (.int x1), .val (.int x2), .val (.int y0), .val (.int y1), .val (.int y2), .val (.ref ar), .val (.ref ao), .val (.ref bt), .val (.ref bu), .unset] [(.int x0)])
      refine own_st (fun _ k => XS.iload X146.here hx rfl (hb hby at_178) rfl k) ?_
      show own_Go p e s below _ _ _ T146 (mkF m 180 #[.val (.int p0), .val (.int p1), .val (.int p2), .val (.int p3), .val (.int p4), .val (.int p5), .val (.int (1 : Int32)), .val (.int (3 : Int32)), .val (.int x0), .val (.int x1), .val (.int x2), .val (.int y0), .val (.int y1), .val (.int y2), .val (.ref ar), .val (.ref ao), .val (.ref bt), .val (.ref bu), .unset] [(.int y0), (.int x0)])
      by_cases c180_149 : y0 < x0
      · refine own_st (fun _ k => XS.icmpYes X146.here hx rfl (pc0 := 180) (pc' := 213) rfl (hb hby at_180) rfl (tlt c180_149).2.2.1 (by decide) (by decide) k) ?_
        show own_Go p e s below _ _ _ T146 (mkF m 213 #[.val (.int p0), .val (.int p1), .val (.int p2), .val (.int p3), .val (.int p4), .val (.int p5), .val (.int (1 : Int32)), .val (.int (3 : Int32)), .val (.int x0), .val (.int x1), .val (.int x2), .val (.int y0), .val (.int y1), .val (.int y2), .val (.ref ar), .val (.ref ao), .val (.ref bt), .val (.ref bu), .unset] [])
        refine own_st (fun _ k => XS.iconst X146.here hx rfl (hb hby at_213) k) ?_
        show own_Go p e s below _ _ _ T146 (mkF m 214 #[.val (.int p0), .val (.int p1), .val (.int p2), .val (.int p3), .val (.int p4), .val (.int p5), .val (.int (1 : Int32)), .val (.int (3 : Int32)), .val (.int x0), .val (.int x1), .val (.int x2), .val (.int y0), .val (.int y1), .val (.int y2), .val (.ref ar), .val (.ref ao), .val (.ref bt), .val (.ref bu), .unset] [(.int (0 : Int32))])
        exact J214  _ (by rw [own_bf (P := (¬ y0 < x0)) (by simp [c180_149])])
      · refine own_st (fun _ k => XS.icmpNo X146.here hx rfl (hb hby at_180) rfl (flt c180_149).2.2.1 k) ?_
        show own_Go p e s below _ _ _ T146 (mkF m 183 #[.val (.int p0), .val (.int p1), .val (.int p2), .val (.int p3), .val (.int p4), .val (.int p5), .val (.int (1 : Int32)), .val (.int (3 : Int32)), .val (.int x0), .val (.int x1), .val (.int x2), .val (.int y0), .val (.int y1), .val (.int y2), .val (.ref ar), .val (.ref ao), .val (.ref bt), .val (.ref bu), .unset] [])
        refine own_st (fun _ k => XS.iload X146.here hx rfl (hb hby at_183) rfl k) ?_
        show own_Go p e s below _ _ _ T146 (mkF m 185 #[.val (.int p0), .val (.int p1), .val (.int p2), .val (.int p3), .val (.int p4), .val (.int p5), .val (.int (1 : Int32)), .val (.int (3 : Int32)), .val (.int x0), .val (.int x1), .val (.int x2), .val (.int y0), .val (.int y1), .val (.int y2), .val (.ref ar), .val (.ref ao), .val (.ref bt), .val (.ref bu), .unset] [(.int (1 : Int32))])
        refine own_st (fun _ k => XS.iconst X146.here hx rfl (hb hby at_185) k) ?_
        show own_Go p e s below _ _ _ T146 (mkF m 186 #[.val (.int p0), .val (.int p1), .val (.int p2), .val (.int p3), .val (.int p4), .val (.int p5), .val (.int (1 : Int32)), .val (.int (3 : Int32)), .val (.int x0), .val (.int x1), .val (.int x2), .val (.int y0), .val (.int y1), .val (.int y2), .val (.ref ar), .val (.ref ao), .val (.ref bt), .val (.ref bu), .unset] [(.int (2 : Int32)), (.int (1 : Int32))])
        refine own_st (fun _ k => XS.icmpYes X146.here hx rfl (pc0 := 186) (pc' := 196) rfl (hb hby at_186) rfl (by decide) (by decide) (by decide) k) ?_
        show own_Go p e s below _ _ _ T146 (mkF m 196 #[.val (.int p0), .val (.int p1), .val (.int p2), .val (.int p3), .val (.int p4), .val (.int p5), .val (.int (1 : Int32)), .val (.int (3 : Int32)), .val (.int x0), .val (.int x1), .val (.int x2), .val (.int y0), .val (.int y1), .val (.int y2), .val (.ref ar), .val (.ref ao), .val (.ref bt), .val (.ref bu), .unset] [])
        refine own_st (fun _ k => XS.iload X146.here hx rfl (hb hby at_196) rfl k) ?_
        show own_Go p e s below _ _ _ T146 (mkF m 198 #[.val (.int p0), .val (.int p1), .val (.int p2), .val (.int p3), .val (.int p4), .val (.int p5), .val (.int (1 : Int32)), .val (.int (3 : Int32)), .val (.int x0), .val (.int x1), .val (.int x2), .val (.int y0), .val (.int y1), .val (.int y2), .val (.ref ar), .val (.ref ao), .val (.ref bt), .val (.ref bu), .unset] [(.int (1 : Int32))])
        refine own_st (fun _ k => XS.iconst X146.here hx rfl (hb hby at_198) k) ?_
        show own_Go p e s below _ _ _ T146 (mkF m 199 #[.val (.int p0), .val (.int p1), .val (.int p2), .val (.int p3), .val (.int p4), .val (.int p5), .val (.int (1 : Int32)), .val (.int (3 : Int32)), .val (.int x0), .val (.int x1), .val (.int x2), .val (.int y0), .val (.int y1), .val (.int y2), .val (.ref ar), .val (.ref ao), .val (.ref bt), .val (.ref bu), .unset] [(.int (3 : Int32)), (.int (1 : Int32))])
        refine own_st (fun _ k => XS.icmpYes X146.here hx rfl (pc0 := 199) (pc' := 209) rfl (hb hby at_199) rfl (by decide) (by decide) (by decide) k) ?_
        show own_Go p e s below _ _ _ T146 (mkF m 209 #[.val (.int p0), .val (.int p1), .val (.int p2), .val (.int p3), .val (.int p4), .val (.int p5), .val (.int (1 : Int32)), .val (.int (3 : Int32)), .val (.int x0), .val (.int x1), .val (.int x2), .val (.int y0), .val (.int y1), .val (.int y2), .val (.ref ar), .val (.ref ao), .val (.ref bt), .val (.ref bu), .unset] [])
        refine own_st (fun _ k => XS.iconst X146.here hx rfl (hb hby at_209) k) ?_
        show own_Go p e s below _ _ _ T146 (mkF m 210 #[.val (.int p0), .val (.int p1), .val (.int p2), .val (.int p3), .val (.int p4), .val (.int p5), .val (.int (1 : Int32)), .val (.int (3 : Int32)), .val (.int x0), .val (.int x1), .val (.int x2), .val (.int y0), .val (.int y1), .val (.int y2), .val (.ref ar), .val (.ref ao), .val (.ref bt), .val (.ref bu), .unset] [(.int (1 : Int32))])
        refine own_st (fun _ k => XS.goto X146.here hx rfl (pc0 := 210) (pc' := 214) rfl (hb hby at_210) (by decide) (by decide) k) ?_
        show own_Go p e s below _ _ _ T146 (mkF m 214 #[.val (.int p0), .val (.int p1), .val (.int p2), .val (.int p3), .val (.int p4), .val (.int p5), .val (.int (1 : Int32)), .val (.int (3 : Int32)), .val (.int x0), .val (.int x1), .val (.int x2), .val (.int y0), .val (.int y1), .val (.int y2), .val (.ref ar), .val (.ref ao), .val (.ref bt), .val (.ref bu), .unset] [(.int (1 : Int32))])
        exact J214  _ (by rw [own_bt (P := (¬ y0 < x0)) (by simp [c180_149])])
  · show own_Go p e s below _ _ _ T0 (mkF m 11 #[.val (.int p0), .val (.int p1), .val (.int p2), .val (.int p3), .val (.int p4), .val (.int p5), .unset, .unset, .unset, .unset, .unset, .unset, .unset, .unset, .unset, .unset, .unset, .unset, .unset] [(.int (2 : Int32))])
    refine own_st (fun _ k => XS.istore X0.here hx rfl (hb hby at_11) rfl (l' := #[.val (.int p0), .val (.int p1), .val (.int p2), .val (.int p3), .val (.int p4), .val (.int p5), .val (.int (2 : Int32)), .unset, .unset, .unset, .unset, .unset, .unset, .unset, .unset, .unset, .unset, .unset, .unset]) rfl k) ?_
    show own_Go p e s below _ _ _ T0 (mkF m 13 #[.val (.int p0), .val (.int p1), .val (.int p2), .val (.int p3), .val (.int p4), .val (.int p5), .val (.int (2 : Int32)), .unset, .unset, .unset, .unset, .unset, .unset, .unset, .unset, .unset, .unset, .unset, .unset] [])
    refine own_st (fun _ k => XS.iloadN X0.here hx rfl (hb hby at_13) rfl k) ?_
    show own_Go p e s below _ _ _ T0 (mkF m 14 #[.val (.int p0), .val (.int p1), .val (.int p2), .val (.int p3), .val (.int p4), .val (.int p5), .val (.int (2 : Int32)), .unset, .unset, .unset, .unset, .unset, .unset, .unset, .unset, .unset, .unset, .unset, .unset] [(.int p2)])
    refine own_st (fun _ k => XS.bipush X0.here hx rfl (hb hby at_14) k) ?_
    show own_Go p e s below _ _ _ T0 (mkF m 16 #[.val (.int p0), .val (.int p1), .val (.int p2), .val (.int p3), .val (.int p4), .val (.int p5), .val (.int (2 : Int32)), .unset, .unset, .unset, .unset, .unset, .unset, .unset, .unset, .unset, .unset, .unset, .unset] [(.int (31 : Int32)), (.int p2)])
    refine own_st (fun _ k => XS.iushr X0.here hx rfl (hb hby at_16) rfl k) ?_
    show own_Go p e s below _ _ _ T0 (mkF m 17 #[.val (.int p0), .val (.int p1), .val (.int p2), .val (.int p3), .val (.int p4), .val (.int p5), .val (.int (2 : Int32)), .unset, .unset, .unset, .unset, .unset, .unset, .unset, .unset, .unset, .unset, .unset, .unset] [(.int ((p2.toUInt32 >>> ((31 : Int32) &&& 31).toUInt32).toInt32))])
    by_cases c17_150 : ((p2.toUInt32 >>> ((31 : Int32) &&& 31).toUInt32).toInt32) = (0 : Int32)
    · refine own_st (fun _ k => XS.ifYes X0.here hx rfl (pc0 := 17) (pc' := 24) rfl (hb hby at_17) rfl ((if0 _ _).trans (teq c17_150).1) (by decide) (by decide) k) ?_
      show own_Go p e s below _ _ _ T0 (mkF m 24 #[.val (.int p0), .val (.int p1), .val (.int p2), .val (.int p3), .val (.int p4), .val (.int p5), .val (.int (2 : Int32)), .unset, .unset, .unset, .unset, .unset, .unset, .unset, .unset, .unset, .unset, .unset, .unset] [])
      refine own_st (fun _ k => XS.iload X0.here hx rfl (hb hby at_24) rfl k) ?_
      show own_Go p e s below _ _ _ T0 (mkF m 26 #[.val (.int p0), .val (.int p1), .val (.int p2), .val (.int p3), .val (.int p4), .val (.int p5), .val (.int (2 : Int32)), .unset, .unset, .unset, .unset, .unset, .unset, .unset, .unset, .unset, .unset, .unset, .unset] [(.int (2 : Int32))])
      refine own_st (fun _ k => XS.istore X0.here hx rfl (hb hby at_26) rfl (l' := #[.val (.int p0), .val (.int p1), .val (.int p2), .val (.int p3), .val (.int p4), .val (.int p5), .val (.int (2 : Int32)), .val (.int (2 : Int32)), .unset, .unset, .unset, .unset, .unset, .unset, .unset, .unset, .unset, .unset, .unset]) rfl k) ?_
      show own_Go p e s below _ _ _ T0 (mkF m 28 #[.val (.int p0), .val (.int p1), .val (.int p2), .val (.int p3), .val (.int p4), .val (.int p5), .val (.int (2 : Int32)), .val (.int (2 : Int32)), .unset, .unset, .unset, .unset, .unset, .unset, .unset, .unset, .unset, .unset, .unset] [])
      refine own_st (fun _ k => XS.iloadN X0.here hx rfl (hb hby at_28) rfl k) ?_
      show own_Go p e s below _ _ _ T0 (mkF m 29 #[.val (.int p0), .val (.int p1), .val (.int p2), .val (.int p3), .val (.int p4), .val (.int p5), .val (.int (2 : Int32)), .val (.int (2 : Int32)), .unset, .unset, .unset, .unset, .unset, .unset, .unset, .unset, .unset, .unset, .unset] [(.int p0)])
      refine own_st (X0.ldcInt hx hown (mvT hZ (hw _ (List.mem_of_getElem? (i := 0) rfl))) (g := (mkF m 29 #[.val (.int p0), .val (.int p1), .val (.int p2), .val (.int p3), .val (.int p4), .val (.int p5), .val (.int (2 : Int32)), .val (.int (2 : Int32)), .unset, .unset, .unset, .unset, .unset, .unset, .unset, .unset, .unset, .unset, .unset] [(.int p0)])) rfl (hb hby at_29)) ?_
      show own_Go p e s below _ _ _ T0 (mkF m 31 #[.val (.int p0), .val (.int p1), .val (.int p2), .val (.int p3), .val (.int p4), .val (.int p5), .val (.int (2 : Int32)), .val (.int (2 : Int32)), .unset, .unset, .unset, .unset, .unset, .unset, .unset, .unset, .unset, .unset, .unset] [(.int (2147483647 : Int32)), (.int p0)])
      refine own_st (fun _ k => XS.iand X0.here hx rfl (hb hby at_31) rfl k) ?_
      show own_Go p e s below _ _ _ T0 (mkF m 32 #[.val (.int p0), .val (.int p1), .val (.int p2), .val (.int p3), .val (.int p4), .val (.int p5), .val (.int (2 : Int32)), .val (.int (2 : Int32)), .unset, .unset, .unset, .unset, .unset, .unset, .unset, .unset, .unset, .unset, .unset] [(.int (p0 &&& (2147483647 : Int32)))])
      refine own_st (fun _ k => XS.istore X0.here hx rfl (hb hby at_32) rfl (l' := #[.val (.int p0), .val (.int p1), .val (.int p2), .val (.int p3), .val (.int p4), .val (.int p5), .val (.int (2 : Int32)), .val (.int (2 : Int32)), .val (.int (p0 &&& (2147483647 : Int32))), .unset, .unset, .unset, .unset, .unset, .unset, .unset, .unset, .unset, .unset]) rfl k) ?_
      show own_Go p e s below _ _ _ T0 (mkF m 34 #[.val (.int p0), .val (.int p1), .val (.int p2), .val (.int p3), .val (.int p4), .val (.int p5), .val (.int (2 : Int32)), .val (.int (2 : Int32)), .val (.int (p0 &&& (2147483647 : Int32))), .unset, .unset, .unset, .unset, .unset, .unset, .unset, .unset, .unset, .unset] [])
      refine own_st (fun _ k => XS.iloadN X0.here hx rfl (hb hby at_34) rfl k) ?_
      show own_Go p e s below _ _ _ T0 (mkF m 35 #[.val (.int p0), .val (.int p1), .val (.int p2), .val (.int p3), .val (.int p4), .val (.int p5), .val (.int (2 : Int32)), .val (.int (2 : Int32)), .val (.int (p0 &&& (2147483647 : Int32))), .unset, .unset, .unset, .unset, .unset, .unset, .unset, .unset, .unset, .unset] [(.int p1)])
      refine own_st (X0.ldcInt hx hown (mvT hZ (hw _ (List.mem_of_getElem? (i := 0) rfl))) (g := (mkF m 35 #[.val (.int p0), .val (.int p1), .val (.int p2), .val (.int p3), .val (.int p4), .val (.int p5), .val (.int (2 : Int32)), .val (.int (2 : Int32)), .val (.int (p0 &&& (2147483647 : Int32))), .unset, .unset, .unset, .unset, .unset, .unset, .unset, .unset, .unset, .unset] [(.int p1)])) rfl (hb hby at_35)) ?_
      show own_Go p e s below _ _ _ T0 (mkF m 37 #[.val (.int p0), .val (.int p1), .val (.int p2), .val (.int p3), .val (.int p4), .val (.int p5), .val (.int (2 : Int32)), .val (.int (2 : Int32)), .val (.int (p0 &&& (2147483647 : Int32))), .unset, .unset, .unset, .unset, .unset, .unset, .unset, .unset, .unset, .unset] [(.int (2147483647 : Int32)), (.int p1)])
      refine own_st (fun _ k => XS.iand X0.here hx rfl (hb hby at_37) rfl k) ?_
      show own_Go p e s below _ _ _ T0 (mkF m 38 #[.val (.int p0), .val (.int p1), .val (.int p2), .val (.int p3), .val (.int p4), .val (.int p5), .val (.int (2 : Int32)), .val (.int (2 : Int32)), .val (.int (p0 &&& (2147483647 : Int32))), .unset, .unset, .unset, .unset, .unset, .unset, .unset, .unset, .unset, .unset] [(.int (p1 &&& (2147483647 : Int32)))])
      refine own_st (fun _ k => XS.istore X0.here hx rfl (hb hby at_38) rfl (l' := #[.val (.int p0), .val (.int p1), .val (.int p2), .val (.int p3), .val (.int p4), .val (.int p5), .val (.int (2 : Int32)), .val (.int (2 : Int32)), .val (.int (p0 &&& (2147483647 : Int32))), .val (.int (p1 &&& (2147483647 : Int32))), .unset, .unset, .unset, .unset, .unset, .unset, .unset, .unset, .unset]) rfl k) ?_
      show own_Go p e s below _ _ _ T0 (mkF m 40 #[.val (.int p0), .val (.int p1), .val (.int p2), .val (.int p3), .val (.int p4), .val (.int p5), .val (.int (2 : Int32)), .val (.int (2 : Int32)), .val (.int (p0 &&& (2147483647 : Int32))), .val (.int (p1 &&& (2147483647 : Int32))), .unset, .unset, .unset, .unset, .unset, .unset, .unset, .unset, .unset] [])
      refine own_st (fun _ k => XS.iloadN X0.here hx rfl (hb hby at_40) rfl k) ?_
      show own_Go p e s below _ _ _ T0 (mkF m 41 #[.val (.int p0), .val (.int p1), .val (.int p2), .val (.int p3), .val (.int p4), .val (.int p5), .val (.int (2 : Int32)), .val (.int (2 : Int32)), .val (.int (p0 &&& (2147483647 : Int32))), .val (.int (p1 &&& (2147483647 : Int32))), .unset, .unset, .unset, .unset, .unset, .unset, .unset, .unset, .unset] [(.int p2)])
      refine own_st (X0.ldcInt hx hown (mvT hZ (hw _ (List.mem_of_getElem? (i := 0) rfl))) (g := (mkF m 41 #[.val (.int p0), .val (.int p1), .val (.int p2), .val (.int p3), .val (.int p4), .val (.int p5), .val (.int (2 : Int32)), .val (.int (2 : Int32)), .val (.int (p0 &&& (2147483647 : Int32))), .val (.int (p1 &&& (2147483647 : Int32))), .unset, .unset, .unset, .unset, .unset, .unset, .unset, .unset, .unset] [(.int p2)])) rfl (hb hby at_41)) ?_
      show own_Go p e s below _ _ _ T0 (mkF m 43 #[.val (.int p0), .val (.int p1), .val (.int p2), .val (.int p3), .val (.int p4), .val (.int p5), .val (.int (2 : Int32)), .val (.int (2 : Int32)), .val (.int (p0 &&& (2147483647 : Int32))), .val (.int (p1 &&& (2147483647 : Int32))), .unset, .unset, .unset, .unset, .unset, .unset, .unset, .unset, .unset] [(.int (2147483647 : Int32)), (.int p2)])
      refine own_st (fun _ k => XS.iand X0.here hx rfl (hb hby at_43) rfl k) ?_
      show own_Go p e s below _ _ _ T0 (mkF m 44 #[.val (.int p0), .val (.int p1), .val (.int p2), .val (.int p3), .val (.int p4), .val (.int p5), .val (.int (2 : Int32)), .val (.int (2 : Int32)), .val (.int (p0 &&& (2147483647 : Int32))), .val (.int (p1 &&& (2147483647 : Int32))), .unset, .unset, .unset, .unset, .unset, .unset, .unset, .unset, .unset] [(.int (p2 &&& (2147483647 : Int32)))])
      refine own_st (fun _ k => XS.istore X0.here hx rfl (hb hby at_44) rfl (l' := #[.val (.int p0), .val (.int p1), .val (.int p2), .val (.int p3), .val (.int p4), .val (.int p5), .val (.int (2 : Int32)), .val (.int (2 : Int32)), .val (.int (p0 &&& (2147483647 : Int32))), .val (.int (p1 &&& (2147483647 : Int32))), .val (.int (p2 &&& (2147483647 : Int32))), .unset, .unset, .unset, .unset, .unset, .unset, .unset, .unset]) rfl k) ?_
      show own_Go p e s below _ _ _ T0 (mkF m 46 #[.val (.int p0), .val (.int p1), .val (.int p2), .val (.int p3), .val (.int p4), .val (.int p5), .val (.int (2 : Int32)), .val (.int (2 : Int32)), .val (.int (p0 &&& (2147483647 : Int32))), .val (.int (p1 &&& (2147483647 : Int32))), .val (.int (p2 &&& (2147483647 : Int32))), .unset, .unset, .unset, .unset, .unset, .unset, .unset, .unset] [])
      refine own_st (fun _ k => XS.iloadN X0.here hx rfl (hb hby at_46) rfl k) ?_
      show own_Go p e s below _ _ _ T0 (mkF m 47 #[.val (.int p0), .val (.int p1), .val (.int p2), .val (.int p3), .val (.int p4), .val (.int p5), .val (.int (2 : Int32)), .val (.int (2 : Int32)), .val (.int (p0 &&& (2147483647 : Int32))), .val (.int (p1 &&& (2147483647 : Int32))), .val (.int (p2 &&& (2147483647 : Int32))), .unset, .unset, .unset, .unset, .unset, .unset, .unset, .unset] [(.int p3)])
      refine own_st (X0.ldcInt hx hown (mvT hZ (hw _ (List.mem_of_getElem? (i := 0) rfl))) (g := (mkF m 47 #[.val (.int p0), .val (.int p1), .val (.int p2), .val (.int p3), .val (.int p4), .val (.int p5), .val (.int (2 : Int32)), .val (.int (2 : Int32)), .val (.int (p0 &&& (2147483647 : Int32))), .val (.int (p1 &&& (2147483647 : Int32))), .val (.int (p2 &&& (2147483647 : Int32))), .unset, .unset, .unset, .unset, .unset, .unset, .unset, .unset] [(.int p3)])) rfl (hb hby at_47)) ?_
      show own_Go p e s below _ _ _ T0 (mkF m 49 #[.val (.int p0), .val (.int p1), .val (.int p2), .val (.int p3), .val (.int p4), .val (.int p5), .val (.int (2 : Int32)), .val (.int (2 : Int32)), .val (.int (p0 &&& (2147483647 : Int32))), .val (.int (p1 &&& (2147483647 : Int32))), .val (.int (p2 &&& (2147483647 : Int32))), .unset, .unset, .unset, .unset, .unset, .unset, .unset, .unset] [(.int (2147483647 : Int32)), (.int p3)])
      refine own_st (fun _ k => XS.iand X0.here hx rfl (hb hby at_49) rfl k) ?_
      show own_Go p e s below _ _ _ T0 (mkF m 50 #[.val (.int p0), .val (.int p1), .val (.int p2), .val (.int p3), .val (.int p4), .val (.int p5), .val (.int (2 : Int32)), .val (.int (2 : Int32)), .val (.int (p0 &&& (2147483647 : Int32))), .val (.int (p1 &&& (2147483647 : Int32))), .val (.int (p2 &&& (2147483647 : Int32))), .unset, .unset, .unset, .unset, .unset, .unset, .unset, .unset] [(.int (p3 &&& (2147483647 : Int32)))])
      refine own_st (fun _ k => XS.istore X0.here hx rfl (hb hby at_50) rfl (l' := #[.val (.int p0), .val (.int p1), .val (.int p2), .val (.int p3), .val (.int p4), .val (.int p5), .val (.int (2 : Int32)), .val (.int (2 : Int32)), .val (.int (p0 &&& (2147483647 : Int32))), .val (.int (p1 &&& (2147483647 : Int32))), .val (.int (p2 &&& (2147483647 : Int32))), .val (.int (p3 &&& (2147483647 : Int32))), .unset, .unset, .unset, .unset, .unset, .unset, .unset]) rfl k) ?_
      show own_Go p e s below _ _ _ T0 (mkF m 52 #[.val (.int p0), .val (.int p1), .val (.int p2), .val (.int p3), .val (.int p4), .val (.int p5), .val (.int (2 : Int32)), .val (.int (2 : Int32)), .val (.int (p0 &&& (2147483647 : Int32))), .val (.int (p1 &&& (2147483647 : Int32))), .val (.int (p2 &&& (2147483647 : Int32))), .val (.int (p3 &&& (2147483647 : Int32))), .unset, .unset, .unset, .unset, .unset, .unset, .unset] [])
      refine own_st (fun _ k => XS.iload X0.here hx rfl (hb hby at_52) rfl k) ?_
      show own_Go p e s below _ _ _ T0 (mkF m 54 #[.val (.int p0), .val (.int p1), .val (.int p2), .val (.int p3), .val (.int p4), .val (.int p5), .val (.int (2 : Int32)), .val (.int (2 : Int32)), .val (.int (p0 &&& (2147483647 : Int32))), .val (.int (p1 &&& (2147483647 : Int32))), .val (.int (p2 &&& (2147483647 : Int32))), .val (.int (p3 &&& (2147483647 : Int32))), .unset, .unset, .unset, .unset, .unset, .unset, .unset] [(.int p4)])
      refine own_st (X0.ldcInt hx hown (mvT hZ (hw _ (List.mem_of_getElem? (i := 0) rfl))) (g := (mkF m 54 #[.val (.int p0), .val (.int p1), .val (.int p2), .val (.int p3), .val (.int p4), .val (.int p5), .val (.int (2 : Int32)), .val (.int (2 : Int32)), .val (.int (p0 &&& (2147483647 : Int32))), .val (.int (p1 &&& (2147483647 : Int32))), .val (.int (p2 &&& (2147483647 : Int32))), .val (.int (p3 &&& (2147483647 : Int32))), .unset, .unset, .unset, .unset, .unset, .unset, .unset] [(.int p4)])) rfl (hb hby at_54)) ?_
      show own_Go p e s below _ _ _ T0 (mkF m 56 #[.val (.int p0), .val (.int p1), .val (.int p2), .val (.int p3), .val (.int p4), .val (.int p5), .val (.int (2 : Int32)), .val (.int (2 : Int32)), .val (.int (p0 &&& (2147483647 : Int32))), .val (.int (p1 &&& (2147483647 : Int32))), .val (.int (p2 &&& (2147483647 : Int32))), .val (.int (p3 &&& (2147483647 : Int32))), .unset, .unset, .unset, .unset, .unset, .unset, .unset] [(.int (2147483647 : Int32)), (.int p4)])
      refine own_st (fun _ k => XS.iand X0.here hx rfl (hb hby at_56) rfl k) ?_
      show own_Go p e s below _ _ _ T0 (mkF m 57 #[.val (.int p0), .val (.int p1), .val (.int p2), .val (.int p3), .val (.int p4), .val (.int p5), .val (.int (2 : Int32)), .val (.int (2 : Int32)), .val (.int (p0 &&& (2147483647 : Int32))), .val (.int (p1 &&& (2147483647 : Int32))), .val (.int (p2 &&& (2147483647 : Int32))), .val (.int (p3 &&& (2147483647 : Int32))), .unset, .unset, .unset, .unset, .unset, .unset, .unset] [(.int (p4 &&& (2147483647 : Int32)))])
      refine own_st (fun _ k => XS.istore X0.here hx rfl (hb hby at_57) rfl (l' := #[.val (.int p0), .val (.int p1), .val (.int p2), .val (.int p3), .val (.int p4), .val (.int p5), .val (.int (2 : Int32)), .val (.int (2 : Int32)), .val (.int (p0 &&& (2147483647 : Int32))), .val (.int (p1 &&& (2147483647 : Int32))), .val (.int (p2 &&& (2147483647 : Int32))), .val (.int (p3 &&& (2147483647 : Int32))), .val (.int (p4 &&& (2147483647 : Int32))), .unset, .unset, .unset, .unset, .unset, .unset]) rfl k) ?_
      show own_Go p e s below _ _ _ T0 (mkF m 59 #[.val (.int p0), .val (.int p1), .val (.int p2), .val (.int p3), .val (.int p4), .val (.int p5), .val (.int (2 : Int32)), .val (.int (2 : Int32)), .val (.int (p0 &&& (2147483647 : Int32))), .val (.int (p1 &&& (2147483647 : Int32))), .val (.int (p2 &&& (2147483647 : Int32))), .val (.int (p3 &&& (2147483647 : Int32))), .val (.int (p4 &&& (2147483647 : Int32))), .unset, .unset, .unset, .unset, .unset, .unset] [])
      refine own_st (fun _ k => XS.iload X0.here hx rfl (hb hby at_59) rfl k) ?_
      show own_Go p e s below _ _ _ T0 (mkF m 61 #[.val (.int p0), .val (.int p1), .val (.int p2), .val (.int p3), .val (.int p4), .val (.int p5), .val (.int (2 : Int32)), .val (.int (2 : Int32)), .val (.int (p0 &&& (2147483647 : Int32))), .val (.int (p1 &&& (2147483647 : Int32))), .val (.int (p2 &&& (2147483647 : Int32))), .val (.int (p3 &&& (2147483647 : Int32))), .val (.int (p4 &&& (2147483647 : Int32))), .unset, .unset, .unset, .unset, .unset, .unset] [(.int p5)])
      refine own_st (X0.ldcInt hx hown (mvT hZ (hw _ (List.mem_of_getElem? (i := 0) rfl))) (g := (mkF m 61 #[.val (.int p0), .val (.int p1), .val (.int p2), .val (.int p3), .val (.int p4), .val (.int p5), .val (.int (2 : Int32)), .val (.int (2 : Int32)), .val (.int (p0 &&& (2147483647 : Int32))), .val (.int (p1 &&& (2147483647 : Int32))), .val (.int (p2 &&& (2147483647 : Int32))), .val (.int (p3 &&& (2147483647 : Int32))), .val (.int (p4 &&& (2147483647 : Int32))), .unset, .unset, .unset, .unset, .unset, .unset] [(.int p5)])) rfl (hb hby at_61)) ?_
      show own_Go p e s below _ _ _ T0 (mkF m 63 #[.val (.int p0), .val (.int p1), .val (.int p2), .val (.int p3), .val (.int p4), .val (.int p5), .val (.int (2 : Int32)), .val (.int (2 : Int32)), .val (.int (p0 &&& (2147483647 : Int32))), .val (.int (p1 &&& (2147483647 : Int32))), .val (.int (p2 &&& (2147483647 : Int32))), .val (.int (p3 &&& (2147483647 : Int32))), .val (.int (p4 &&& (2147483647 : Int32))), .unset, .unset, .unset, .unset, .unset, .unset] [(.int (2147483647 : Int32)), (.int p5)])
      refine own_st (fun _ k => XS.iand X0.here hx rfl (hb hby at_63) rfl k) ?_
      show own_Go p e s below _ _ _ T0 (mkF m 64 #[.val (.int p0), .val (.int p1), .val (.int p2), .val (.int p3), .val (.int p4), .val (.int p5), .val (.int (2 : Int32)), .val (.int (2 : Int32)), .val (.int (p0 &&& (2147483647 : Int32))), .val (.int (p1 &&& (2147483647 : Int32))), .val (.int (p2 &&& (2147483647 : Int32))), .val (.int (p3 &&& (2147483647 : Int32))), .val (.int (p4 &&& (2147483647 : Int32))), .unset, .unset, .unset, .unset, .unset, .unset] [(.int (p5 &&& (2147483647 : Int32)))])
      refine own_st (fun _ k => XS.istore X0.here hx rfl (hb hby at_64) rfl (l' := #[.val (.int p0), .val (.int p1), .val (.int p2), .val (.int p3), .val (.int p4), .val (.int p5), .val (.int (2 : Int32)), .val (.int (2 : Int32)), .val (.int (p0 &&& (2147483647 : Int32))), .val (.int (p1 &&& (2147483647 : Int32))), .val (.int (p2 &&& (2147483647 : Int32))), .val (.int (p3 &&& (2147483647 : Int32))), .val (.int (p4 &&& (2147483647 : Int32))), .val (.int (p5 &&& (2147483647 : Int32))), .unset, .unset, .unset, .unset, .unset]) rfl k) ?_
      show own_Go p e s below _ _ _ T0 (mkF m 66 #[.val (.int p0), .val (.int p1), .val (.int p2), .val (.int p3), .val (.int p4), .val (.int p5), .val (.int (2 : Int32)), .val (.int (2 : Int32)), .val (.int (p0 &&& (2147483647 : Int32))), .val (.int (p1 &&& (2147483647 : Int32))), .val (.int (p2 &&& (2147483647 : Int32))), .val (.int (p3 &&& (2147483647 : Int32))), .val (.int (p4 &&& (2147483647 : Int32))), .val (.int (p5 &&& (2147483647 : Int32))), .unset, .unset, .unset, .unset, .unset] [])
      obtain ⟨x0, qx0⟩ : ∃ z, z = (p0 &&& (2147483647 : Int32)) := ⟨_, rfl⟩
      rw [← qx0]
      have nx0 : ¬ x0 < 0 := qx0 ▸ own_nn _
      obtain ⟨x1, qx1⟩ : ∃ z, z = (p1 &&& (2147483647 : Int32)) := ⟨_, rfl⟩
      rw [← qx1]
      have nx1 : ¬ x1 < 0 := qx1 ▸ own_nn _
      obtain ⟨x2, qx2⟩ : ∃ z, z = (p2 &&& (2147483647 : Int32)) := ⟨_, rfl⟩
      rw [← qx2]
      have nx2 : ¬ x2 < 0 := qx2 ▸ own_nn _
      obtain ⟨y0, qy0⟩ : ∃ z, z = (p3 &&& (2147483647 : Int32)) := ⟨_, rfl⟩
      rw [← qy0]
      have ny0 : ¬ y0 < 0 := qy0 ▸ own_nn _
      obtain ⟨y1, qy1⟩ : ∃ z, z = (p4 &&& (2147483647 : Int32)) := ⟨_, rfl⟩
      rw [← qy1]
      have ny1 : ¬ y1 < 0 := qy1 ▸ own_nn _
      obtain ⟨y2, qy2⟩ : ∃ z, z = (p5 &&& (2147483647 : Int32)) := ⟨_, rfl⟩
      rw [← qy2]
      have ny2 : ¬ y2 < 0 := qy2 ▸ own_nn _
      show own_Go p e s below _ _ _ T0 (mkF m 66 #[.val (.int p0), .val (.int p1), .val (.int p2), .val (.int p3), .val (.int p4), .val (.int p5), .val (.int (2 : Int32)), .val (.int (2 : Int32)), .val (.int x0), .val (.int x1), .val (.int x2), .val (.int y0), .val (.int y1), .val (.int y2), .unset, .unset, .unset, .unset, .unset] [])
      refine own_st (fun _ k => XS.iload X0.here hx rfl (hb hby at_66) rfl k) ?_
      show own_Go p e s below _ _ _ T0 (mkF m 68 #[.val (.int p0), .val (.int p1), .val (.int p2), .val (.int p3), .val (.int p4), .val (.int p5), .val (.int (2 : Int32)), .val (.int (2 : Int32)), .val (.int x0), .val (.int x1), .val (.int x2), .val (.int y0), .val (.int y1), .val (.int y2), .unset, .unset, .unset, .unset, .unset] [(.int (2 : Int32))])
      obtain ⟨T151, h151, k151, X151, e151, E151, A151, Ex151, st151⟩ := newPE X0 hx hZ (hw _ (List.mem_of_getElem? (i := 1) rfl)) e0 (g := (mkF m 68 #[.val (.int p0), .val (.int p1), .val (.int p2), .val (.int p3), .val (.int p4), .val (.int p5), .val (.int (2 : Int32)), .val (.int (2 : Int32)), .val (.int x0), .val (.int x1), .val (.int x2), .val (.int y0), .val (.int y1), .val (.int y2), .unset, .unset, .unset, .unset, .unset] [(.int (2 : Int32))])) rfl (hb hby at_68) rfl (by decide) (cap := 2) (by decide) (by decide) (by decide) (by decide) (ad := "[I") (by decide)
      obtain ⟨ar, g151⟩ : ∃ z, z = h0.size := ⟨_, rfl⟩
      rw [← g151] at A151 Ex151 st151
      have g_ar : n0 ≤ ar := Nat.le_trans Z0 (Nat.le_of_eq g151.symm)
      have Z152 := Nat.le_trans Z0 E151.1
      have V_ar : Arv Z h151 ar k151 .int (2 : Int32) [(.int (0 : Int32)), (.int (0 : Int32))] (.int (0 : Int32)) := (Arv.new A151 (by decide)).pad (pad_rep [] (.int (0 : Int32)) 2)
      have E_ar := Ex151
      refine own_st st151 ?_
      show own_Go p e s below _ _ _ T151 (mkF m 70 #[.val (.int p0), .val (.int p1), .val (.int p2), .val (.int p3), .val (.int p4), .val (.int p5), .val (.int (2 : Int32)), .val (.int (2 : Int32)), .val (.int x0), .val (.int x1), .val (.int x2), .val (.int y0), .val (.int y1), .val (.int y2), .unset, .unset, .unset, .unset, .unset] [(.ref ar)])
      refine own_st (fun _ k => XS.astore X151.here hx rfl (hb hby at_70) rfl rfl (l' := #[.val (.int p0), .val (.int p1), .val (.int p2), .val (.int p3), .val (.int p4), .val (.int p5), .val (.int (2 : Int32)), .val (.int (2 : Int32)), .val (.int x0), .val (.int x1), .val (.int x2), .val (.int y0), .val (.int y1), .val (.int y2), .val (.ref ar), .unset, .unset, .unset, .unset]) rfl k) ?_
      show own_Go p e s below _ _ _ T151 (mkF m 72 #[.val (.int p0), .val (.int p1), .val (.int p2), .val (.int p3), .val (.int p4), .val (.int p5), .val (.int (2 : Int32)), .val (.int (2 : Int32)), .val (.int x0), .val (.int x1), .val (.int x2), .val (.int y0), .val (.int y1), .val (.int y2), .val (.ref ar), .unset, .unset, .unset, .unset] [])
      refine own_st (fun _ k => XS.iload X151.here hx rfl (hb hby at_72) rfl k) ?_
      show own_Go p e s below _ _ _ T151 (mkF m 74 #[.val (.int p0), .val (.int p1), .val (.int p2), .val (.int p3), .val (.int p4), .val (.int p5), .val (.int (2 : Int32)), .val (.int (2 : Int32)), .val (.int x0), .val (.int x1), .val (.int x2), .val (.int y0), .val (.int y1), .val (.int y2), .val (.ref ar), .unset, .unset, .unset, .unset] [(.int (2 : Int32))])
      refine own_st (fun _ k => XS.ifNo X151.here hx rfl (hb hby at_74) rfl (by decide) k) ?_
      show own_Go p e s below _ _ _ T151 (mkF m 77 #[.val (.int p0), .val (.int p1), .val (.int p2), .val (.int p3), .val (.int p4), .val (.int p5), .val (.int (2 : Int32)), .val (.int (2 : Int32)), .val (.int x0), .val (.int x1), .val (.int x2), .val (.int y0), .val (.int y1), .val (.int y2), .val (.ref ar), .unset, .unset, .unset, .unset] [])
      refine own_st (fun _ k => XS.aload X151.here hx rfl (hb hby at_77) rfl rfl k) ?_
      show own_Go p e s below _ _ _ T151 (mkF m 79 #[.val (.int p0), .val (.int p1), .val (.int p2), .val (.int p3), .val (.int p4), .val (.int p5), .val (.int (2 : Int32)), .val (.int (2 : Int32)), .val (.int x0), .val (.int x1), .val (.int x2), .val (.int y0), .val (.int y1), .val (.int y2), .val (.ref ar), .unset, .unset, .unset, .unset] [(.ref ar)])
      refine own_st (fun _ k => XS.iconst X151.here hx rfl (hb hby at_79) k) ?_
      show own_Go p e s below _ _ _ T151 (mkF m 80 #[.val (.int p0), .val (.int p1), .val (.int p2), .val (.int p3), .val (.int p4), .val (.int p5), .val (.int (2 : Int32)), .val (.int (2 : Int32)), .val (.int x0), .val (.int x1), .val (.int x2), .val (.int y0), .val (.int y1), .val (.int y2), .val (.ref ar), .unset, .unset, .unset, .unset] [(.int (0 : Int32)), (.ref ar)])
      refine own_st (fun _ k => XS.iload X151.here hx rfl (hb hby at_80) rfl k) ?_
      show own_Go p e s below _ _ _ T151 (mkF m 82 #[.val (.int p0), .val (.int p1), .val (.int p2), .val (.int p3), .val (.int p4), .val (.int p5), .val (.int (2 : Int32)), .val (.int (2 : Int32)), .val (.int x0), .val (.int x1), .val (.int x2), .val (.int y0), .val (.int y1), .val (.int y2), .val (.ref ar), .unset, .unset, .unset, .unset] [(.int x0), (.int (0 : Int32)), (.ref ar)])
      obtain ⟨T153, h153, X153, e153, W153, V153, st153⟩ := own_stI X151 hx hZ e151 V_ar (j := (0 : Int32)) ⟨by decide, by decide⟩ (Nat.le_of_ble_eq_true rfl) (g := (mkF m 82 #[.val (.int p0), .val (.int p1), .val (.int p2), .val (.int p3), .val (.int p4), .val (.int p5), .val (.int (2 : Int32)), .val (.int (2 : Int32)), .val (.int x0), .val (.int x1), .val (.int x2), .val (.int y0), .val (.int y1), .val (.int y2), .val (.ref ar), .unset, .unset, .unset, .unset] [(.int x0), (.int (0 : Int32)), (.ref ar)])) rfl rfl (hb hby at_82)
      clear V_ar
      have V_ar : Arv Z h153 ar k151 .int (2 : Int32) [(.int x0), (.int (0 : Int32))] (.int (0 : Int32)) := V153
      replace E_ar := E_ar.wr W153
      have Z154 := Nat.le_trans Z152 (Keep.of_wr W153).1
      have N153 := Fr.snoc X153 N0 g_ar
      refine own_st st153 ?_
      show own_Go p e s below _ _ _ T153 (mkF m 83 #[.val (.int p0), .val (.int p1), .val (.int p2), .val (.int p3), .val (.int p4), .val (.int p5), .val (.int (2 : Int32)), .val (.int (2 : Int32)), .val (.int x0), .val (.int x1), .val (.int x2), .val (.int y0), .val (.int y1), .val (.int y2), .val (.ref ar), .unset, .unset, .unset, .unset] [])
      refine own_st (fun _ k => XS.iload X153.here hx rfl (hb hby at_83) rfl k) ?_
      show own_Go p e s below _ _ _ T153 (mkF m 85 #[.val (.int p0), .val (.int p1), .val (.int p2), .val (.int p3), .val (.int p4), .val (.int p5), .val (.int (2 : Int32)), .val (.int (2 : Int32)), .val (.int x0), .val (.int x1), .val (.int x2), .val (.int y0), .val (.int y1), .val (.int y2), .val (.ref ar), .unset, .unset, .unset, .unset] [(.int (2 : Int32))])
      refine own_st (fun _ k => XS.iconst X153.here hx rfl (hb hby at_85) k) ?_
      show own_Go p e s below _ _ _ T153 (mkF m 86 #[.val (.int p0), .val (.int p1), .val (.int p2), .val (.int p3), .val (.int p4), .val (.int p5), .val (.int (2 : Int32)), .val (.int (2 : Int32)), .val (.int x0), .val (.int x1), .val (.int x2), .val (.int y0), .val (.int y1), .val (.int y2), .val (.ref ar), .unset, .unset, .unset, .unset] [(.int (1 : Int32)), (.int (2 : Int32))])
      refine own_st (fun _ k => XS.icmpNo X153.here hx rfl (hb hby at_86) rfl (by decide) k) ?_
      show own_Go p e s below _ _ _ T153 (mkF m 89 #[.val (.int p0), .val (.int p1), .val (.int p2), .val (.int p3), .val (.int p4), .val (.int p5), .val (.int (2 : Int32)), .val (.int (2 : Int32)), .val (.int x0), .val (.int x1), .val (.int x2), .val (.int y0), .val (.int y1), .val (.int y2), .val (.ref ar), .unset, .unset, .unset, .unset] [])
      refine own_st (fun _ k => XS.aload X153.here hx rfl (hb hby at_89) rfl rfl k) ?_
      show own_Go p e s below _ _ _ T153 (mkF m 91 #[.val (.int p0), .val (.int p1), .val (.int p2), .val (.int p3), .val (.int p4), .val (.int p5), .val (.int (2 : Int32)), .val (.int (2 : Int32)), .val (.int x0), .val (.int x1), .val (.int x2), .val (.int y0), .val (.int y1), .val (.int y2), .val (.ref ar), .unset, .unset, .unset, .unset] [(.ref ar)])
      refine own_st (fun _ k => XS.iconst X153.here hx rfl (hb hby at_91) k) ?_
      show own_Go p e s below _ _ _ T153 (mkF m 92 #[.val (.int p0), .val (.int p1), .val (.int p2), .val (.int p3), .val (.int p4), .val (.int p5), .val (.int (2 : Int32)), .val (.int (2 : Int32)), .val (.int x0), .val (.int x1), .val (.int x2), .val (.int y0), .val (.int y1), .val (.int y2), .val (.ref ar), .unset, .unset, .unset, .unset] [(.int (1 : Int32)), (.ref ar)])
      refine own_st (fun _ k => XS.iload X153.here hx rfl (hb hby at_92) rfl k) ?_
      show own_Go p e s below _ _ _ T153 (mkF m 94 #[.val (.int p0), .val (.int p1), .val (.int p2), .val (.int p3), .val (.int p4), .val (.int p5), .val (.int (2 : Int32)), .val (.int (2 : Int32)), .val (.int x0), .val (.int x1), .val (.int x2), .val (.int y0), .val (.int y1), .val (.int y2), .val (.ref ar), .unset, .unset, .unset, .unset] [(.int x1), (.int (1 : Int32)), (.ref ar)])
      obtain ⟨T155, h155, X155, e155, W155, V155, st155⟩ := own_stI X153 hx hZ e153 V_ar (j := (1 : Int32)) ⟨by decide, by decide⟩ (Nat.le_of_ble_eq_true rfl) (g := (mkF m 94 #[.val (.int p0), .val (.int p1), .val (.int p2), .val (.int p3), .val (.int p4), .val (.int p5), .val (.int (2 : Int32)), .val (.int (2 : Int32)), .val (.int x0), .val (.int x1), .val (.int x2), .val (.int y0), .val (.int y1), .val (.int y2), .val (.ref ar), .unset, .unset, .unset, .unset] [(.int x1), (.int (1 : Int32)), (.ref ar)])) rfl rfl (hb hby at_94)
      clear V_ar
      have V_ar : Arv Z h155 ar k151 .int (2 : Int32) [(.int x0), (.int x1)] (.int (0 : Int32)) := V155
      replace E_ar := E_ar.wr W155
      have Z156 := Nat.le_trans Z154 (Keep.of_wr W155).1
      have N155 := Fr.snoc X155 N153 g_ar
      refine own_st st155 ?_
      show own_Go p e s below _ _ _ T155 (mkF m 95 #[.val (.int p0), .val (.int p1), .val (.int p2), .val (.int p3), .val (.int p4), .val (.int p5), .val (.int (2 : Int32)), .val (.int (2 : Int32)), .val (.int x0), .val (.int x1), .val (.int x2), .val (.int y0), .val (.int y1), .val (.int y2), .val (.ref ar), .unset, .unset, .unset, .unset] [])
      refine own_st (fun _ k => XS.iload X155.here hx rfl (hb hby at_95) rfl k) ?_
      show own_Go p e s below _ _ _ T155 (mkF m 97 #[.val (.int p0), .val (.int p1), .val (.int p2), .val (.int p3), .val (.int p4), .val (.int p5), .val (.int (2 : Int32)), .val (.int (2 : Int32)), .val (.int x0), .val (.int x1), .val (.int x2), .val (.int y0), .val (.int y1), .val (.int y2), .val (.ref ar), .unset, .unset, .unset, .unset] [(.int (2 : Int32))])
      refine own_st (fun _ k => XS.iconst X155.here hx rfl (hb hby at_97) k) ?_
      show own_Go p e s below _ _ _ T155 (mkF m 98 #[.val (.int p0), .val (.int p1), .val (.int p2), .val (.int p3), .val (.int p4), .val (.int p5), .val (.int (2 : Int32)), .val (.int (2 : Int32)), .val (.int x0), .val (.int x1), .val (.int x2), .val (.int y0), .val (.int y1), .val (.int y2), .val (.ref ar), .unset, .unset, .unset, .unset] [(.int (2 : Int32)), (.int (2 : Int32))])
      refine own_st (fun _ k => XS.icmpYes X155.here hx rfl (pc0 := 98) (pc' := 107) rfl (hb hby at_98) rfl (by decide) (by decide) (by decide) k) ?_
      show own_Go p e s below _ _ _ T155 (mkF m 107 #[.val (.int p0), .val (.int p1), .val (.int p2), .val (.int p3), .val (.int p4), .val (.int p5), .val (.int (2 : Int32)), .val (.int (2 : Int32)), .val (.int x0), .val (.int x1), .val (.int x2), .val (.int y0), .val (.int y1), .val (.int y2), .val (.ref ar), .unset, .unset, .unset, .unset] [])
      refine own_st (fun _ k => XS.iload X155.here hx rfl (hb hby at_107) rfl k) ?_
      show own_Go p e s below _ _ _ T155 (mkF m 109 #[.val (.int p0), .val (.int p1), .val (.int p2), .val (.int p3), .val (.int p4), .val (.int p5), .val (.int (2 : Int32)), .val (.int (2 : Int32)), .val (.int x0), .val (.int x1), .val (.int x2), .val (.int y0), .val (.int y1), .val (.int y2), .val (.ref ar), .unset, .unset, .unset, .unset] [(.int (2 : Int32))])
      obtain ⟨T157, h157, k157, X157, e157, E157, A157, Ex157, st157⟩ := newPE X155 hx hZ (hw _ (List.mem_of_getElem? (i := 1) rfl)) e155 (g := (mkF m 109 #[.val (.int p0), .val (.int p1), .val (.int p2), .val (.int p3), .val (.int p4), .val (.int p5), .val (.int (2 : Int32)), .val (.int (2 : Int32)), .val (.int x0), .val (.int x1), .val (.int x2), .val (.int y0), .val (.int y1), .val (.int y2), .val (.ref ar), .unset, .unset, .unset, .unset] [(.int (2 : Int32))])) rfl (hb hby at_109) rfl (by decide) (cap := 2) (by decide) (by decide) (by decide) (by decide) (ad := "[I") (by decide)
      obtain ⟨ao, g157⟩ : ∃ z, z = h155.size := ⟨_, rfl⟩
      rw [← g157] at A157 Ex157 st157
      have g_ao : n0 ≤ ao := Nat.le_trans Z156 (Nat.le_of_eq g157.symm)
      have ne_ar_ao : ar ≠ ao := Nat.ne_of_lt (Nat.lt_of_lt_of_le E_ar.lt (Nat.le_of_eq g157.symm))
      have ne_ao_ar := Ne.symm ne_ar_ao
      replace E_ar := E_ar.ext E157
      replace V_ar := V_ar.ext E157
      have Z158 := Nat.le_trans Z156 E157.1
      have V_ao : Arv Z h157 ao k157 .int (2 : Int32) [(.int (0 : Int32)), (.int (0 : Int32))] (.int (0 : Int32)) := (Arv.new A157 (by decide)).pad (pad_rep [] (.int (0 : Int32)) 2)
      have E_ao := Ex157
      refine own_st st157 ?_
      show own_Go p e s below _ _ _ T157 (mkF m 111 #[.val (.int p0), .val (.int p1), .val (.int p2), .val (.int p3), .val (.int p4), .val (.int p5), .val (.int (2 : Int32)), .val (.int (2 : Int32)), .val (.int x0), .val (.int x1), .val (.int x2), .val (.int y0), .val (.int y1), .val (.int y2), .val (.ref ar), .unset, .unset, .unset, .unset] [(.ref ao)])
      refine own_st (fun _ k => XS.astore X157.here hx rfl (hb hby at_111) rfl rfl (l' := #[.val (.int p0), .val (.int p1), .val (.int p2), .val (.int p3), .val (.int p4), .val (.int p5), .val (.int (2 : Int32)), .val (.int (2 : Int32)), .val (.int x0), .val (.int x1), .val (.int x2), .val (.int y0), .val (.int y1), .val (.int y2), .val (.ref ar), .val (.ref ao), .unset, .unset, .unset]) rfl k) ?_
      show own_Go p e s below _ _ _ T157 (mkF m 113 #[.val (.int p0), .val (.int p1), .val (.int p2), .val (.int p3), .val (.int p4), .val (.int p5), .val (.int (2 : Int32)), .val (.int (2 : Int32)), .val (.int x0), .val (.int x1), .val (.int x2), .val (.int y0), .val (.int y1), .val (.int y2), .val (.ref ar), .val (.ref ao), .unset, .unset, .unset] [])
      refine own_st (fun _ k => XS.iload X157.here hx rfl (hb hby at_113) rfl k) ?_
      show own_Go p e s below _ _ _ T157 (mkF m 115 #[.val (.int p0), .val (.int p1), .val (.int p2), .val (.int p3), .val (.int p4), .val (.int p5), .val (.int (2 : Int32)), .val (.int (2 : Int32)), .val (.int x0), .val (.int x1), .val (.int x2), .val (.int y0), .val (.int y1), .val (.int y2), .val (.ref ar), .val (.ref ao), .unset, .unset, .unset] [(.int (2 : Int32))])
      refine own_st (fun _ k => XS.ifNo X157.here hx rfl (hb hby at_115) rfl (by decide) k) ?_
      show own_Go p e s below _ _ _ T157 (mkF m 118 #[.val (.int p0), .val (.int p1), .val (.int p2), .val (.int p3), .val (.int p4), .val (.int p5), .val (.int (2 : Int32)), .val (.int (2 : Int32)), .val (.int x0), .val (.int x1), .val (.int x2), .val (.int y0), .val (.int y1), .val (.int y2), .val (.ref ar), .val (.ref ao), .unset, .unset, .unset] [])
      refine own_st (fun _ k => XS.aload X157.here hx rfl (hb hby at_118) rfl rfl k) ?_
      show own_Go p e s below _ _ _ T157 (mkF m 120 #[.val (.int p0), .val (.int p1), .val (.int p2), .val (.int p3), .val (.int p4), .val (.int p5), .val (.int (2 : Int32)), .val (.int (2 : Int32)), .val (.int x0), .val (.int x1), .val (.int x2), .val (.int y0), .val (.int y1), .val (.int y2), .val (.ref ar), .val (.ref ao), .unset, .unset, .unset] [(.ref ao)])
      refine own_st (fun _ k => XS.iconst X157.here hx rfl (hb hby at_120) k) ?_
      show own_Go p e s below _ _ _ T157 (mkF m 121 #[.val (.int p0), .val (.int p1), .val (.int p2), .val (.int p3), .val (.int p4), .val (.int p5), .val (.int (2 : Int32)), .val (.int (2 : Int32)), .val (.int x0), .val (.int x1), .val (.int x2), .val (.int y0), .val (.int y1), .val (.int y2), .val (.ref ar), .val (.ref ao), .unset, .unset, .unset] [(.int (0 : Int32)), (.ref ao)])
      refine own_st (fun _ k => XS.iload X157.here hx rfl (hb hby at_121) rfl k) ?_
      show own_Go p e s below _ _ _ T157 (mkF m 123 #[.val (.int p0), .val (.int p1), .val (.int p2), .val (.int p3), .val (.int p4), .val (.int p5), .val (.int (2 : Int32)), .val (.int (2 : Int32)), .val (.int x0), .val (.int x1), .val (.int x2), .val (.int y0), .val (.int y1), .val (.int y2), .val (.ref ar), .val (.ref ao), .unset, .unset, .unset] [(.int y0), (.int (0 : Int32)), (.ref ao)])
      obtain ⟨T159, h159, X159, e159, W159, V159, st159⟩ := own_stI X157 hx hZ e157 V_ao (j := (0 : Int32)) ⟨by decide, by decide⟩ (Nat.le_of_ble_eq_true rfl) (g := (mkF m 123 #[.val (.int p0), .val (.int p1), .val (.int p2), .val (.int p3), .val (.int p4), .val (.int p5), .val (.int (2 : Int32)), .val (.int (2 : Int32)), .val (.int x0), .val (.int x1), .val (.int x2), .val (.int y0), .val (.int y1), .val (.int y2), .val (.ref ar), .val (.ref ao), .unset, .unset, .unset] [(.int y0), (.int (0 : Int32)), (.ref ao)])) rfl rfl (hb hby at_123)
      clear V_ao
      have V_ao : Arv Z h159 ao k157 .int (2 : Int32) [(.int y0), (.int (0 : Int32))] (.int (0 : Int32)) := V159
      replace E_ar := E_ar.wr W159
      replace V_ar := V_ar.other W159 ne_ar_ao
      replace E_ao := E_ao.wr W159
      have Z160 := Nat.le_trans Z158 (Keep.of_wr W159).1
      have N159 := Fr.snoc X159 N155 g_ao
      refine own_st st159 ?_
      show own_Go p e s below _ _ _ T159 (mkF m 124 #[.val (.int p0), .val (.int p1), .val (.int p2), .val (.int p3), .val (.int p4), .val (.int p5), .val (.int (2 : Int32)), .val (.int (2 : Int32)), .val (.int x0), .val (.int x1), .val (.int x2), .val (.int y0), .val (.int y1), .val (.int y2), .val (.ref ar), .val (.ref ao), .unset, .unset, .unset] [])
      refine own_st (fun _ k => XS.iload X159.here hx rfl (hb hby at_124) rfl k) ?_
      show own_Go p e s below _ _ _ T159 (mkF m 126 #[.val (.int p0), .val (.int p1), .val (.int p2), .val (.int p3), .val (.int p4), .val (.int p5), .val (.int (2 : Int32)), .val (.int (2 : Int32)), .val (.int x0), .val (.int x1), .val (.int x2), .val (.int y0), .val (.int y1), .val (.int y2), .val (.ref ar), .val (.ref ao), .unset, .unset, .unset] [(.int (2 : Int32))])
      refine own_st (fun _ k => XS.iconst X159.here hx rfl (hb hby at_126) k) ?_
      show own_Go p e s below _ _ _ T159 (mkF m 127 #[.val (.int p0), .val (.int p1), .val (.int p2), .val (.int p3), .val (.int p4), .val (.int p5), .val (.int (2 : Int32)), .val (.int (2 : Int32)), .val (.int x0), .val (.int x1), .val (.int x2), .val (.int y0), .val (.int y1), .val (.int y2), .val (.ref ar), .val (.ref ao), .unset, .unset, .unset] [(.int (1 : Int32)), (.int (2 : Int32))])
      refine own_st (fun _ k => XS.icmpNo X159.here hx rfl (hb hby at_127) rfl (by decide) k) ?_
      show own_Go p e s below _ _ _ T159 (mkF m 130 #[.val (.int p0), .val (.int p1), .val (.int p2), .val (.int p3), .val (.int p4), .val (.int p5), .val (.int (2 : Int32)), .val (.int (2 : Int32)), .val (.int x0), .val (.int x1), .val (.int x2), .val (.int y0), .val (.int y1), .val (.int y2), .val (.ref ar), .val (.ref ao), .unset, .unset, .unset] [])
      refine own_st (fun _ k => XS.aload X159.here hx rfl (hb hby at_130) rfl rfl k) ?_
      show own_Go p e s below _ _ _ T159 (mkF m 132 #[.val (.int p0), .val (.int p1), .val (.int p2), .val (.int p3), .val (.int p4), .val (.int p5), .val (.int (2 : Int32)), .val (.int (2 : Int32)), .val (.int x0), .val (.int x1), .val (.int x2), .val (.int y0), .val (.int y1), .val (.int y2), .val (.ref ar), .val (.ref ao), .unset, .unset, .unset] [(.ref ao)])
      refine own_st (fun _ k => XS.iconst X159.here hx rfl (hb hby at_132) k) ?_
      show own_Go p e s below _ _ _ T159 (mkF m 133 #[.val (.int p0), .val (.int p1), .val (.int p2), .val (.int p3), .val (.int p4), .val (.int p5), .val (.int (2 : Int32)), .val (.int (2 : Int32)), .val (.int x0), .val (.int x1), .val (.int x2), .val (.int y0), .val (.int y1), .val (.int y2), .val (.ref ar), .val (.ref ao), .unset, .unset, .unset] [(.int (1 : Int32)), (.ref ao)])
      refine own_st (fun _ k => XS.iload X159.here hx rfl (hb hby at_133) rfl k) ?_
      show own_Go p e s below _ _ _ T159 (mkF m 135 #[.val (.int p0), .val (.int p1), .val (.int p2), .val (.int p3), .val (.int p4), .val (.int p5), .val (.int (2 : Int32)), .val (.int (2 : Int32)), .val (.int x0), .val (.int x1), .val (.int x2), .val (.int y0), .val (.int y1), .val (.int y2), .val (.ref ar), .val (.ref ao), .unset, .unset, .unset] [(.int y1), (.int (1 : Int32)), (.ref ao)])
      obtain ⟨T161, h161, X161, e161, W161, V161, st161⟩ := own_stI X159 hx hZ e159 V_ao (j := (1 : Int32)) ⟨by decide, by decide⟩ (Nat.le_of_ble_eq_true rfl) (g := (mkF m 135 #[.val (.int p0), .val (.int p1), .val (.int p2), .val (.int p3), .val (.int p4), .val (.int p5), .val (.int (2 : Int32)), .val (.int (2 : Int32)), .val (.int x0), .val (.int x1), .val (.int x2), .val (.int y0), .val (.int y1), .val (.int y2), .val (.ref ar), .val (.ref ao), .unset, .unset, .unset] [(.int y1), (.int (1 : Int32)), (.ref ao)])) rfl rfl (hb hby at_135)
      clear V_ao
      have V_ao : Arv Z h161 ao k157 .int (2 : Int32) [(.int y0), (.int y1)] (.int (0 : Int32)) := V161
      replace E_ar := E_ar.wr W161
      replace V_ar := V_ar.other W161 ne_ar_ao
      replace E_ao := E_ao.wr W161
      have Z162 := Nat.le_trans Z160 (Keep.of_wr W161).1
      have N161 := Fr.snoc X161 N159 g_ao
      refine own_st st161 ?_
      show own_Go p e s below _ _ _ T161 (mkF m 136 #[.val (.int p0), .val (.int p1), .val (.int p2), .val (.int p3), .val (.int p4), .val (.int p5), .val (.int (2 : Int32)), .val (.int (2 : Int32)), .val (.int x0), .val (.int x1), .val (.int x2), .val (.int y0), .val (.int y1), .val (.int y2), .val (.ref ar), .val (.ref ao), .unset, .unset, .unset] [])
      refine own_st (fun _ k => XS.iload X161.here hx rfl (hb hby at_136) rfl k) ?_
      show own_Go p e s below _ _ _ T161 (mkF m 138 #[.val (.int p0), .val (.int p1), .val (.int p2), .val (.int p3), .val (.int p4), .val (.int p5), .val (.int (2 : Int32)), .val (.int (2 : Int32)), .val (.int x0), .val (.int x1), .val (.int x2), .val (.int y0), .val (.int y1), .val (.int y2), .val (.ref ar), .val (.ref ao), .unset, .unset, .unset] [(.int (2 : Int32))])
      refine own_st (fun _ k => XS.iconst X161.here hx rfl (hb hby at_138) k) ?_
      show own_Go p e s below _ _ _ T161 (mkF m 139 #[.val (.int p0), .val (.int p1), .val (.int p2), .val (.int p3), .val (.int p4), .val (.int p5), .val (.int (2 : Int32)), .val (.int (2 : Int32)), .val (.int x0), .val (.int x1), .val (.int x2), .val (.int y0), .val (.int y1), .val (.int y2), .val (.ref ar), .val (.ref ao), .unset, .unset, .unset] [(.int (2 : Int32)), (.int (2 : Int32))])
      refine own_st (fun _ k => XS.icmpYes X161.here hx rfl (pc0 := 139) (pc' := 148) rfl (hb hby at_139) rfl (by decide) (by decide) (by decide) k) ?_
      show own_Go p e s below _ _ _ T161 (mkF m 148 #[.val (.int p0), .val (.int p1), .val (.int p2), .val (.int p3), .val (.int p4), .val (.int p5), .val (.int (2 : Int32)), .val (.int (2 : Int32)), .val (.int x0), .val (.int x1), .val (.int x2), .val (.int y0), .val (.int y1), .val (.int y2), .val (.ref ar), .val (.ref ao), .unset, .unset, .unset] [])
      obtain ⟨T163, h163, X163, e163, E163, A163, D163, -, st163⟩ := newO X161 hx hZ hown (hw _ (List.mem_of_getElem? (i := 2) rfl)) (hw _ (List.mem_of_getElem? (i := 3) rfl)) (hw _ (List.mem_of_getElem? (i := 4) rfl)) e161 (g := (mkF m 148 #[.val (.int p0), .val (.int p1), .val (.int p2), .val (.int p3), .val (.int p4), .val (.int p5), .val (.int (2 : Int32)), .val (.int (2 : Int32)), .val (.int x0), .val (.int x1), .val (.int x2), .val (.int y0), .val (.int y1), .val (.int y2), .val (.ref ar), .val (.ref ao), .unset, .unset, .unset] [])) rfl (hb hby at_148) (by decide) (by decide)
      obtain ⟨bt, g163⟩ : ∃ z, z = h161.size := ⟨_, rfl⟩
      rw [← g163] at A163 D163 st163
      have g_bt : n0 ≤ bt := Nat.le_trans Z162 (Nat.le_of_eq g163.symm)
      have ne_ao_bt : ao ≠ bt := Nat.ne_of_lt (Nat.lt_of_lt_of_le E_ao.lt (Nat.le_of_eq g163.symm))
      have ne_bt_ao := Ne.symm ne_ao_bt
      have ne_ar_bt : ar ≠ bt := Nat.ne_of_lt (Nat.lt_of_lt_of_le E_ar.lt (Nat.le_of_eq g163.symm))
      have ne_bt_ar := Ne.symm ne_ar_bt
      replace E_ar := E_ar.ext E163
      replace V_ar := V_ar.ext E163
      replace E_ao := E_ao.ext E163
      replace V_ao := V_ao.ext E163
      have Z164 := Nat.le_trans Z162 E163.1
      have E_bt := A163
      have F_levels_bt : Fld Z h163 bt "com/example/hush5/hush5/model/Transformation" "levels" "[I" .null := D163 (Or.inr (hw _ (List.mem_of_getElem? (i := 21) rfl))) (ty := (.array .int)) (by decide)
      refine own_st st163 ?_
      show own_Go p e s below _ _ _ T163 (mkF m 151 #[.val (.int p0), .val (.int p1), .val (.int p2), .val (.int p3), .val (.int p4), .val (.int p5), .val (.int (2 : Int32)), .val (.int (2 : Int32)), .val (.int x0), .val (.int x1), .val (.int x2), .val (.int y0), .val (.int y1), .val (.int y2), .val (.ref ar), .val (.ref ao), .unset, .unset, .unset] [(.ref bt)])
      refine own_st (fun _ k => XS.dup X163.here hx rfl (hb hby at_151) rfl rfl k) ?_
      show own_Go p e s below _ _ _ T163 (mkF m 152 #[.val (.int p0), .val (.int p1), .val (.int p2), .val (.int p3), .val (.int p4), .val (.int p5), .val (.int (2 : Int32)), .val (.int (2 : Int32)), .val (.int x0), .val (.int x1), .val (.int x2), .val (.int y0), .val (.int y1), .val (.int y2), .val (.ref ar), .val (.ref ao), .unset, .unset, .unset] [(.ref bt), (.ref bt)])
      refine own_st (fun _ k => XS.aload X163.here hx rfl (hb hby at_152) rfl rfl k) ?_
      show own_Go p e s below _ _ _ T163 (mkF m 154 #[.val (.int p0), .val (.int p1), .val (.int p2), .val (.int p3), .val (.int p4), .val (.int p5), .val (.int (2 : Int32)), .val (.int (2 : Int32)), .val (.int x0), .val (.int x1), .val (.int x2), .val (.int y0), .val (.int y1), .val (.int y2), .val (.ref ar), .val (.ref ao), .unset, .unset, .unset] [(.ref ar), (.ref bt), (.ref bt)])
      refine own_callN X163 hx hZ (y := (⟨"com/example/hush5/hush5/model/Transformation", "<init>", "([I)V"⟩ : MethodName)) rfl hown (hw _ (List.mem_of_getElem? (i := 5) rfl)) (hw _ (List.mem_of_getElem? (i := 6) rfl)) (hw _ (List.mem_of_getElem? (i := 4) rfl)) (hw _ (List.mem_of_getElem? (i := 7) rfl)) (by decide) e163 (rm1_2 l Z a0 hw [] bt ar k151 x0 x1 h163 n0 Z164 E_bt F_levels_bt V_ar E_ar ne_bt_ar ne_ar_bt g_bt nx0 nx1) 1 (by decide) (by decide) (g := (mkF m 154 #[.val (.int p0), .val (.int p1), .val (.int p2), .val (.int p3), .val (.int p4), .val (.int p5), .val (.int (2 : Int32)), .val (.int (2 : Int32)), .val (.int x0), .val (.int x1), .val (.int x2), .val (.int y0), .val (.int y1), .val (.int y2), .val (.ref ar), .val (.ref ao), .unset, .unset, .unset] [(.ref ar), (.ref bt), (.ref bt)])) rfl (by rw [hml]; rfl) (a := bt) (argsL := [(.ref ar)]) (rest := [(.ref bt)]) pd0 rfl rfl rfl (by show 2 * 0 + _ ≤ _; exact Nat.le_of_eq rfl) (hb hby at_154) (by decide) (by decide) ?_
      intro T165 v165 L165 X165 hQ165
      obtain ⟨dt, rfl, N165q, K165q, y165_0, y165_1, y165_2, y165_3⟩ := hQ165
      have N165 := Fr.app N161 N165q
      replace E_ar := E_ar.keep K165q
      replace V_ar := V_ar.keep K165q (ninS ne_ar_bt nin0)
      replace E_ao := E_ao.keep K165q
      replace V_ao := V_ao.keep K165q (ninS ne_ao_bt nin0)
      replace E_bt := E_bt.keep K165q
      clear F_levels_bt
      have Z166 := Nat.le_trans Z164 K165q.1
      have E_bt := y165_0
      have F_levels_bt := y165_1
      have V_dt := y165_2
      have E_dt := y165_3
      show own_Go p e s below _ _ _ T165 (mkF m 157 #[.val (.int p0), .val (.int p1), .val (.int p2), .val (.int p3), .val (.int p4), .val (.int p5), .val (.int (2 : Int32)), .val (.int (2 : Int32)), .val (.int x0), .val (.int x1), .val (.int x2), .val (.int y0), .val (.int y1), .val (.int y2), .val (.ref ar), .val (.ref ao), .unset, .unset, .unset] [(.ref bt)])
      refine own_st (fun _ k => XS.astore X165.here hx rfl (hb hby at_157) rfl rfl (l' := #[.val (.int p0), .val (.int p1), .val (.int p2), .val (.int p3), .val (.int p4), .val (.int p5), .val (.int (2 : Int32)), .val (.int (2 : Int32)), .val (.int x0), .val (.int x1), .val (.int x2), .val (.int y0), .val (.int y1), .val (.int y2), .val (.ref ar), .val (.ref ao), .val (.ref bt), .unset, .unset]) rfl k) ?_
      show own_Go p e s below _ _ _ T165 (mkF m 159 #[.val (.int p0), .val (.int p1), .val (.int p2), .val (.int p3), .val (.int p4), .val (.int p5), .val (.int (2 : Int32)), .val (.int (2 : Int32)), .val (.int x0), .val (.int x1), .val (.int x2), .val (.int y0), .val (.int y1), .val (.int y2), .val (.ref ar), .val (.ref ao), .val (.ref bt), .unset, .unset] [])
      obtain ⟨T167, h167, X167, e167, E167, A167, D167, -, st167⟩ := newO X165 hx hZ hown (hw _ (List.mem_of_getElem? (i := 2) rfl)) (hw _ (List.mem_of_getElem? (i := 3) rfl)) (hw _ (List.mem_of_getElem? (i := 4) rfl)) rfl (g := (mkF m 159 #[.val (.int p0), .val (.int p1), .val (.int p2), .val (.int p3), .val (.int p4), .val (.int p5), .val (.int (2 : Int32)), .val (.int (2 : Int32)), .val (.int x0), .val (.int x1), .val (.int x2), .val (.int y0), .val (.int y1), .val (.int y2), .val (.ref ar), .val (.ref ao), .val (.ref bt), .unset, .unset] [])) rfl (hb hby at_159) (by decide) (by decide)
      obtain ⟨bu, g167⟩ : ∃ z, z = T165.heap.size := ⟨_, rfl⟩
      rw [← g167] at A167 D167 st167
      have g_bu : n0 ≤ bu := Nat.le_trans Z166 (Nat.le_of_eq g167.symm)
      have ne_ao_bu : ao ≠ bu := Nat.ne_of_lt (Nat.lt_of_lt_of_le E_ao.lt (Nat.le_of_eq g167.symm))
      have ne_bu_ao := Ne.symm ne_ao_bu
      have ne_ar_bu : ar ≠ bu := Nat.ne_of_lt (Nat.lt_of_lt_of_le E_ar.lt (Nat.le_of_eq g167.symm))
      have ne_bu_ar := Ne.symm ne_ar_bu
      have ne_bt_bu : bt ≠ bu := Nat.ne_of_lt (Nat.lt_of_lt_of_le E_bt.lt (Nat.le_of_eq g167.symm))
      have ne_bu_bt := Ne.symm ne_bt_bu
      have ne_dt_bu : dt ≠ bu := Nat.ne_of_lt (Nat.lt_of_lt_of_le V_dt.lt (Nat.le_of_eq g167.symm))
      have ne_bu_dt := Ne.symm ne_dt_bu
      replace E_ar := E_ar.ext E167
      replace V_ar := V_ar.ext E167
      replace E_ao := E_ao.ext E167
      replace V_ao := V_ao.ext E167
      replace E_bt := E_bt.ext E167
      replace F_levels_bt := F_levels_bt.ext E167
      replace V_dt := V_dt.ext E167
      replace E_dt := E_dt.ext E167
      have Z168 := Nat.le_trans Z166 E167.1
      have E_bu := A167
      have F_levels_bu : Fld Z h167 bu "com/example/hush5/hush5/model/Transformation" "levels" "[I" .null := D167 (Or.inr (hw _ (List.mem_of_getElem? (i := 21) rfl))) (ty := (.array .int)) (by decide)
      refine own_st st167 ?_
      show own_Go p e s below _ _ _ T167 (mkF m 162 #[.val (.int p0), .val (.int p1), .val (.int p2), .val (.int p3), .val (.int p4), .val (.int p5), .val (.int (2 : Int32)), .val (.int (2 : Int32)), .val (.int x0), .val (.int x1), .val (.int x2), .val (.int y0), .val (.int y1), .val (.int y2), .val (.ref ar), .val (.ref ao), .val (.ref bt), .unset, .unset] [(.ref bu)])
      refine own_st (fun _ k => XS.dup X167.here hx rfl (hb hby at_162) rfl rfl k) ?_
      show own_Go p e s below _ _ _ T167 (mkF m 163 #[.val (.int p0), .val (.int p1), .val (.int p2), .val (.int p3), .val (.int p4), .val (.int p5), .val (.int (2 : Int32)), .val (.int (2 : Int32)), .val (.int x0), .val (.int x1), .val (.int x2), .val (.int y0), .val (.int y1), .val (.int y2), .val (.ref ar), .val (.ref ao), .val (.ref bt), .unset, .unset] [(.ref bu), (.ref bu)])
      refine own_st (fun _ k => XS.aload X167.here hx rfl (hb hby at_163) rfl rfl k) ?_
      show own_Go p e s below _ _ _ T167 (mkF m 165 #[.val (.int p0), .val (.int p1), .val (.int p2), .val (.int p3), .val (.int p4), .val (.int p5), .val (.int (2 : Int32)), .val (.int (2 : Int32)), .val (.int x0), .val (.int x1), .val (.int x2), .val (.int y0), .val (.int y1), .val (.int y2), .val (.ref ar), .val (.ref ao), .val (.ref bt), .unset, .unset] [(.ref ao), (.ref bu), (.ref bu)])
      refine own_callN X167 hx hZ (y := (⟨"com/example/hush5/hush5/model/Transformation", "<init>", "([I)V"⟩ : MethodName)) rfl hown (hw _ (List.mem_of_getElem? (i := 5) rfl)) (hw _ (List.mem_of_getElem? (i := 6) rfl)) (hw _ (List.mem_of_getElem? (i := 4) rfl)) (hw _ (List.mem_of_getElem? (i := 7) rfl)) (by decide) e167 (rm1_2 l Z a0 hw [] bu ao k157 y0 y1 h167 n0 Z168 E_bu F_levels_bu V_ao E_ao ne_bu_ao ne_ao_bu g_bu ny0 ny1) 1 (by decide) (by decide) (g := (mkF m 165 #[.val (.int p0), .val (.int p1), .val (.int p2), .val (.int p3), .val (.int p4), .val (.int p5), .val (.int (2 : Int32)), .val (.int (2 : Int32)), .val (.int x0), .val (.int x1), .val (.int x2), .val (.int y0), .val (.int y1), .val (.int y2), .val (.ref ar), .val (.ref ao), .val (.ref bt), .unset, .unset] [(.ref ao), (.ref bu), (.ref bu)])) rfl (by rw [hml]; rfl) (a := bu) (argsL := [(.ref ao)]) (rest := [(.ref bu)]) pd0 rfl rfl rfl (by show 2 * 0 + _ ≤ _; exact Nat.le_of_eq rfl) (hb hby at_165) (by decide) (by decide) ?_
      intro T169 v169 L169 X169 hQ169
      obtain ⟨du, rfl, N169q, K169q, y169_0, y169_1, y169_2, y169_3⟩ := hQ169
      have N169 := Fr.app N165 N169q
      replace E_ar := E_ar.keep K169q
      replace V_ar := V_ar.keep K169q (ninS ne_ar_bu nin0)
      replace E_ao := E_ao.keep K169q
      replace V_ao := V_ao.keep K169q (ninS ne_ao_bu nin0)
      replace E_bt := E_bt.keep K169q
      replace F_levels_bt := F_levels_bt.keep K169q (ninS ne_bt_bu nin0)
      replace V_dt := V_dt.keep K169q (ninS ne_dt_bu nin0)
      replace E_dt := E_dt.keep K169q
      replace E_bu := E_bu.keep K169q
      clear F_levels_bu
      have Z170 := Nat.le_trans Z168 K169q.1
      have E_bu := y169_0
      have F_levels_bu := y169_1
      have V_du := y169_2
      have E_du := y169_3
      show own_Go p e s below _ _ _ T169 (mkF m 168 #[.val (.int p0), .val (.int p1), .val (.int p2), .val (.int p3), .val (.int p4), .val (.int p5), .val (.int (2 : Int32)), .val (.int (2 : Int32)), .val (.int x0), .val (.int x1), .val (.int x2), .val (.int y0), .val (.int y1), .val (.int y2), .val (.ref ar), .val (.ref ao), .val (.ref bt), .unset, .unset] [(.ref bu)])
      refine own_st (fun _ k => XS.astore X169.here hx rfl (hb hby at_168) rfl rfl (l' := #[.val (.int p0), .val (.int p1), .val (.int p2), .val (.int p3), .val (.int p4), .val (.int p5), .val (.int (2 : Int32)), .val (.int (2 : Int32)), .val (.int x0), .val (.int x1), .val (.int x2), .val (.int y0), .val (.int y1), .val (.int y2), .val (.ref ar), .val (.ref ao), .val (.ref bt), .val (.ref bu), .unset]) rfl k) ?_
      show own_Go p e s below _ _ _ T169 (mkF m 170 #[.val (.int p0), .val (.int p1), .val (.int p2), .val (.int p3), .val (.int p4), .val (.int p5), .val (.int (2 : Int32)), .val (.int (2 : Int32)), .val (.int x0), .val (.int x1), .val (.int x2), .val (.int y0), .val (.int y1), .val (.int y2), .val (.ref ar), .val (.ref ao), .val (.ref bt), .val (.ref bu), .unset] [])
      refine own_st (fun _ k => XS.iload X169.here hx rfl (hb hby at_170) rfl k) ?_
      show own_Go p e s below _ _ _ T169 (mkF m 172 #[.val (.int p0), .val (.int p1), .val (.int p2), .val (.int p3), .val (.int p4), .val (.int p5), .val (.int (2 : Int32)), .val (.int (2 : Int32)), .val (.int x0), .val (.int x1), .val (.int x2), .val (.int y0), .val (.int y1), .val (.int y2), .val (.ref ar), .val (.ref ao), .val (.ref bt), .val (.ref bu), .unset] [(.int (2 : Int32))])
      refine own_st (fun _ k => XS.iconst X169.here hx rfl (hb hby at_172) k) ?_
      show own_Go p e s below _ _ _ T169 (mkF m 173 #[.val (.int p0), .val (.int p1), .val (.int p2), .val (.int p3), .val (.int p4), .val (.int p5), .val (.int (2 : Int32)), .val (.int (2 : Int32)), .val (.int x0), .val (.int x1), .val (.int x2), .val (.int y0), .val (.int y1), .val (.int y2), .val (.ref ar), .val (.ref ao), .val (.ref bt), .val (.ref bu), .unset] [(.int (1 : Int32)), (.int (2 : Int32))])
      have J214 : ∀  (bz : Int32) (_ : bz = own_b (¬ y0 < x0 ∧ ¬ y1 < x1)), own_Go p e s below (fun (v : Option Value) (h : Heap) (L : List Loc) => v = some (.int 1) ∧ Fr n0 L) 24 128 T169 (mkF m 214 #[.val (.int p0), .val (.int p1), .val (.int p2), .val (.int p3), .val (.int p4), .val (.int p5), .val (.int (2 : Int32)), .val (.int (2 : Int32)), .val (.int x0), .val (.int x1), .val (.int x2), .val (.int y0), .val (.int y1), .val (.int y2), .val (.ref ar), .val (.ref ao), .val (.ref bt), .val (.ref bu), .unset] [(.int bz)]) := by
        rintro _ rfl
        show own_Go p e s below _ _ _ T169 (mkF m 214 #[.val (.int p0), .val (.int p1), .val (.int p2), .val (.int p3), .val (.int p4), .val (.int p5), .val (.int (2 : Int32)), .val (.int (2 : Int32)), .val (.int x0), .val (.int x1), .val (.int x2), .val (.int y0), .val (.int y1), .val (.int y2), .val (.ref ar), .val (.ref ao), .val (.ref bt), .val (.ref bu), .unset] [(.int (own_b (¬ y0 < x0 ∧ ¬ y1 < x1)))])
        refine own_st (fun _ k => XS.istore X169.here hx rfl (hb hby at_214) rfl (l' := #[.val (.int p0), .val (.int p1), .val (.int p2), .val (.int p3), .val (.int p4), .val (.int p5), .val (.int (2 : Int32)), .val (.int (2 : Int32)), .val (.int x0), .val (.int x1), .val (.int x2), .val (.int y0), .val (.int y1), .val (.int y2), .val (.ref ar), .val (.ref ao), .val (.ref bt), .val (.ref bu), .val (.int (own_b (¬ y0 < x0 ∧ ¬ y1 < x1)))]) rfl k) ?_
        show own_Go p e s below _ _ _ T169 (mkF m 216 #[.val (.int p0), .val (.int p1), .val (.int p2), .val (.int p3), .val (.int p4), .val (.int p5), .val (.int (2 : Int32)), .val (.int (2 : Int32)), .val (.int x0), .val (.int x1), .val (.int x2), .val (.int y0), .val (.int y1), .val (.int y2), .val (.ref ar), .val (.ref ao), .val (.ref bt), .val (.ref bu), .val (.int (own_b (¬ y0 < x0 ∧ ¬ y1 < x1)))] [])
        refine own_st (fun _ k => XS.aload X169.here hx rfl (hb hby at_216) rfl rfl k) ?_
        show own_Go p e s below _ _ _ T169 (mkF m 218 #[.val (.int p0), .val (.int p1), .val (.int p2), .val (.int p3), .val (.int p4), .val (.int p5), .val (.int (2 : Int32)), .val (.int (2 : Int32)), .val (.int x0), .val (.int x1), .val (.int x2), .val (.int y0), .val (.int y1), .val (.int y2), .val (.ref ar), .val (.ref ao), .val (.ref bt), .val (.ref bu), .val (.int (own_b (¬ y0 < x0 ∧ ¬ y1 < x1)))] [(.ref bt)])
        refine own_st (fun _ k => XS.aload X169.here hx rfl (hb hby at_218) rfl rfl k) ?_
        show own_Go p e s below _ _ _ T169 (mkF m 220 #[.val (.int p0), .val (.int p1), .val (.int p2), .val (.int p3), .val (.int p4), .val (.int p5), .val (.int (2 : Int32)), .val (.int (2 : Int32)), .val (.int x0), .val (.int x1), .val (.int x2), .val (.int y0), .val (.int y1), .val (.int y2), .val (.ref ar), .val (.ref ao), .val (.ref bt), .val (.ref bu), .val (.int (own_b (¬ y0 < x0 ∧ ¬ y1 < x1)))] [(.ref bu), (.ref bt)])
        refine own_callV X169 hx hZ (y := (⟨"com/example/hush5/hush5/model/Transformation", "liesAtOrBelow", "(Lcom/example/hush5/hush5/model/Transformation;)Z"⟩ : MethodName)) hown (hw _ (List.mem_of_getElem? (i := 22) rfl)) (hw _ (List.mem_of_getElem? (i := 23) rfl)) (hw _ (List.mem_of_getElem? (i := 25) rfl)) (hw _ (List.mem_of_getElem? (i := 24) rfl)) (hw _ (List.mem_of_getElem? (i := 4) rfl)) (hw _ (List.mem_of_getElem? (i := 26) rfl)) (by decide) rfl (rm3_2_2 l Z a0 hw [] bt bu dt du k151 k157 x0 x1 y0 y1 T169.heap n0 Z170 F_levels_bt F_levels_bu V_dt V_du) 0 (by decide) (by decide) E_bt (g := (mkF m 220 #[.val (.int p0), .val (.int p1), .val (.int p2), .val (.int p3), .val (.int p4), .val (.int p5), .val (.int (2 : Int32)), .val (.int (2 : Int32)), .val (.int x0), .val (.int x1), .val (.int x2), .val (.int y0), .val (.int y1), .val (.int y2), .val (.ref ar), .val (.ref ao), .val (.ref bt), .val (.ref bu), .val (.int (own_b (¬ y0 < x0 ∧ ¬ y1 < x1)))] [(.ref bu), (.ref bt)])) rfl (by rw [hml]; rfl) (argsL := [(.ref bu)]) (rest := []) pd1 rfl rfl rfl (by show 2 * 0 + _ ≤ _; exact Nat.le_of_eq rfl) (hb hby at_220) (by decide) (by decide) ?_
        intro T171 v171 L171 X171 hQ171
        obtain ⟨rfl, N171q, e171⟩ := hQ171
        have N171 := Fr.app N169 N171q
        show own_Go p e s below _ _ _ T171 (mkF m 223 #[.val (.int p0), .val (.int p1), .val (.int p2), .val (.int p3), .val (.int p4), .val (.int p5), .val (.int (2 : Int32)), .val (.int (2 : Int32)), .val (.int x0), .val (.int x1), .val (.int x2), .val (.int y0), .val (.int y1), .val (.int y2), .val (.ref ar), .val (.ref ao), .val (.ref bt), .val (.ref bu), .val (.int (own_b (¬ y0 < x0 ∧ ¬ y1 < x1)))] [(.int (own_b (¬ y0 < x0 ∧ ¬ y1 < x1)))])
        refine own_st (fun _ k => XS.iload X171.here hx rfl (hb hby at_223) rfl k) ?_
        show own_Go p e s below _ _ _ T171 (mkF m 225 #[.val (.int p0), .val (.int p1), .val (.int p2), .val (.int p3), .val (.int p4), .val (.int p5), .val (.int (2 : Int32)), .val (.int (2 : Int32)), .val (.int x0), .val (.int x1), .val (.int x2), .val (.int y0), .val (.int y1), .val (.int y2), .val (.ref ar), .val (.ref ao), .val (.ref bt), .val (.ref bu), .val (.int (own_b (¬ y0 < x0 ∧ ¬ y1 < x1)))] [(.int (own_b (¬ y0 < x0 ∧ ¬ y1 < x1))), (.int (own_b (¬ y0 < x0 ∧ ¬ y1 < x1)))])
        refine own_st (fun _ k => XS.icmpNo X171.here hx rfl (hb hby at_225) rfl (teq (rfl : (own_b (¬ y0 < x0 ∧ ¬ y1 < x1)) = (own_b (¬ y0 < x0 ∧ ¬ y1 < x1)))).2 k) ?_
        show own_Go p e s below _ _ _ T171 (mkF m 228 #[.val (.int p0), .val (.int p1), .val (.int p2), .val (.int p3), .val (.int p4), .val (.int p5), .val (.int (2 : Int32)), .val (.int (2 : Int32)), .val (.int x0), .val (.int x1), .val (.int x2), .val (.int y0), .val (.int y1), .val (.int y2), .val (.ref ar), .val (.ref ao), .val (.ref bt), .val (.ref bu), .val (.int (own_b (¬ y0 < x0 ∧ ¬ y1 < x1)))] [])
        refine own_st (fun _ k => XS.iconst X171.here hx rfl (hb hby at_228) k) ?_
        show own_Go p e s below _ _ _ T171 (mkF m 229 #[.val (.int p0), .val (.int p1), .val (.int p2), .val (.int p3), .val (.int p4), .val (.int p5), .val (.int (2 : Int32)), .val (.int (2 : Int32)), .val (.int x0), .val (.int x1), .val (.int x2), .val (.int y0), .val (.int y1), .val (.int y2), .val (.ref ar), .val (.ref ao), .val (.ref bt), .val (.ref bu), .val (.int (own_b (¬ y0 < x0 ∧ ¬ y1 < x1)))] [(.int (1 : Int32))])
        refine own_st (fun _ k => XS.goto X171.here hx rfl (pc0 := 229) (pc' := 233) rfl (hb hby at_229) (by decide) (by decide) k) ?_
        show own_Go p e s below _ _ _ T171 (mkF m 233 #[.val (.int p0), .val (.int p1), .val (.int p2), .val (.int p3), .val (.int p4), .val (.int p5), .val (.int (2 : Int32)), .val (.int (2 : Int32)), .val (.int x0), .val (.int x1), .val (.int x2), .val (.int y0), .val (.int y1), .val (.int y2), .val (.ref ar), .val (.ref ao), .val (.ref bt), .val (.ref bu), .val (.int (own_b (¬ y0 < x0 ∧ ¬ y1 < x1)))] [(.int (1 : Int32))])
        exact own_retN X171 hx hlk (t := .boolean) hret (by simp) (hb hby at_233) (z' := (1 : Int32)) rfl (by decide) (by decide) ⟨rfl, N171⟩
      refine own_st (fun _ k => XS.icmpNo X169.here hx rfl (hb hby at_173) rfl (by decide) k) ?_
      show own_Go p e s below _ _ _ T169 (mkF m 176 #[.val (.int p0), .val (.int p1), .val (.int p2), .val (.int p3), .val (.int p4), .val (.int p5), .val (.int (2 : Int32)), .val (.int (2 : Int32)), .val (.int x0), .val (.int x1), .val (.int x2), .val (.int y0), .val (.int y1), .val (.int y2), .val (.ref ar), .val (.ref ao), .val (.ref bt), .val (.ref bu), .unset] [])
      refine own_st (fun _ k => XS.iload X169.here hx rfl (hb hby at_176) rfl k) ?_
      show own_Go p e s below _ _ _ T169 (mkF m 178 #[.val (.int p0), .val (.int p1), .val (.int p2), .val (.int p3), .val (.int p4), .val (.int p5), .val (.int (2 : Int32)), .val (.int (2 : Int32)), .val (.int x0), .val (.int x1), .val (.int x2), .val (.int y0), .val (.int y1), .val (.int y2), .val (.ref ar), .val (.ref ao), .val (.ref bt), .val (.ref bu), .unset] [(.int x0)])
      refine own_st (fun _ k => XS.iload X169.here hx rfl (hb hby at_178) rfl k) ?_
      show own_Go p e s below _ _ _ T169 (mkF m 180 #[.val (.int p0), .val (.int p1), .val (.int p2), .val (.int p3), .val (.int p4), .val (.int p5), .val (.int (2 : Int32)), .val (.int (2 : Int32)), .val (.int x0), .val (.int x1), .val (.int x2), .val (.int y0), .val (.int y1), .val (.int y2), .val (.ref ar), .val (.ref ao), .val (.ref bt), .val (.ref bu), .unset] [(.int y0), (.int x0)])
      by_cases c180_172 : y0 < x0
      · refine own_st (fun _ k => XS.icmpYes X169.here hx rfl (pc0 := 180) (pc' := 213) rfl (hb hby at_180) rfl (tlt c180_172).2.2.1 (by decide) (by decide) k) ?_
        show own_Go p e s below _ _ _ T169 (mkF m 213 #[.val (.int p0), .val (.int p1), .val (.int p2), .val (.int p3), .val (.int p4), .val (.int p5), .val (.int (2 : Int32)), .val (.int (2 : Int32)), .val (.int x0), .val (.int x1), .val (.int x2), .val (.int y0), .val (.int y1), .val (.int y2), .val (.ref ar), .val (.ref ao), .val (.ref bt), .val (.ref bu), .unset] [])
        refine own_st (fun _ k => XS.iconst X169.here hx rfl (hb hby at_213) k) ?_
        show own_Go p e s below _ _ _ T169 (mkF m 214 #[.val (.int p0), .val (.int p1), .val (.int p2), .val (.int p3), .val (.int p4), .val (.int p5), .val (.int (2 : Int32)), .val (.int (2 : Int32)), .val (.int x0), .val (.int x1), .val (.int x2), .val (.int y0), .val (.int y1), .val (.int y2), .val (.ref ar), .val (.ref ao), .val (.ref bt), .val (.ref bu), .unset] [(.int (0 : Int32))])
        exact J214  _ (by rw [own_bf (P := (¬ y0 < x0 ∧ ¬ y1 < x1)) (by simp [c17_150, c180_172])])
      · refine own_st (fun _ k => XS.icmpNo X169.here hx rfl (hb hby at_180) rfl (flt c180_172).2.2.1 k) ?_
        show own_Go p e s below _ _ _ T169 (mkF m 183 #[.val (.int p0), .val (.int p1), .val (.int p2), .val (.int p3), .val (.int p4), .val (.int p5), .val (.int (2 : Int32)), .val (.int (2 : Int32)), .val (.int x0), .val (.int x1), .val (.int x2), .val (.int y0), .val (.int y1), .val (.int y2), .val (.ref ar), .val (.ref ao), .val (.ref bt), .val (.ref bu), .unset] [])
        refine own_st (fun _ k => XS.iload X169.here hx rfl (hb hby at_183) rfl k) ?_
        show own_Go p e s below _ _ _ T169 (mkF m 185 #[.val (.int p0), .val (.int p1), .val (.int p2), .val (.int p3), .val (.int p4), .val (.int p5), .val (.int (2 : Int32)), .val (.int (2 : Int32)), .val (.int x0), .val (.int x1), .val (.int x2), .val (.int y0), .val (.int y1), .val (.int y2), .val (.ref ar), .val (.ref ao), .val (.ref bt), .val (.ref bu), .unset] [(.int (2 : Int32))])
        refine own_st (fun _ k => XS.iconst X169.here hx rfl (hb hby at_185) k) ?_
        show own_Go p e s below _ _ _ T169 (mkF m 186 #[.val (.int p0), .val (.int p1), .val (.int p2), .val (.int p3), .val (.int p4), .val (.int p5), .val (.int (2 : Int32)), .val (.int (2 : Int32)), .val (.int x0), .val (.int x1), .val (.int x2), .val (.int y0), .val (.int y1), .val (.int y2), .val (.ref ar), .val (.ref ao), .val (.ref bt), .val (.ref bu), .unset] [(.int (2 : Int32)), (.int (2 : Int32))])
        refine own_st (fun _ k => XS.icmpNo X169.here hx rfl (hb hby at_186) rfl (by decide) k) ?_
        show own_Go p e s below _ _ _ T169 (mkF m 189 #[.val (.int p0), .val (.int p1), .val (.int p2), .val (.int p3), .val (.int p4), .val (.int p5), .val (.int (2 : Int32)), .val (.int (2 : Int32)), .val (.int x0), .val (.int x1), .val (.int x2), .val (.int y0), .val (.int y1), .val (.int y2), .val (.ref ar), .val (.ref ao), .val (.ref bt), .val (.ref bu), .unset] [])
        refine own_st (fun _ k => XS.iload X169.here hx rfl (hb hby at_189) rfl k) ?_
        show own_Go p e s below _ _ _ T169 (mkF m 191 #[.val (.int p0), .val (.int p1), .val (.int p2), .val (.int p3), .val (.int p4), .val (.int p5), .val (.int (2 : Int32)), .val (.int (2 : Int32)), .val (.int x0), .val (.int x1), .val (.int x2), .val (.int y0), .val (.int y1), .val (.int y2), .val (.ref ar), .val (.ref ao), .val (.ref bt), .val (.ref bu), .unset] [(.int x1)])
        refine own_st (fun _ k => XS.iload X169.here hx rfl (hb hby at_191) rfl k) ?_
        show own_Go p e s below _ _ _ T169 (mkF m 193 #[.val (.int p0), .val (.int p1), .val (.int p2), .val (.int p3), .val (.int p4), .val (.int p5), .val (.int (2 : Int32)), .val (.int (2 : Int32)), .val (.int x0), .val (.int x1), .val (.int x2), .val (.int y0), .val (.int y1), .val (.int y2), .val (.ref ar), .val (.ref ao), .val (.ref bt), .val (.ref bu), .unset] [(.int y1), (.int x1)])
        by_cases c193_173 : y1 < x1
        · refine own_st (fun _ k => XS.icmpYes X169.here hx rfl (pc0 := 193) (pc' := 213) rfl (hb hby at_193) rfl (tlt c193_173).2.2.1 (by decide) (by decide) k) ?_
          show own_Go p e s below _ _ _ T169 (mkF m 213 #[.val (.int p0), .val (.int p1), .val (.int p2), .val (.int p3), .val (.int p4), .val (.int p5), .val (.int (2 : Int32)), .val (.int (2 : Int32)), .val (.int x0), .val (.int x1), .val (.int x2), .val (.int y0), .val (.int y1), .val (.int y2), .val (.ref ar), .val (.ref ao), .val (.ref bt), .val (.ref bu), .unset] [])
          refine own_st (fun _ k => XS.iconst X169.here hx rfl (hb hby at_213) k) ?_
          show own_Go p e s below _ _ _ T169 (mkF m 214 #[.val (.int p0), .val (.int p1), .val (.int p2), .val (.int p3), .val (.int p4), .val (.int p5), .val (.int (2 : Int32)), .val (.int (2 : Int32)), .val (.int x0), .val (.int x1), .val (.int x2), .val (.int y0), .val (.int y1), .val (.int y2), .val (.ref ar), .val (.ref ao), .val (.ref bt), .val (.ref bu), .unset] [(.int (0 : Int32))])
          exact J214  _ (by rw [own_bf (P := (¬ y0 < x0 ∧ ¬ y1 < x1)) (by simp [c180_172, c193_173])])
        · refine own_st (fun _ k => XS.icmpNo X169.here hx rfl (hb hby at_193) rfl (flt c193_173).2.2.1 k) ?_
          show own_Go p e s below _ _ _ T169 (mkF m 196 #[.val (.int p0), .val (.int p1), .val (.int p2), .val (.int p3), .val (.int p4), .val (.int p5), .val (.int (2 : Int32)), .val (.int (2 : Int32)), .val (.int x0), .val (.int x1), .val (.int x2), .val (.int y0), .val (.int y1), .val (.int y2), .val (.ref ar), .val (.ref ao), .val (.ref bt), .val (.ref bu), .unset] [])
          refine own_st (fun _ k => XS.iload X169.here hx rfl (hb hby at_196) rfl k) ?_
          show own_Go p e s below _ _ _ T169 (mkF m 198 #[.val (.int p0), .val (.int p1), .val (.int p2), .val (.int p3), .val (.int p4), .val (.int p5), .val (.int (2 : Int32)), .val (.int (2 : Int32)), .val (.int x0), .val (.int x1), .val (.int x2), .val (.int y0), .val (.int y1), .val (.int y2), .val (.ref ar), .val (.ref ao), .val (.ref bt), .val (.ref bu), .unset] [(.int (2 : Int32))])
          refine own_st (fun _ k => XS.iconst X169.here hx rfl (hb hby at_198) k) ?_
          show own_Go p e s below _ _ _ T169 (mkF m 199 #[.val (.int p0), .val (.int p1), .val (.int p2), .val (.int p3), .val (.int p4), .val (.int p5), .val (.int (2 : Int32)), .val (.int (2 : Int32)), .val (.int x0), .val (.int x1), .val (.int x2), .val (.int y0), .val (.int y1), .val (.int y2), .val (.ref ar), .val (.ref ao), .val (.ref bt), .val (.ref bu), .unset] [(.int (3 : Int32)), (.int (2 : Int32))])
          refine own_st (fun _ k => XS.icmpYes X169.here hx rfl (pc0 := 199) (pc' := 209) rfl (hb hby at_199) rfl (by decide) (by decide) (by decide) k) ?_
          show own_Go p e s below _ _ _ T169 (mkF m 209 #[.val (.int p0), .val (.int p1), .val (.int p2), .val (.int p3), .val (.int p4), .val (.int p5), .val (.int (2 : Int32)), .val (.int (2 : Int32)), .val (.int x0), .val (.int x1), .val (.int x2), .val (.int y0), .val (.int y1), .val (.int y2), .val (.ref ar), .val (.ref ao), .val (.ref bt), .val (.ref bu), .unset] [])
          refine own_st (fun _ k => XS.iconst X169.here hx rfl (hb hby at_209) k) ?_
          show own_Go p e s below _ _ _ T169 (mkF m 210 #[.val (.int p0), .val (.int p1), .val (.int p2), .val (.int p3), .val (.int p4), .val (.int p5), .val (.int (2 : Int32)), .val (.int (2 : Int32)), .val (.int x0), .val (.int x1), .val (.int x2), .val (.int y0), .val (.int y1), .val (.int y2), .val (.ref ar), .val (.ref ao), .val (.ref bt), .val (.ref bu), .unset] [(.int (1 : Int32))])
          refine own_st (fun _ k => XS.goto X169.here hx rfl (pc0 := 210) (pc' := 214) rfl (hb hby at_210) (by decide) (by decide) k) ?_
          show own_Go p e s below _ _ _ T169 (mkF m 214 #[.val (.int p0), .val (.int p1), .val (.int p2), .val (.int p3), .val (.int p4), .val (.int p5), .val (.int (2 : Int32)), .val (.int (2 : Int32)), .val (.int x0), .val (.int x1), .val (.int x2), .val (.int y0), .val (.int y1), .val (.int y2), .val (.ref ar), .val (.ref ao), .val (.ref bt), .val (.ref bu), .unset] [(.int (1 : Int32))])
          exact J214  _ (by rw [own_bt (P := (¬ y0 < x0 ∧ ¬ y1 < x1)) (by simp [c180_172, c193_173])])
    · refine own_st (fun _ k => XS.ifNo X0.here hx rfl (hb hby at_17) rfl ((if0 _ _).trans (feq c17_150).1) k) ?_
      show own_Go p e s below _ _ _ T0 (mkF m 20 #[.val (.int p0), .val (.int p1), .val (.int p2), .val (.int p3), .val (.int p4), .val (.int p5), .val (.int (2 : Int32)), .unset, .unset, .unset, .unset, .unset, .unset, .unset, .unset, .unset, .unset, .unset, .unset] [])
      refine own_st (fun _ k => XS.iconst X0.here hx rfl (hb hby at_20) k) ?_
      show own_Go p e s below _ _ _ T0 (mkF m 21 #[.val (.int p0), .val (.int p1), .val (.int p2), .val (.int p3), .val (.int p4), .val (.int p5), .val (.int (2 : Int32)), .unset, .unset, .unset, .unset, .unset, .unset, .unset, .unset, .unset, .unset, .unset, .unset] [(.int (3 : Int32))])
      refine own_st (fun _ k => XS.goto X0.here hx rfl (pc0 := 21) (pc' := 26) rfl (hb hby at_21) (by decide) (by decide) k) ?_
      show own_Go p e s below _ _ _ T0 (mkF m 26 #[.val (.int p0), .val (.int p1), .val (.int p2), .val (.int p3), .val (.int p4), .val (.int p5), .val (.int (2 : Int32)), .unset, .unset, .unset, .unset, .unset, .unset, .unset, .unset, .unset, .unset, .unset, .unset] [(.int (3 : Int32))])
      refine own_st (fun _ k => XS.istore X0.here hx rfl (hb hby at_26) rfl (l' := #[.val (.int p0), .val (.int p1), .val (.int p2), .val (.int p3), .val (.int p4), .val (.int p5), .val (.int (2 : Int32)), .val (.int (3 : Int32)), .unset, .unset, .unset, .unset, .unset, .unset, .unset, .unset, .unset, .unset, .unset]) rfl k) ?_
      show own_Go p e s below _ _ _ T0 (mkF m 28 #[.val (.int p0), .val (.int p1), .val (.int p2), .val (.int p3), .val (.int p4), .val (.int p5), .val (.int (2 : Int32)), .val (.int (3 : Int32)), .unset, .unset, .unset, .unset, .unset, .unset, .unset, .unset, .unset, .unset, .unset] [])
      refine own_st (fun _ k => XS.iloadN X0.here hx rfl (hb hby at_28) rfl k) ?_
      show own_Go p e s below _ _ _ T0 (mkF m 29 #[.val (.int p0), .val (.int p1), .val (.int p2), .val (.int p3), .val (.int p4), .val (.int p5), .val (.int (2 : Int32)), .val (.int (3 : Int32)), .unset, .unset, .unset, .unset, .unset, .unset, .unset, .unset, .unset, .unset, .unset] [(.int p0)])
      refine own_st (X0.ldcInt hx hown (mvT hZ (hw _ (List.mem_of_getElem? (i := 0) rfl))) (g := (mkF m 29 #[.val (.int p0), .val (.int p1), .val (.int p2), .val (.int p3), .val (.int p4), .val (.int p5), .val (.int (2 : Int32)), .val (.int (3 : Int32)), .unset, .unset, .unset, .unset, .unset, .unset, .unset, .unset, .unset, .unset, .unset] [(.int p0)])) rfl (hb hby at_29)) ?_
      show own_Go p e s below _ _ _ T0 (mkF m 31 #[.val (.int p0), .val (.int p1), .val (.int p2), .val (.int p3), .val (.int p4), .val (.int p5), .val (.int (2 : Int32)), .val (.int (3 : Int32)), .unset, .unset, .unset, .unset, .unset, .unset, .unset, .unset, .unset, .unset, .unset] [(.int (2147483647 : Int32)), (.int p0)])
      refine own_st (fun _ k => XS.iand X0.here hx rfl (hb hby at_31) rfl k) ?_
      show own_Go p e s below _ _ _ T0 (mkF m 32 #[.val (.int p0), .val (.int p1), .val (.int p2), .val (.int p3), .val (.int p4), .val (.int p5), .val (.int (2 : Int32)), .val (.int (3 : Int32)), .unset, .unset, .unset, .unset, .unset, .unset, .unset, .unset, .unset, .unset, .unset] [(.int (p0 &&& (2147483647 : Int32)))])
      refine own_st (fun _ k => XS.istore X0.here hx rfl (hb hby at_32) rfl (l' := #[.val (.int p0), .val (.int p1), .val (.int p2), .val (.int p3), .val (.int p4), .val (.int p5), .val (.int (2 : Int32)), .val (.int (3 : Int32)), .val (.int (p0 &&& (2147483647 : Int32))), .unset, .unset, .unset, .unset, .unset, .unset, .unset, .unset, .unset, .unset]) rfl k) ?_
      show own_Go p e s below _ _ _ T0 (mkF m 34 #[.val (.int p0), .val (.int p1), .val (.int p2), .val (.int p3), .val (.int p4), .val (.int p5), .val (.int (2 : Int32)), .val (.int (3 : Int32)), .val (.int (p0 &&& (2147483647 : Int32))), .unset, .unset, .unset, .unset, .unset, .unset, .unset, .unset, .unset, .unset] [])
      refine own_st (fun _ k => XS.iloadN X0.here hx rfl (hb hby at_34) rfl k) ?_
      show own_Go p e s below _ _ _ T0 (mkF m 35 #[.val (.int p0), .val (.int p1), .val (.int p2), .val (.int p3), .val (.int p4), .val (.int p5), .val (.int (2 : Int32)), .val (.int (3 : Int32)), .val (.int (p0 &&& (2147483647 : Int32))), .unset, .unset, .unset, .unset, .unset, .unset, .unset, .unset, .unset, .unset] [(.int p1)])
      refine own_st (X0.ldcInt hx hown (mvT hZ (hw _ (List.mem_of_getElem? (i := 0) rfl))) (g := (mkF m 35 #[.val (.int p0), .val (.int p1), .val (.int p2), .val (.int p3), .val (.int p4), .val (.int p5), .val (.int (2 : Int32)), .val (.int (3 : Int32)), .val (.int (p0 &&& (2147483647 : Int32))), .unset, .unset, .unset, .unset, .unset, .unset, .unset, .unset, .unset, .unset] [(.int p1)])) rfl (hb hby at_35)) ?_
      show own_Go p e s below _ _ _ T0 (mkF m 37 #[.val (.int p0), .val (.int p1), .val (.int p2), .val (.int p3), .val (.int p4), .val (.int p5), .val (.int (2 : Int32)), .val (.int (3 : Int32)), .val (.int (p0 &&& (2147483647 : Int32))), .unset, .unset, .unset, .unset, .unset, .unset, .unset, .unset, .unset, .unset] [(.int (2147483647 : Int32)), (.int p1)])
      refine own_st (fun _ k => XS.iand X0.here hx rfl (hb hby at_37) rfl k) ?_
      show own_Go p e s below _ _ _ T0 (mkF m 38 #[.val (.int p0), .val (.int p1), .val (.int p2), .val (.int p3), .val (.int p4), .val (.int p5), .val (.int (2 : Int32)), .val (.int (3 : Int32)), .val (.int (p0 &&& (2147483647 : Int32))), .unset, .unset, .unset, .unset, .unset, .unset, .unset, .unset, .unset, .unset] [(.int (p1 &&& (2147483647 : Int32)))])
      refine own_st (fun _ k => XS.istore X0.here hx rfl (hb hby at_38) rfl (l' := #[.val (.int p0), .val (.int p1), .val (.int p2), .val (.int p3), .val (.int p4), .val (.int p5), .val (.int (2 : Int32)), .val (.int (3 : Int32)), .val (.int (p0 &&& (2147483647 : Int32))), .val (.int (p1 &&& (2147483647 : Int32))), .unset, .unset, .unset, .unset, .unset, .unset, .unset, .unset, .unset]) rfl k) ?_
      show own_Go p e s below _ _ _ T0 (mkF m 40 #[.val (.int p0), .val (.int p1), .val (.int p2), .val (.int p3), .val (.int p4), .val (.int p5), .val (.int (2 : Int32)), .val (.int (3 : Int32)), .val (.int (p0 &&& (2147483647 : Int32))), .val (.int (p1 &&& (2147483647 : Int32))), .unset, .unset, .unset, .unset, .unset, .unset, .unset, .unset, .unset] [])
      refine own_st (fun _ k => XS.iloadN X0.here hx rfl (hb hby at_40) rfl k) ?_
      show own_Go p e s below _ _ _ T0 (mkF m 41 #[.val (.int p0), .val (.int p1), .val (.int p2), .val (.int p3), .val (.int p4), .val (.int p5), .val (.int (2 : Int32)), .val (.int (3 : Int32)), .val (.int (p0 &&& (2147483647 : Int32))), .val (.int (p1 &&& (2147483647 : Int32))), .unset, .unset, .unset, .unset, .unset, .unset, .unset, .unset, .unset] [(.int p2)])
      refine own_st (X0.ldcInt hx hown (mvT hZ (hw _ (List.mem_of_getElem? (i := 0) rfl))) (g := (mkF m 41 #[.val (.int p0), .val (.int p1), .val (.int p2), .val (.int p3), .val (.int p4), .val (.int p5), .val (.int (2 : Int32)), .val (.int (3 : Int32)), .val (.int (p0 &&& (2147483647 : Int32))), .val (.int (p1 &&& (2147483647 : Int32))), .unset, .unset, .unset, .unset, .unset, .unset, .unset, .unset, .unset] [(.int p2)])) rfl (hb hby at_41)) ?_
      show own_Go p e s below _ _ _ T0 (mkF m 43 #[.val (.int p0), .val (.int p1), .val (.int p2), .val (.int p3), .val (.int p4), .val (.int p5), .val (.int (2 : Int32)), .val (.int (3 : Int32)), .val (.int (p0 &&& (2147483647 : Int32))), .val (.int (p1 &&& (2147483647 : Int32))), .unset, .unset, .unset, .unset, .unset, .unset, .unset, .unset, .unset] [(.int (2147483647 : Int32)), (.int p2)])
      refine own_st (fun _ k => XS.iand X0.here hx rfl (hb hby at_43) rfl k) ?_
      show own_Go p e s below _ _ _ T0 (mkF m 44 #[.val (.int p0), .val (.int p1), .val (.int p2), .val (.int p3), .val (.int p4), .val (.int p5), .val (.int (2 : Int32)), .val (.int (3 : Int32)), .val (.int (p0 &&& (2147483647 : Int32))), .val (.int (p1 &&& (2147483647 : Int32))), .unset, .unset, .unset, .unset, .unset, .unset, .unset, .unset, .unset] [(.int (p2 &&& (2147483647 : Int32)))])
      refine own_st (fun _ k => XS.istore X0.here hx rfl (hb hby at_44) rfl (l' := #[.val (.int p0), .val (.int p1), .val (.int p2), .val (.int p3), .val (.int p4), .val (.int p5), .val (.int (2 : Int32)), .val (.int (3 : Int32)), .val (.int (p0 &&& (2147483647 : Int32))), .val (.int (p1 &&& (2147483647 : Int32))), .val (.int (p2 &&& (2147483647 : Int32))), .unset, .unset, .unset, .unset, .unset, .unset, .unset, .unset]) rfl k) ?_
      show own_Go p e s below _ _ _ T0 (mkF m 46 #[.val (.int p0), .val (.int p1), .val (.int p2), .val (.int p3), .val (.int p4), .val (.int p5), .val (.int (2 : Int32)), .val (.int (3 : Int32)), .val (.int (p0 &&& (2147483647 : Int32))), .val (.int (p1 &&& (2147483647 : Int32))), .val (.int (p2 &&& (2147483647 : Int32))), .unset, .unset, .unset, .unset, .unset, .unset, .unset, .unset] [])
      refine own_st (fun _ k => XS.iloadN X0.here hx rfl (hb hby at_46) rfl k) ?_
      show own_Go p e s below _ _ _ T0 (mkF m 47 #[.val (.int p0), .val (.int p1), .val (.int p2), .val (.int p3), .val (.int p4), .val (.int p5), .val (.int (2 : Int32)), .val (.int (3 : Int32)), .val (.int (p0 &&& (2147483647 : Int32))), .val (.int (p1 &&& (2147483647 : Int32))), .val (.int (p2 &&& (2147483647 : Int32))), .unset, .unset, .unset, .unset, .unset, .unset, .unset, .unset] [(.int p3)])
      refine own_st (X0.ldcInt hx hown (mvT hZ (hw _ (List.mem_of_getElem? (i := 0) rfl))) (g := (mkF m 47 #[.val (.int p0), .val (.int p1), .val (.int p2), .val (.int p3), .val (.int p4), .val (.int p5), .val (.int (2 : Int32)), .val (.int (3 : Int32)), .val (.int (p0 &&& (2147483647 : Int32))), .val (.int (p1 &&& (2147483647 : Int32))), .val (.int (p2 &&& (2147483647 : Int32))), .unset, .unset, .unset, .unset, .unset, .unset, .unset, .unset] [(.int p3)])) rfl (hb hby at_47)) ?_
      show own_Go p e s below _ _ _ T0 (mkF m 49 #[.val (.int p0), .val (.int p1), .val (.int p2), .val (.int p3), .val (.int p4), .val (.int p5), .val (.int (2 : Int32)), .val (.int (3 : Int32)), .val (.int (p0 &&& (2147483647 : Int32))), .val (.int (p1 &&& (2147483647 : Int32))), .val (.int (p2 &&& (2147483647 : Int32))), .unset, .unset, .unset, .unset, .unset, .unset, .unset, .unset] [(.int (2147483647 : Int32)), (.int p3)])
      refine own_st (fun _ k => XS.iand X0.here hx rfl (hb hby at_49) rfl k) ?_
      show own_Go p e s below _ _ _ T0 (mkF m 50 #[.val (.int p0), .val (.int p1), .val (.int p2), .val (.int p3), .val (.int p4), .val (.int p5), .val (.int (2 : Int32)), .val (.int (3 : Int32)), .val (.int (p0 &&& (2147483647 : Int32))), .val (.int (p1 &&& (2147483647 : Int32))), .val (.int (p2 &&& (2147483647 : Int32))), .unset, .unset, .unset, .unset, .unset, .unset, .unset, .unset] [(.int (p3 &&& (2147483647 : Int32)))])
      refine own_st (fun _ k => XS.istore X0.here hx rfl (hb hby at_50) rfl (l' := #[.val (.int p0), .val (.int p1), .val (.int p2), .val (.int p3), .val (.int p4), .val (.int p5), .val (.int (2 : Int32)), .val (.int (3 : Int32)), .val (.int (p0 &&& (2147483647 : Int32))), .val (.int (p1 &&& (2147483647 : Int32))), .val (.int (p2 &&& (2147483647 : Int32))), .val (.int (p3 &&& (2147483647 : Int32))), .unset, .unset, .unset, .unset, .unset, .unset, .unset]) rfl k) ?_
      show own_Go p e s below _ _ _ T0 (mkF m 52 #[.val (.int p0), .val (.int p1), .val (.int p2), .val (.int p3), .val (.int p4), .val (.int p5), .val (.int (2 : Int32)), .val (.int (3 : Int32)), .val (.int (p0 &&& (2147483647 : Int32))), .val (.int (p1 &&& (2147483647 : Int32))), .val (.int (p2 &&& (2147483647 : Int32))), .val (.int (p3 &&& (2147483647 : Int32))), .unset, .unset, .unset, .unset, .unset, .unset, .unset] [])
      refine own_st (fun _ k => XS.iload X0.here hx rfl (hb hby at_52) rfl k) ?_
      show own_Go p e s below _ _ _ T0 (mkF m 54 #[.val (.int p0), .val (.int p1), .val (.int p2), .val (.int p3), .val (.int p4), .val (.int p5), .val (.int (2 : Int32)), .val (.int (3 : Int32)), .val (.int (p0 &&& (2147483647 : Int32))), .val (.int (p1 &&& (2147483647 : Int32))), .val (.int (p2 &&& (2147483647 : Int32))), .val (.int (p3 &&& (2147483647 : Int32))), .unset, .unset, .unset, .unset, .unset, .unset, .unset] [(.int p4)])
      refine own_st (X0.ldcInt hx hown (mvT hZ (hw _ (List.mem_of_getElem? (i := 0) rfl))) (g := (mkF m 54 #[.val (.int p0), .val (.int p1), .val (.int p2), .val (.int p3), .val (.int p4), .val (.int p5), .val (.int (2 : Int32)), .val (.int (3 : Int32)), .val (.int (p0 &&& (2147483647 : Int32))), .val (.int (p1 &&& (2147483647 : Int32))), .val (.int (p2 &&& (2147483647 : Int32))), .val (.int (p3 &&& (2147483647 : Int32))), .unset, .unset, .unset, .unset, .unset, .unset, .unset] [(.int p4)])) rfl (hb hby at_54)) ?_
      show own_Go p e s below _ _ _ T0 (mkF m 56 #[.val (.int p0), .val (.int p1), .val (.int p2), .val (.int p3), .val (.int p4), .val (.int p5), .val (.int (2 : Int32)), .val (.int (3 : Int32)), .val (.int (p0 &&& (2147483647 : Int32))), .val (.int (p1 &&& (2147483647 : Int32))), .val (.int (p2 &&& (2147483647 : Int32))), .val (.int (p3 &&& (2147483647 : Int32))), .unset, .unset, .unset, .unset, .unset, .unset, .unset] [(.int (2147483647 : Int32)), (.int p4)])
      refine own_st (fun _ k => XS.iand X0.here hx rfl (hb hby at_56) rfl k) ?_
      show own_Go p e s below _ _ _ T0 (mkF m 57 #[.val (.int p0), .val (.int p1), .val (.int p2), .val (.int p3), .val (.int p4), .val (.int p5), .val (.int (2 : Int32)), .val (.int (3 : Int32)), .val (.int (p0 &&& (2147483647 : Int32))), .val (.int (p1 &&& (2147483647 : Int32))), .val (.int (p2 &&& (2147483647 : Int32))), .val (.int (p3 &&& (2147483647 : Int32))), .unset, .unset, .unset, .unset, .unset, .unset, .unset] [(.int (p4 &&& (2147483647 : Int32)))])
      refine own_st (fun _ k => XS.istore X0.here hx rfl (hb hby at_57) rfl (l' := #[.val (.int p0), .val (.int p1), .val (.int p2), .val (.int p3), .val (.int p4), .val (.int p5), .val (.int (2 : Int32)), .val (.int (3 : Int32)), .val (.int (p0 &&& (2147483647 : Int32))), .val (.int (p1 &&& (2147483647 : Int32))), .val (.int (p2 &&& (2147483647 : Int32))), .val (.int (p3 &&& (2147483647 : Int32))), .val (.int (p4 &&& (2147483647 : Int32))), .unset, .unset, .unset, .unset, .unset, .unset]) rfl k) ?_
      show own_Go p e s below _ _ _ T0 (mkF m 59 #[.val (.int p0), .val (.int p1), .val (.int p2), .val (.int p3), .val (.int p4), .val (.int p5), .val (.int (2 : Int32)), .val (.int (3 : Int32)), .val (.int (p0 &&& (2147483647 : Int32))), .val (.int (p1 &&& (2147483647 : Int32))), .val (.int (p2 &&& (2147483647 : Int32))), .val (.int (p3 &&& (2147483647 : Int32))), .val (.int (p4 &&& (2147483647 : Int32))), .unset, .unset, .unset, .unset, .unset, .unset] [])
      refine own_st (fun _ k => XS.iload X0.here hx rfl (hb hby at_59) rfl k) ?_
      show own_Go p e s below _ _ _ T0 (mkF m 61 #[.val (.int p0), .val (.int p1), .val (.int p2), .val (.int p3), .val (.int p4), .val (.int p5), .val (.int (2 : Int32)), .val (.int (3 : Int32)), .val (.int (p0 &&& (2147483647 : Int32))), .val (.int (p1 &&& (2147483647 : Int32))), .val (.int (p2 &&& (2147483647 : Int32))), .val (.int (p3 &&& (2147483647 : Int32))), .val (.int (p4 &&& (2147483647 : Int32))), .unset, .unset, .unset, .unset, .unset, .unset] [(.int p5)])
      refine own_st (X0.ldcInt hx hown (mvT hZ (hw _ (List.mem_of_getElem? (i := 0) rfl))) (g := (mkF m 61 #[.val (.int p0), .val (.int p1), .val (.int p2), .val (.int p3), .val (.int p4), .val (.int p5), .val (.int (2 : Int32)), .val (.int (3 : Int32)), .val (.int (p0 &&& (2147483647 : Int32))), .val (.int (p1 &&& (2147483647 : Int32))), .val (.int (p2 &&& (2147483647 : Int32))), .val (.int (p3 &&& (2147483647 : Int32))), .val (.int (p4 &&& (2147483647 : Int32))), .unset, .unset, .unset, .unset, .unset, .unset] [(.int p5)])) rfl (hb hby at_61)) ?_
      show own_Go p e s below _ _ _ T0 (mkF m 63 #[.val (.int p0), .val (.int p1), .val (.int p2), .val (.int p3), .val (.int p4), .val (.int p5), .val (.int (2 : Int32)), .val (.int (3 : Int32)), .val (.int (p0 &&& (2147483647 : Int32))), .val (.int (p1 &&& (2147483647 : Int32))), .val (.int (p2 &&& (2147483647 : Int32))), .val (.int (p3 &&& (2147483647 : Int32))), .val (.int (p4 &&& (2147483647 : Int32))), .unset, .unset, .unset, .unset, .unset, .unset] [(.int (2147483647 : Int32)), (.int p5)])
      refine own_st (fun _ k => XS.iand X0.here hx rfl (hb hby at_63) rfl k) ?_
      show own_Go p e s below _ _ _ T0 (mkF m 64 #[.val (.int p0), .val (.int p1), .val (.int p2), .val (.int p3), .val (.int p4), .val (.int p5), .val (.int (2 : Int32)), .val (.int (3 : Int32)), .val (.int (p0 &&& (2147483647 : Int32))), .val (.int (p1 &&& (2147483647 : Int32))), .val (.int (p2 &&& (2147483647 : Int32))), .val (.int (p3 &&& (2147483647 : Int32))), .val (.int (p4 &&& (2147483647 : Int32))), .unset, .unset, .unset, .unset, .unset, .unset] [(.int (p5 &&& (2147483647 : Int32)))])
      refine own_st (fun _ k => XS.istore X0.here hx rfl (hb hby at_64) rfl (l' := #[.val (.int p0), .val (.int p1), .val (.int p2), .val (.int p3), .val (.int p4), .val (.int p5), .val (.int (2 : Int32)), .val (.int (3 : Int32)), .val (.int (p0 &&& (2147483647 : Int32))), .val (.int (p1 &&& (2147483647 : Int32))), .val (.int (p2 &&& (2147483647 : Int32))), .val (.int (p3 &&& (2147483647 : Int32))), .val (.int (p4 &&& (2147483647 : Int32))), .val (.int (p5 &&& (2147483647 : Int32))), .unset, .unset, .unset, .unset, .unset]) rfl k) ?_
      show own_Go p e s below _ _ _ T0 (mkF m 66 #[.val (.int p0), .val (.int p1), .val (.int p2), .val (.int p3), .val (.int p4), .val (.int p5), .val (.int (2 : Int32)), .val (.int (3 : Int32)), .val (.int (p0 &&& (2147483647 : Int32))), .val (.int (p1 &&& (2147483647 : Int32))), .val (.int (p2 &&& (2147483647 : Int32))), .val (.int (p3 &&& (2147483647 : Int32))), .val (.int (p4 &&& (2147483647 : Int32))), .val (.int (p5 &&& (2147483647 : Int32))), .unset, .unset, .unset, .unset, .unset] [])
      obtain ⟨x0, qx0⟩ : ∃ z, z = (p0 &&& (2147483647 : Int32)) := ⟨_, rfl⟩
      rw [← qx0]
      have nx0 : ¬ x0 < 0 := qx0 ▸ own_nn _
      obtain ⟨x1, qx1⟩ : ∃ z, z = (p1 &&& (2147483647 : Int32)) := ⟨_, rfl⟩
      rw [← qx1]
      have nx1 : ¬ x1 < 0 := qx1 ▸ own_nn _
      obtain ⟨x2, qx2⟩ : ∃ z, z = (p2 &&& (2147483647 : Int32)) := ⟨_, rfl⟩
      rw [← qx2]
      have nx2 : ¬ x2 < 0 := qx2 ▸ own_nn _
      obtain ⟨y0, qy0⟩ : ∃ z, z = (p3 &&& (2147483647 : Int32)) := ⟨_, rfl⟩
      rw [← qy0]
      have ny0 : ¬ y0 < 0 := qy0 ▸ own_nn _
      obtain ⟨y1, qy1⟩ : ∃ z, z = (p4 &&& (2147483647 : Int32)) := ⟨_, rfl⟩
      rw [← qy1]
      have ny1 : ¬ y1 < 0 := qy1 ▸ own_nn _
      obtain ⟨y2, qy2⟩ : ∃ z, z = (p5 &&& (2147483647 : Int32)) := ⟨_, rfl⟩
      rw [← qy2]
      have ny2 : ¬ y2 < 0 := qy2 ▸ own_nn _
      show own_Go p e s below _ _ _ T0 (mkF m 66 #[.val (.int p0), .val (.int p1), .val (.int p2), .val (.int p3), .val (.int p4), .val (.int p5), .val (.int (2 : Int32)), .val (.int (3 : Int32)), .val (.int x0), .val (.int x1), .val (.int x2), .val (.int y0), .val (.int y1), .val (.int y2), .unset, .unset, .unset, .unset, .unset] [])
      refine own_st (fun _ k => XS.iload X0.here hx rfl (hb hby at_66) rfl k) ?_
      show own_Go p e s below _ _ _ T0 (mkF m 68 #[.val (.int p0), .val (.int p1), .val (.int p2), .val (.int p3), .val (.int p4), .val (.int p5), .val (.int (2 : Int32)), .val (.int (3 : Int32)), .val (.int x0), .val (.int x1), .val (.int x2), .val (.int y0), .val (.int y1), .val (.int y2), .unset, .unset, .unset, .unset, .unset] [(.int (2 : Int32))])
      obtain ⟨T174, h174, k174, X174, e174, E174, A174, Ex174, st174⟩ := newPE X0 hx hZ (hw _ (List.mem_of_getElem? (i := 1) rfl)) e0 (g := (mkF m 68 #[.val (.int p0), .val (.int p1), .val (.int p2), .val (.int p3), .val (.int p4), .val (.int p5), .val (.int (2 : Int32)), .val (.int (3 : Int32)), .val (.int x0), .val (.int x1), .val (.int x2), .val (.int y0), .val (.int y1), .val (.int y2), .unset, .unset, .unset, .unset, .unset] [(.int (2 : Int32))])) rfl (hb hby at_68) rfl (by decide) (cap := 2) (by decide) (by decide) (by decide) (by decide) (ad := "[I") (by decide)
      obtain ⟨ar, g174⟩ : ∃ z, z = h0.size := ⟨_, rfl⟩
      rw [← g174] at A174 Ex174 st174
      have g_ar : n0 ≤ ar := Nat.le_trans Z0 (Nat.le_of_eq g174.symm)
      have Z175 := Nat.le_trans Z0 E174.1
      have V_ar : Arv Z h174 ar k174 .int (2 : Int32) [(.int (0 : Int32)), (.int (0 : Int32))] (.int (0 : Int32)) := (Arv.new A174 (by decide)).pad (pad_rep [] (.int (0 : Int32)) 2)
      have E_ar := Ex174
      refine own_st st174 ?_
      show own_Go p e s below _ _ _ T174 (mkF m 70 #[.val (.int p0), .val (.int p1), .val (.int p2), .val (.int p3), .val (.int p4), .val (.int p5), .val (.int (2 : Int32)), .val (.int (3 : Int32)), .val (.int x0), .val (.int x1), .val (.int x2), .val (.int y0), .val (.int y1), .val (.int y2), .unset, .unset, .unset, .unset, .unset] [(.ref ar)])
      refine own_st (fun _ k => XS.astore X174.here hx rfl (hb hby at_70) rfl rfl (l' := #[.val (.int p0), .val (.int p1), .val (.int p2), .val (.int p3), .val (.int p4), .val (.int p5), .val (.int (2 : Int32)), .val (.int (3 : Int32)), .val (.int x0), .val (.int x1), .val (.int x2), .val (.int y0), .val (.int y1), .val (.int y2), .val (.ref ar), .unset, .unset, .unset, .unset]) rfl k) ?_
      show own_Go p e s below _ _ _ T174 (mkF m 72 #[.val (.int p0), .val (.int p1), .val (.int p2), .val (.int p3), .val (.int p4), .val (.int p5), .val (.int (2 : Int32)), .val (.int (3 : Int32)), .val (.int x0), .val (.int x1), .val (.int x2), .val (.int y0), .val (.int y1), .val (.int y2), .val (.ref ar), .unset, .unset, .unset, .unset] [])
      refine own_st (fun _ k => XS.iload X174.here hx rfl (hb hby at_72) rfl k) ?_
      show own_Go p e s below _ _ _ T174 (mkF m 74 #[.val (.int p0), .val (.int p1), .val (.int p2), .val (.int p3), .val (.int p4), .val (.int p5), .val (.int (2 : Int32)), .val (.int (3 : Int32)), .val (.int x0), .val (.int x1), .val (.int x2), .val (.int y0), .val (.int y1), .val (.int y2), .val (.ref ar), .unset, .unset, .unset, .unset] [(.int (2 : Int32))])
      refine own_st (fun _ k => XS.ifNo X174.here hx rfl (hb hby at_74) rfl (by decide) k) ?_
      show own_Go p e s below _ _ _ T174 (mkF m 77 #[.val (.int p0), .val (.int p1), .val (.int p2), .val (.int p3), .val (.int p4), .val (.int p5), .val (.int (2 : Int32)), .val (.int (3 : Int32)), .val (.int x0), .val (.int x1), .val (.int x2), .val (.int y0), .val (.int y1), .val (.int y2), .val (.ref ar), .unset, .unset, .unset, .unset] [])
      refine own_st (fun _ k => XS.aload X174.here hx rfl (hb hby at_77) rfl rfl k) ?_
      show own_Go p e s below _ _ _ T174 (mkF m 79 #[.val (.int p0), .val (.int p1), .val (.int p2), .val (.int p3), .val (.int p4), .val (.int p5), .val (.int (2 : Int32)), .val (.int (3 : Int32)), .val (.int x0), .val (.int x1), .val (.int x2), .val (.int y0), .val (.int y1), .val (.int y2), .val (.ref ar), .unset, .unset, .unset, .unset] [(.ref ar)])
      refine own_st (fun _ k => XS.iconst X174.here hx rfl (hb hby at_79) k) ?_
      show own_Go p e s below _ _ _ T174 (mkF m 80 #[.val (.int p0), .val (.int p1), .val (.int p2), .val (.int p3), .val (.int p4), .val (.int p5), .val (.int (2 : Int32)), .val (.int (3 : Int32)), .val (.int x0), .val (.int x1), .val (.int x2), .val (.int y0), .val (.int y1), .val (.int y2), .val (.ref ar), .unset, .unset, .unset, .unset] [(.int (0 : Int32)), (.ref ar)])
      refine own_st (fun _ k => XS.iload X174.here hx rfl (hb hby at_80) rfl k) ?_
      show own_Go p e s below _ _ _ T174 (mkF m 82 #[.val (.int p0), .val (.int p1), .val (.int p2), .val (.int p3), .val (.int p4), .val (.int p5), .val (.int (2 : Int32)), .val (.int (3 : Int32)), .val (.int x0), .val (.int x1), .val (.int x2), .val (.int y0), .val (.int y1), .val (.int y2), .val (.ref ar), .unset, .unset, .unset, .unset] [(.int x0), (.int (0 : Int32)), (.ref ar)])
      obtain ⟨T176, h176, X176, e176, W176, V176, st176⟩ := own_stI X174 hx hZ e174 V_ar (j := (0 : Int32)) ⟨by decide, by decide⟩ (Nat.le_of_ble_eq_true rfl) (g := (mkF m 82 #[.val (.int p0), .val (.int p1), .val (.int p2), .val (.int p3), .val (.int p4), .val (.int p5), .val (.int (2 : Int32)), .val (.int (3 : Int32)), .val (.int x0), .val (.int x1), .val (.int x2), .val (.int y0), .val (.int y1), .val (.int y2), .val (.ref ar), .unset, .unset, .unset, .unset] [(.int x0), (.int (0 : Int32)), (.ref ar)])) rfl rfl (hb hby at_82)
      clear V_ar
      have V_ar : Arv Z h176 ar k174 .int (2 : Int32) [(.int x0), (.int (0 : Int32))] (.int (0 : Int32)) := V176
      replace E_ar := E_ar.wr W176
      have Z177 := Nat.le_trans Z175 (Keep.of_wr W176).1
      have N176 := Fr.snoc X176 N0 g_ar
      refine own_st st176 ?_
      show own_Go p e s below _ _ _ T176 (mkF m 83 #[.val (.int p0), .val (.int p1), .val (.int p2), .val (.int p3), .val (.int p4), .val (.int p5), .val (.int (2 : Int32)), .val (.int (3 : Int32)), .val (.int x0), .val (.int x1), .val (.int x2), .val (.int y0), .val (.int y1), .val (.int y2), .val (.ref ar), .unset, .unset, .unset, .unset] [])
      refine own_st (fun _ k => XS.iload X176.here hx rfl (hb hby at_83) rfl k) ?_
      show own_Go p e s below _ _ _ T176 (mkF m 85 #[.val (.int p0), .val (.int p1), .val (.int p2), .val (.int p3), .val (.int p4), .val (.int p5), .val (.int (2 : Int32)), .val (.int (3 : Int32)), .val (.int x0), .val (.int x1), .val (.int x2), .val (.int y0), .val (.int y1), .val (.int y2), .val (.ref ar), .unset, .unset, .unset, .unset] [(.int (2 : Int32))])
      refine own_st (fun _ k => XS.iconst X176.here hx rfl (hb hby at_85) k) ?_
      show own_Go p e s below _ _ _ T176 (mkF m 86 #[.val (.int p0), .val (.int p1), .val (.int p2), .val (.int p3), .val (.int p4), .val (.int p5), .val (.int (2 : Int32)), .val (.int (3 : Int32)), .val (.int x0), .val (.int x1), .val (.int x2), .val (.int y0), .val (.int y1), .val (.int y2), .val (.ref ar), .unset, .unset, .unset, .unset] [(.int (1 : Int32)), (.int (2 : Int32))])
      refine own_st (fun _ k => XS.icmpNo X176.here hx rfl (hb hby at_86) rfl (by decide) k) ?_
      show own_Go p e s below _ _ _ T176 (mkF m 89 #[.val (.int p0), .val (.int p1), .val (.int p2), .val (.int p3), .val (.int p4), .val (.int p5), .val (.int (2 : Int32)), .val (.int (3 : Int32)), .val (.int x0), .val (.int x1), .val (.int x2), .val (.int y0), .val (.int y1), .val (.int y2), .val (.ref ar), .unset, .unset, .unset, .unset] [])
      refine own_st (fun _ k => XS.aload X176.here hx rfl (hb hby at_89) rfl rfl k) ?_
      show own_Go p e s below _ _ _ T176 (mkF m 91 #[.val (.int p0), .val (.int p1), .val (.int p2), .val (.int p3), .val (.int p4), .val (.int p5), .val (.int (2 : Int32)), .val (.int (3 : Int32)), .val (.int x0), .val (.int x1), .val (.int x2), .val (.int y0), .val (.int y1), .val (.int y2), .val (.ref ar), .unset, .unset, .unset, .unset] [(.ref ar)])
      refine own_st (fun _ k => XS.iconst X176.here hx rfl (hb hby at_91) k) ?_
      show own_Go p e s below _ _ _ T176 (mkF m 92 #[.val (.int p0), .val (.int p1), .val (.int p2), .val (.int p3), .val (.int p4), .val (.int p5), .val (.int (2 : Int32)), .val (.int (3 : Int32)), .val (.int x0), .val (.int x1), .val (.int x2), .val (.int y0), .val (.int y1), .val (.int y2), .val (.ref ar), .unset, .unset, .unset, .unset] [(.int (1 : Int32)), (.ref ar)])
      refine own_st (fun _ k => XS.iload X176.here hx rfl (hb hby at_92) rfl k) ?_
      show own_Go p e s below _ _ _ T176 (mkF m 94 #[.val (.int p0), .val (.int p1), .val (.int p2), .val (.int p3), .val (.int p4), .val (.int p5), .val (.int (2 : Int32)), .val (.int (3 : Int32)), .val (.int x0), .val (.int x1), .val (.int x2), .val (.int y0), .val (.int y1), .val (.int y2), .val (.ref ar), .unset, .unset, .unset, .unset] [(.int x1), (.int (1 : Int32)), (.ref ar)])
      obtain ⟨T178, h178, X178, e178, W178, V178, st178⟩ := own_stI X176 hx hZ e176 V_ar (j := (1 : Int32)) ⟨by decide, by decide⟩ (Nat.le_of_ble_eq_true rfl) (g := (mkF m 94 #[.val (.int p0), .val (.int p1), .val (.int p2), .val (.int p3), .val (.int p4), .val (.int p5), .val (.int (2 : Int32)), .val (.int (3 : Int32)), .val (.int x0), .val (.int x1), .val (.int x2), .val (.int y0), .val (.int y1), .val (.int y2), .val (.ref ar), .unset, .unset, .unset, .unset] [(.int x1), (.int (1 : Int32)), (.ref ar)])) rfl rfl (hb hby at_94)
      clear V_ar
      have V_ar : Arv Z h178 ar k174 .int (2 : Int32) [(.int x0), (.int x1)] (.int (0 : Int32)) := V178
      replace E_ar := E_ar.wr W178
      have Z179 := Nat.le_trans Z177 (Keep.of_wr W178).1
      have N178 := Fr.snoc X178 N176 g_ar
      refine own_st st178 ?_
      show own_Go p e s below _ _ _ T178 (mkF m 95 #[.val (.int p0), .val (.int p1), .val (.int p2), .val (.int p3), .val (.int p4), .val (.int p5), .val (.int (2 : Int32)), .val (.int (3 : Int32)), .val (.int x0), .val (.int x1), .val (.int x2), .val (.int y0), .val (.int y1), .val (.int y2), .val (.ref ar), .unset, .unset, .unset, .unset] [])
      refine own_st (fun _ k => XS.iload X178.here hx rfl (hb hby at_95) rfl k) ?_
      show own_Go p e s below _ _ _ T178 (mkF m 97 #[.val (.int p0), .val (.int p1), .val (.int p2), .val (.int p3), .val (.int p4), .val (.int p5), .val (.int (2 : Int32)), .val (.int (3 : Int32)), .val (.int x0), .val (.int x1), .val (.int x2), .val (.int y0), .val (.int y1), .val (.int y2), .val (.ref ar), .unset, .unset, .unset, .unset] [(.int (2 : Int32))])
      refine own_st (fun _ k => XS.iconst X178.here hx rfl (hb hby at_97) k) ?_
      show own_Go p e s below _ _ _ T178 (mkF m 98 #[.val (.int p0), .val (.int p1), .val (.int p2), .val (.int p3), .val (.int p4), .val (.int p5), .val (.int (2 : Int32)), .val (.int (3 : Int32)), .val (.int x0), .val (.int x1), .val (.int x2), .val (.int y0), .val (.int y1), .val (.int y2), .val (.ref ar), .unset, .unset, .unset, .unset] [(.int (2 : Int32)), (.int (2 : Int32))])
      refine own_st (fun _ k => XS.icmpYes X178.here hx rfl (pc0 := 98) (pc' := 107) rfl (hb hby at_98) rfl (by decide) (by decide) (by decide) k) ?_
      show own_Go p e s below _ _ _ T178 (mkF m 107 #[.val (.int p0), .val (.int p1), .val (.int p2), .val (.int p3), .val (.int p4), .val (.int p5), .val (.int (2 : Int32)), .val (.int (3 : Int32)), .val (.int x0), .val (.int x1), .val (.int x2), .val (.int y0), .val (.int y1), .val (.int y2), .val (.ref ar), .unset, .unset, .unset, .unset] [])
      refine own_st (fun _ k => XS.iload X178.here hx rfl (hb hby at_107) rfl k) ?_
      show own_Go p e s below _ _ _ T178 (mkF m 109 #[.val (.int p0), .val (.int p1), .val (.int p2), .val (.int p3), .val (.int p4), .val (.int p5), .val (.int (2 : Int32)), .val (.int (3 : Int32)), .val (.int x0), .val (.int x1), .val (.int x2), .val (.int y0), .val (.int y1), .val (.int y2), .val (.ref ar), .unset, .unset, .unset, .unset] [(.int (3 : Int32))])
      obtain ⟨T180, h180, k180, X180, e180, E180, A180, Ex180, st180⟩ := newPE X178 hx hZ (hw _ (List.mem_of_getElem? (i := 1) rfl)) e178 (g := (mkF m 109 #[.val (.int p0), .val (.int p1), .val (.int p2), .val (.int p3), .val (.int p4), .val (.int p5), .val (.int (2 : Int32)), .val (.int (3 : Int32)), .val (.int x0), .val (.int x1), .val (.int x2), .val (.int y0), .val (.int y1), .val (.int y2), .val (.ref ar), .unset, .unset, .unset, .unset] [(.int (3 : Int32))])) rfl (hb hby at_109) rfl (by decide) (cap := 3) (by decide) (by decide) (by decide) (by decide) (ad := "[I") (by decide)
      obtain ⟨ao, g180⟩ : ∃ z, z = h178.size := ⟨_, rfl⟩
      rw [← g180] at A180 Ex180 st180
      have g_ao : n0 ≤ ao := Nat.le_trans Z179 (Nat.le_of_eq g180.symm)
      have ne_ar_ao : ar ≠ ao := Nat.ne_of_lt (Nat.lt_of_lt_of_le E_ar.lt (Nat.le_of_eq g180.symm))
      have ne_ao_ar := Ne.symm ne_ar_ao
      replace E_ar := E_ar.ext E180
      replace V_ar := V_ar.ext E180
      have Z181 := Nat.le_trans Z179 E180.1
      have V_ao : Arv Z h180 ao k180 .int (3 : Int32) [(.int (0 : Int32)), (.int (0 : Int32)), (.int (0 : Int32))] (.int (0 : Int32)) := (Arv.new A180 (by decide)).pad (pad_rep [] (.int (0 : Int32)) 3)
      have E_ao := Ex180
      refine own_st st180 ?_
      show own_Go p e s below _ _ _ T180 (mkF m 111 #[.val (.int p0), .val (.int p1), .val (.int p2), .val (.int p3), .val (.int p4), .val (.int p5), .val (.int (2 : Int32)), .val (.int (3 : Int32)), .val (.int x0), .val (.int x1), .val (.int x2), .val (.int y0), .val (.int y1), .val (.int y2), .val (.ref ar), .unset, .unset, .unset, .unset] [(.ref ao)])
      refine own_st (fun _ k => XS.astore X180.here hx rfl (hb hby at_111) rfl rfl (l' := #[.val (.int p0), .val (.int p1), .val (.int p2), .val (.int p3), .val (.int p4), .val (.int p5), .val (.int (2 : Int32)), .val (.int (3 : Int32)), .val (.int x0), .val (.int x1), .val (.int x2), .val (.int y0), .val (.int y1), .val (.int y2), .val (.ref ar), .val (.ref ao), .unset, .unset, .unset]) rfl k) ?_
      show own_Go p e s below _ _ _ T180 (mkF m 113 #[.val (.int p0), .val (.int p1), .val (.int p2), .val (.int p3), .val (.int p4), .val (.int p5), .val (.int (2 : Int32)), .val (.int (3 : Int32)), .val (.int x0), .val (.int x1), .val (.int x2), .val (.int y0), .val (.int y1), .val (.int y2), .val (.ref ar), .val (.ref ao), .unset, .unset, .unset] [])
      refine own_st (fun _ k => XS.iload X180.here hx rfl (hb hby at_113) rfl k) ?_
      show own_Go p e s below _ _ _ T180 (mkF m 115 #[.val (.int p0), .val (.int p1), .val (.int p2), .val (.int p3), .val (.int p4), .val (.int p5), .val (.int (2 : Int32)), .val (.int (3 : Int32)), .val (.int x0), .val (.int x1), .val (.int x2), .val (.int y0), .val (.int y1), .val (.int y2), .val (.ref ar), .val (.ref ao), .unset, .unset, .unset] [(.int (3 : Int32))])
      refine own_st (fun _ k => XS.ifNo X180.here hx rfl (hb hby at_115) rfl (by decide) k) ?_
      show own_Go p e s below _ _ _ T180 (mkF m 118 #[.val (.int p0), .val (.int p1), .val (.int p2), .val (.int p3), .val (.int p4), .val (.int p5), .val (.int (2 : Int32)), .val (.int (3 : Int32)), .val (.int x0), .val (.int x1), .val (.int x2), .val (.int y0), .val (.int y1), .val (.int y2), .val (.ref ar), .val (.ref ao), .unset, .unset, .unset] [])
      refine own_st (fun _ k => XS.aload X180.here hx rfl (hb hby at_118) rfl rfl k) ?_
      show own_Go p e s below _ _ _ T180 (mkF m 120 #[.val (.int p0), .val (.int p1), .val (.int p2), .val (.int p3), .val (.int p4), .val (.int p5), .val (.int (2 : Int32)), .val (.int (3 : Int32)), .val (.int x0), .val (.int x1), .val (.int x2), .val (.int y0), .val (.int y1), .val (.int y2), .val (.ref ar), .val (.ref ao), .unset, .unset, .unset] [(.ref ao)])
      refine own_st (fun _ k => XS.iconst X180.here hx rfl (hb hby at_120) k) ?_
      show own_Go p e s below _ _ _ T180 (mkF m 121 #[.val (.int p0), .val (.int p1), .val (.int p2), .val (.int p3), .val (.int p4), .val (.int p5), .val (.int (2 : Int32)), .val (.int (3 : Int32)), .val (.int x0), .val (.int x1), .val (.int x2), .val (.int y0), .val (.int y1), .val (.int y2), .val (.ref ar), .val (.ref ao), .unset, .unset, .unset] [(.int (0 : Int32)), (.ref ao)])
      refine own_st (fun _ k => XS.iload X180.here hx rfl (hb hby at_121) rfl k) ?_
      show own_Go p e s below _ _ _ T180 (mkF m 123 #[.val (.int p0), .val (.int p1), .val (.int p2), .val (.int p3), .val (.int p4), .val (.int p5), .val (.int (2 : Int32)), .val (.int (3 : Int32)), .val (.int x0), .val (.int x1), .val (.int x2), .val (.int y0), .val (.int y1), .val (.int y2), .val (.ref ar), .val (.ref ao), .unset, .unset, .unset] [(.int y0), (.int (0 : Int32)), (.ref ao)])
      obtain ⟨T182, h182, X182, e182, W182, V182, st182⟩ := own_stI X180 hx hZ e180 V_ao (j := (0 : Int32)) ⟨by decide, by decide⟩ (Nat.le_of_ble_eq_true rfl) (g := (mkF m 123 #[.val (.int p0), .val (.int p1), .val (.int p2), .val (.int p3), .val (.int p4), .val (.int p5), .val (.int (2 : Int32)), .val (.int (3 : Int32)), .val (.int x0), .val (.int x1), .val (.int x2), .val (.int y0), .val (.int y1), .val (.int y2), .val (.ref ar), .val (.ref ao), .unset, .unset, .unset] [(.int y0), (.int (0 : Int32)), (.ref ao)])) rfl rfl (hb hby at_123)
      clear V_ao
      have V_ao : Arv Z h182 ao k180 .int (3 : Int32) [(.int y0), (.int (0 : Int32)), (.int (0 : Int32))] (.int (0 : Int32)) := V182
      replace E_ar := E_ar.wr W182
      replace V_ar := V_ar.other W182 ne_ar_ao
      replace E_ao := E_ao.wr W182
      have Z183 := Nat.le_trans Z181 (Keep.of_wr W182).1
      have N182 := Fr.snoc X182 N178 g_ao
      refine own_st st182 ?_
      show own_Go p e s below _ _ _ T182 (mkF m 124 #[.val (.int p0), .val (.int p1), .val (.int p2), .val (.int p3), .val (.int p4), .val (.int p5), .val (.int (2 : Int32)), .val (.int (3 : Int32)), .val (.int x0), .val (.int x1), .val (.int x2), .val (.int y0), .val (.int y1), .val (.int y2), .val (.ref ar), .val (.ref ao), .unset, .unset, .unset] [])
      refine own_st (fun _ k => XS.iload X182.here hx rfl (hb hby at_124) rfl k) ?_
      show own_Go p e s below _ _ _ T182 (mkF m 126 #[.val (.int p0), .val (.int p1), .val (.int p2), .val (.int p3), .val (.int p4), .val (.int p5), .val (.int (2 : Int32)), .val (.int (3 : Int32)), .val (.int x0), .val (.int x1), .val (.int x2), .val (.int y0), .val (.int y1), .val (.int y2), .val (.ref ar), .val (.ref ao), .unset, .unset, .unset] [(.int (3 : Int32))])
      refine own_st (fun _ k => XS.iconst X182.here hx rfl (hb hby at_126) k) ?_
      show own_Go p e s below _ _ _ T182 (mkF m 127 #[.val (.int p0), .val (.int p1), .val (.int p2), .val (.int p3), .val (.int p4), .val (.int p5), .val (.int (2 : Int32)), .val (.int (3 : Int32)), .val (.int x0), .val (.int x1), .val (.int x2), .val (.int y0), .val (.int y1), .val (.int y2), .val (.ref ar), .val (.ref ao), .unset, .unset, .unset] [(.int (1 : Int32)), (.int (3 : Int32))])
      refine own_st (fun _ k => XS.icmpNo X182.here hx rfl (hb hby at_127) rfl (by decide) k) ?_
      show own_Go p e s below _ _ _ T182 (mkF m 130 #[.val (.int p0), .val (.int p1), .val (.int p2), .val (.int p3), .val (.int p4), .val (.int p5), .val (.int (2 : Int32)), .val (.int (3 : Int32)), .val (.int x0), .val (.int x1), .val (.int x2), .val (.int y0), .val (.int y1), .val (.int y2), .val (.ref ar), .val (.ref ao), .unset, .unset, .unset] [])
      refine own_st (fun _ k => XS.aload X182.here hx rfl (hb hby at_130) rfl rfl k) ?_
      show own_Go p e s below _ _ _ T182 (mkF m 132 #[.val (.int p0), .val (.int p1), .val (.int p2), .val (.int p3), .val (.int p4), .val (.int p5), .val (.int (2 : Int32)), .val (.int (3 : Int32)), .val (.int x0), .val (.int x1), .val (.int x2), .val (.int y0), .val (.int y1), .val (.int y2), .val (.ref ar), .val (.ref ao), .unset, .unset, .unset] [(.ref ao)])
      refine own_st (fun _ k => XS.iconst X182.here hx rfl (hb hby at_132) k) ?_
      show own_Go p e s below _ _ _ T182 (mkF m 133 #[.val (.int p0), .val (.int p1), .val (.int p2), .val (.int p3), .val (.int p4), .val (.int p5), .val (.int (2 : Int32)), .val (.int (3 : Int32)), .val (.int x0), .val (.int x1), .val (.int x2), .val (.int y0), .val (.int y1), .val (.int y2), .val (.ref ar), .val (.ref ao), .unset, .unset, .unset] [(.int (1 : Int32)), (.ref ao)])
      refine own_st (fun _ k => XS.iload X182.here hx rfl (hb hby at_133) rfl k) ?_
      show own_Go p e s below _ _ _ T182 (mkF m 135 #[.val (.int p0), .val (.int p1), .val (.int p2), .val (.int p3), .val (.int p4), .val (.int p5), .val (.int (2 : Int32)), .val (.int (3 : Int32)), .val (.int x0), .val (.int x1), .val (.int x2), .val (.int y0), .val (.int y1), .val (.int y2), .val (.ref ar), .val (.ref ao), .unset, .unset, .unset] [(.int y1), (.int (1 : Int32)), (.ref ao)])
      obtain ⟨T184, h184, X184, e184, W184, V184, st184⟩ := own_stI X182 hx hZ e182 V_ao (j := (1 : Int32)) ⟨by decide, by decide⟩ (Nat.le_of_ble_eq_true rfl) (g := (mkF m 135 #[.val (.int p0), .val (.int p1), .val (.int p2), .val (.int p3), .val (.int p4), .val (.int p5), .val (.int (2 : Int32)), .val (.int (3 : Int32)), .val (.int x0), .val (.int x1), .val (.int x2), .val (.int y0), .val (.int y1), .val (.int y2), .val (.ref ar), .val (.ref ao), .unset, .unset, .unset] [(.int y1), (.int (1 : Int32)), (.ref ao)])) rfl rfl (hb hby at_135)
      clear V_ao
      have V_ao : Arv Z h184 ao k180 .int (3 : Int32) [(.int y0), (.int y1), (.int (0 : Int32))] (.int (0 : Int32)) := V184
      replace E_ar := E_ar.wr W184
      replace V_ar := V_ar.other W184 ne_ar_ao
      replace E_ao := E_ao.wr W184
      have Z185 := Nat.le_trans Z183 (Keep.of_wr W184).1
      have N184 := Fr.snoc X184 N182 g_ao
      refine own_st st184 ?_
      show own_Go p e s below _ _ _ T184 (mkF m 136 #[.val (.int p0), .val (.int p1), .val (.int p2), .val (.int p3), .val (.int p4), .val (.int p5), .val (.int (2 : Int32)), .val (.int (3 : Int32)), .val (.int x0), .val (.int x1), .val (.int x2), .val (.int y0), .val (.int y1), .val (.int y2), .val (.ref ar), .val (.ref ao), .unset, .unset, .unset] [])
      refine own_st (fun _ k => XS.iload X184.here hx rfl (hb hby at_136) rfl k) ?_
      show own_Go p e s below _ _ _ T184 (mkF m 138 #[.val (.int p0), .val (.int p1), .val (.int p2), .val (.int p3), .val (.int p4), .val (.int p5), .val (.int (2 : Int32)), .val (.int (3 : Int32)), .val (.int x0), .val (.int x1), .val (.int x2), .val (.int y0), .val (.int y1), .val (.int y2), .val (.ref ar), .val (.ref ao), .unset, .unset, .unset] [(.int (3 : Int32))])
      refine own_st (fun _ k => XS.iconst X184.here hx rfl (hb hby at_138) k) ?_
      show own_Go p e s below _ _ _ T184 (mkF m 139 #[.val (.int p0), .val (.int p1), .val (.int p2), .val (.int p3), .val (.int p4), .val (.int p5), .val (.int (2 : Int32)), .val (.int (3 : Int32)), .val (.int x0), .val (.int x1), .val (.int x2), .val (.int y0), .val (.int y1), .val (.int y2), .val (.ref ar), .val (.ref ao), .unset, .unset, .unset] [(.int (2 : Int32)), (.int (3 : Int32))])
      refine own_st (fun _ k => XS.icmpNo X184.here hx rfl (hb hby at_139) rfl (by decide) k) ?_
      show own_Go p e s below _ _ _ T184 (mkF m 142 #[.val (.int p0), .val (.int p1), .val (.int p2), .val (.int p3), .val (.int p4), .val (.int p5), .val (.int (2 : Int32)), .val (.int (3 : Int32)), .val (.int x0), .val (.int x1), .val (.int x2), .val (.int y0), .val (.int y1), .val (.int y2), .val (.ref ar), .val (.ref ao), .unset, .unset, .unset] [])
      refine own_st (fun _ k => XS.aload X184.here hx rfl (hb hby at_142) rfl rfl k) ?_
      show own_Go p e s below _ _ _ T184 (mkF m 144 #[.val (.int p0), .val (.int p1), .val (.int p2), .val (.int p3), .val (.int p4), .val (.int p5), .val (.int (2 : Int32)), .val (.int (3 : Int32)), .val (.int x0), .val (.int x1), .val (.int x2), .val (.int y0), .val (.int y1), .val (.int y2), .val (.ref ar), .val (.ref ao), .unset, .unset, .unset] [(.ref ao)])
      refine own_st (fun _ k => XS.iconst X184.here hx rfl (hb hby at_144) k) ?_
      show own_Go p e s below _ _ _ T184 (mkF m 145 #[.val (.int p0), .val (.int p1), .val (.int p2), .val (.int p3), .val (.int p4), .val (.int p5), .val (.int (2 : Int32)), .val (.int (3 : Int32)), .val (.int x0), .val (.int x1), .val (.int x2), .val (.int y0), .val (.int y1), .val (.int y2), .val (.ref ar), .val (.ref ao), .unset, .unset, .unset] [(.int (2 : Int32)), (.ref ao)])
      refine own_st (fun _ k => XS.iload X184.here hx rfl (hb hby at_145) rfl k) ?_
      show own_Go p e s below _ _ _ T184 (mkF m 147 #[.val (.int p0), .val (.int p1), .val (.int p2), .val (.int p3), .val (.int p4), .val (.int p5), .val (.int (2 : Int32)), .val (.int (3 : Int32)), .val (.int x0), .val (.int x1), .val (.int x2), .val (.int y0), .val (.int y1), .val (.int y2), .val (.ref ar), .val (.ref ao), .unset, .unset, .unset] [(.int y2), (.int (2 : Int32)), (.ref ao)])
      obtain ⟨T186, h186, X186, e186, W186, V186, st186⟩ := own_stI X184 hx hZ e184 V_ao (j := (2 : Int32)) ⟨by decide, by decide⟩ (Nat.le_of_ble_eq_true rfl) (g := (mkF m 147 #[.val (.int p0), .val (.int p1), .val (.int p2), .val (.int p3), .val (.int p4), .val (.int p5), .val (.int (2 : Int32)), .val (.int (3 : Int32)), .val (.int x0), .val (.int x1), .val (.int x2), .val (.int y0), .val (.int y1), .val (.int y2), .val (.ref ar), .val (.ref ao), .unset, .unset, .unset] [(.int y2), (.int (2 : Int32)), (.ref ao)])) rfl rfl (hb hby at_147)
      clear V_ao
      have V_ao : Arv Z h186 ao k180 .int (3 : Int32) [(.int y0), (.int y1), (.int y2)] (.int (0 : Int32)) := V186
      replace E_ar := E_ar.wr W186
      replace V_ar := V_ar.other W186 ne_ar_ao
      replace E_ao := E_ao.wr W186
      have Z187 := Nat.le_trans Z185 (Keep.of_wr W186).1
      have N186 := Fr.snoc X186 N184 g_ao
      refine own_st st186 ?_
      show own_Go p e s below _ _ _ T186 (mkF m 148 #[.val (.int p0), .val (.int p1), .val (.int p2), .val (.int p3), .val (.int p4), .val (.int p5), .val (.int (2 : Int32)), .val (.int (3 : Int32)), .val (.int x0), .val (.int x1), .val (.int x2), .val (.int y0), .val (.int y1), .val (.int y2), .val (.ref ar), .val (.ref ao), .unset, .unset, .unset] [])
      obtain ⟨T188, h188, X188, e188, E188, A188, D188, -, st188⟩ := newO X186 hx hZ hown (hw _ (List.mem_of_getElem? (i := 2) rfl)) (hw _ (List.mem_of_getElem? (i := 3) rfl)) (hw _ (List.mem_of_getElem? (i := 4) rfl)) e186 (g := (mkF m 148 #[.val (.int p0), .val (.int p1), .val (.int p2), .val (.int p3), .val (.int p4), .val (.int p5), .val (.int (2 : Int32)), .val (.int (3 : Int32)), .val (.int x0), .val (.int x1), .val (.int x2), .val (.int y0), .val (.int y1), .val (.int y2), .val (.ref ar), .val (.ref ao), .unset, .unset, .unset] [])) rfl (hb hby at_148) (by decide) (by decide)
      obtain ⟨bt, g188⟩ : ∃ z, z = h186.size := ⟨_, rfl⟩
      rw [← g188] at A188 D188 st188
      have g_bt : n0 ≤ bt := Nat.le_trans Z187 (Nat.le_of_eq g188.symm)
      have ne_ao_bt : ao ≠ bt := Nat.ne_of_lt (Nat.lt_of_lt_of_le E_ao.lt (Nat.le_of_eq g188.symm))
      have ne_bt_ao := Ne.symm ne_ao_bt
      have ne_ar_bt : ar ≠ bt := Nat.ne_of_lt (Nat.lt_of_lt_of_le E_ar.lt (Nat.le_of_eq g188.symm))
      have ne_bt_ar := Ne.symm ne_ar_bt
      replace E_ar := E_ar.ext E188
      replace V_ar := V_ar.ext E188
      replace E_ao := E_ao.ext E188
      replace V_ao := V_ao.ext E188
      have Z189 := Nat.le_trans Z187 E188.1
      have E_bt := A188
      have F_levels_bt : Fld Z h188 bt "com/example/hush5/hush5/model/Transformation" "levels" "[I" .null := D188 (Or.inr (hw _ (List.mem_of_getElem? (i := 21) rfl))) (ty := (.array .int)) (by decide)
      refine own_st st188 ?_
      show own_Go p e s below _ _ _ T188 (mkF m 151 #[.val (.int p0), .val (.int p1), .val (.int p2), .val (.int p3), .val (.int p4), .val (.int p5), .val (.int (2 : Int32)), .val (.int (3 : Int32)), .val (.int x0), .val (.int x1), .val (.int x2), .val (.int y0), .val (.int y1), .val (.int y2), .val (.ref ar), .val (.ref ao), .unset, .unset, .unset] [(.ref bt)])
      refine own_st (fun _ k => XS.dup X188.here hx rfl (hb hby at_151) rfl rfl k) ?_
      show own_Go p e s below _ _ _ T188 (mkF m 152 #[.val (.int p0), .val (.int p1), .val (.int p2), .val (.int p3), .val (.int p4), .val (.int p5), .val (.int (2 : Int32)), .val (.int (3 : Int32)), .val (.int x0), .val (.int x1), .val (.int x2), .val (.int y0), .val (.int y1), .val (.int y2), .val (.ref ar), .val (.ref ao), .unset, .unset, .unset] [(.ref bt), (.ref bt)])
      refine own_st (fun _ k => XS.aload X188.here hx rfl (hb hby at_152) rfl rfl k) ?_
      show own_Go p e s below _ _ _ T188 (mkF m 154 #[.val (.int p0), .val (.int p1), .val (.int p2), .val (.int p3), .val (.int p4), .val (.int p5), .val (.int (2 : Int32)), .val (.int (3 : Int32)), .val (.int x0), .val (.int x1), .val (.int x2), .val (.int y0), .val (.int y1), .val (.int y2), .val (.ref ar), .val (.ref ao), .unset, .unset, .unset] [(.ref ar), (.ref bt), (.ref bt)])
      refine own_callN X188 hx hZ (y := (⟨"com/example/hush5/hush5/model/Transformation", "<init>", "([I)V"⟩ : MethodName)) rfl hown (hw _ (List.mem_of_getElem? (i := 5) rfl)) (hw _ (List.mem_of_getElem? (i := 6) rfl)) (hw _ (List.mem_of_getElem? (i := 4) rfl)) (hw _ (List.mem_of_getElem? (i := 7) rfl)) (by decide) e188 (rm1_2 l Z a0 hw [] bt ar k174 x0 x1 h188 n0 Z189 E_bt F_levels_bt V_ar E_ar ne_bt_ar ne_ar_bt g_bt nx0 nx1) 1 (by decide) (by decide) (g := (mkF m 154 #[.val (.int p0), .val (.int p1), .val (.int p2), .val (.int p3), .val (.int p4), .val (.int p5), .val (.int (2 : Int32)), .val (.int (3 : Int32)), .val (.int x0), .val (.int x1), .val (.int x2), .val (.int y0), .val (.int y1), .val (.int y2), .val (.ref ar), .val (.ref ao), .unset, .unset, .unset] [(.ref ar), (.ref bt), (.ref bt)])) rfl (by rw [hml]; rfl) (a := bt) (argsL := [(.ref ar)]) (rest := [(.ref bt)]) pd0 rfl rfl rfl (by show 2 * 0 + _ ≤ _; exact Nat.le_of_eq rfl) (hb hby at_154) (by decide) (by decide) ?_
      intro T190 v190 L190 X190 hQ190
      obtain ⟨dt, rfl, N190q, K190q, y190_0, y190_1, y190_2, y190_3⟩ := hQ190
      have N190 := Fr.app N186 N190q
      replace E_ar := E_ar.keep K190q
      replace V_ar := V_ar.keep K190q (ninS ne_ar_bt nin0)
      replace E_ao := E_ao.keep K190q
      replace V_ao := V_ao.keep K190q (ninS ne_ao_bt nin0)
      replace E_bt := E_bt.keep K190q
      clear F_levels_bt
      have Z191 := Nat.le_trans Z189 K190q.1
      have E_bt := y190_0
      have F_levels_bt := y190_1
      have V_dt := y190_2
      have E_dt := y190_3
      show own_Go p e s below _ _ _ T190 (mkF m 157 #[.val (.int p0), .val (.int p1), .val (.int p2), .val (.int p3), .val (.int p4), .val (.int p5), .val (.int (2 : Int32)), .val (.int (3 : Int32)), .val (.int x0), .val (.int x1), .val (.int x2), .val (.int y0), .val (.int y1), .val (.int y2), .val (.ref ar), .val (.ref ao), .unset, .unset, .unset] [(.ref bt)])
      refine own_st (fun _ k => XS.astore X190.here hx rfl (hb hby at_157) rfl rfl (l' := #[.val (.int p0), .val (.int p1), .val (.int p2), .val (.int p3), .val (.int p4), .val (.int p5), .val (.int (2 : Int32)), .val (.int (3 : Int32)), .val (.int x0), .val (.int x1), .val (.int x2), .val (.int y0), .val (.int y1), .val (.int y2), .val (.ref ar), .val (.ref ao), .val (.ref bt), .unset, .unset]) rfl k) ?_
      show own_Go p e s below _ _ _ T190 (mkF m 159 #[.val (.int p0), .val (.int p1), .val (.int p2), .val (.int p3), .val (.int p4), .val (.int p5), .val (.int (2 : Int32)), .val (.int (3 : Int32)), .val (.int x0), .val (.int x1), .val (.int x2), .val (.int y0), .val (.int y1), .val (.int y2), .val (.ref ar), .val (.ref ao), .val (.ref bt), .unset, .unset] [])
      obtain ⟨T192, h192, X192, e192, E192, A192, D192, -, st192⟩ := newO X190 hx hZ hown (hw _ (List.mem_of_getElem? (i := 2) rfl)) (hw _ (List.mem_of_getElem? (i := 3) rfl)) (hw _ (List.mem_of_getElem? (i := 4) rfl)) rfl (g := (mkF m 159 #[.val (.int p0), .val (.int p1), .val (.int p2), .val (.int p3), .val (.int p4), .val (.int p5), .val (.int (2 : Int32)), .val (.int (3 : Int32)), .val (.int x0), .val (.int x1), .val (.int x2), .val (.int y0), .val (.int y1), .val (.int y2), .val (.ref ar), .val (.ref ao), .val (.ref bt), .unset, .unset] [])) rfl (hb hby at_159) (by decide) (by decide)
      obtain ⟨bu, g192⟩ : ∃ z, z = T190.heap.size := ⟨_, rfl⟩
      rw [← g192] at A192 D192 st192
      have g_bu : n0 ≤ bu := Nat.le_trans Z191 (Nat.le_of_eq g192.symm)
      have ne_ao_bu : ao ≠ bu := Nat.ne_of_lt (Nat.lt_of_lt_of_le E_ao.lt (Nat.le_of_eq g192.symm))
      have ne_bu_ao := Ne.symm ne_ao_bu
      have ne_ar_bu : ar ≠ bu := Nat.ne_of_lt (Nat.lt_of_lt_of_le E_ar.lt (Nat.le_of_eq g192.symm))
      have ne_bu_ar := Ne.symm ne_ar_bu
      have ne_bt_bu : bt ≠ bu := Nat.ne_of_lt (Nat.lt_of_lt_of_le E_bt.lt (Nat.le_of_eq g192.symm))
      have ne_bu_bt := Ne.symm ne_bt_bu
      have ne_dt_bu : dt ≠ bu := Nat.ne_of_lt (Nat.lt_of_lt_of_le V_dt.lt (Nat.le_of_eq g192.symm))
      have ne_bu_dt := Ne.symm ne_dt_bu
      replace E_ar := E_ar.ext E192
      replace V_ar := V_ar.ext E192
      replace E_ao := E_ao.ext E192
      replace V_ao := V_ao.ext E192
      replace E_bt := E_bt.ext E192
      replace F_levels_bt := F_levels_bt.ext E192
      replace V_dt := V_dt.ext E192
      replace E_dt := E_dt.ext E192
      have Z193 := Nat.le_trans Z191 E192.1
      have E_bu := A192
      have F_levels_bu : Fld Z h192 bu "com/example/hush5/hush5/model/Transformation" "levels" "[I" .null := D192 (Or.inr (hw _ (List.mem_of_getElem? (i := 21) rfl))) (ty := (.array .int)) (by decide)
      refine own_st st192 ?_
      show own_Go p e s below _ _ _ T192 (mkF m 162 #[.val (.int p0), .val (.int p1), .val (.int p2), .val (.int p3), .val (.int p4), .val (.int p5), .val (.int (2 : Int32)), .val (.int (3 : Int32)), .val (.int x0), .val (.int x1), .val (.int x2), .val (.int y0), .val (.int y1), .val (.int y2), .val (.ref ar), .val (.ref ao), .val (.ref bt), .unset, .unset] [(.ref bu)])
      refine own_st (fun _ k => XS.dup X192.here hx rfl (hb hby at_162) rfl rfl k) ?_
      show own_Go p e s below _ _ _ T192 (mkF m 163 #[.val (.int p0), .val (.int p1), .val (.int p2), .val (.int p3), .val (.int p4), .val (.int p5), .val (.int (2 : Int32)), .val (.int (3 : Int32)), .val (.int x0), .val (.int x1), .val (.int x2), .val (.int y0), .val (.int y1), .val (.int y2), .val (.ref ar), .val (.ref ao), .val (.ref bt), .unset, .unset] [(.ref bu), (.ref bu)])
      refine own_st (fun _ k => XS.aload X192.here hx rfl (hb hby at_163) rfl rfl k) ?_
      show own_Go p e s below _ _ _ T192 (mkF m 165 #[.val (.int p0), .val (.int p1), .val (.int p2), .val (.int p3), .val (.int p4), .val (.int p5), .val (.int (2 : Int32)), .val (.int (3 : Int32)), .val (.int x0), .val (.int x1), .val (.int x2), .val (.int y0), .val (.int y1), .val (.int y2), .val (.ref ar), .val (.ref ao), .val (.ref bt), .unset, .unset] [(.ref ao), (.ref bu), (.ref bu)])
      refine own_callN X192 hx hZ (y := (⟨"com/example/hush5/hush5/model/Transformation", "<init>", "([I)V"⟩ : MethodName)) rfl hown (hw _ (List.mem_of_getElem? (i := 5) rfl)) (hw _ (List.mem_of_getElem? (i := 6) rfl)) (hw _ (List.mem_of_getElem? (i := 4) rfl)) (hw _ (List.mem_of_getElem? (i := 7) rfl)) (by decide) e192 (rm1_3 l Z a0 hw [] bu ao k180 y0 y1 y2 h192 n0 Z193 E_bu F_levels_bu V_ao E_ao ne_bu_ao ne_ao_bu g_bu ny0 ny1 ny2) 1 (by decide) (by decide) (g := (mkF m 165 #[.val (.int p0), .val (.int p1), .val (.int p2), .val (.int p3), .val (.int p4), .val (.int p5), .val (.int (2 : Int32)), .val (.int (3 : Int32)), .val (.int x0), .val (.int x1), .val (.int x2), .val (.int y0), .val (.int y1), .val (.int y2), .val (.ref ar), .val (.ref ao), .val (.ref bt), .unset, .unset] [(.ref ao), (.ref bu), (.ref bu)])) rfl (by rw [hml]; rfl) (a := bu) (argsL := [(.ref ao)]) (rest := [(.ref bu)]) pd0 rfl rfl rfl (by show 2 * 0 + _ ≤ _; exact Nat.le_of_eq rfl) (hb hby at_165) (by decide) (by decide) ?_
      intro T194 v194 L194 X194 hQ194
      obtain ⟨du, rfl, N194q, K194q, y194_0, y194_1, y194_2, y194_3⟩ := hQ194
      have N194 := Fr.app N190 N194q
      replace E_ar := E_ar.keep K194q
      replace V_ar := V_ar.keep K194q (ninS ne_ar_bu nin0)
      replace E_ao := E_ao.keep K194q
      replace V_ao := V_ao.keep K194q (ninS ne_ao_bu nin0)
      replace E_bt := E_bt.keep K194q
      replace F_levels_bt := F_levels_bt.keep K194q (ninS ne_bt_bu nin0)
      replace V_dt := V_dt.keep K194q (ninS ne_dt_bu nin0)
      replace E_dt := E_dt.keep K194q
      replace E_bu := E_bu.keep K194q
      clear F_levels_bu
      have Z195 := Nat.le_trans Z193 K194q.1
      have E_bu := y194_0
      have F_levels_bu := y194_1
      have V_du := y194_2
      have E_du := y194_3
      show own_Go p e s below _ _ _ T194 (mkF m 168 #[.val (.int p0), .val (.int p1), .val (.int p2), .val (.int p3), .val (.int p4), .val (.int p5), .val (.int (2 : Int32)), .val (.int (3 : Int32)), .val (.int x0), .val (.int x1), .val (.int x2), .val (.int y0), .val (.int y1), .val (.int y2), .val (.ref ar), .val (.ref ao), .val (.ref bt), .unset, .unset] [(.ref bu)])
      refine own_st (fun _ k => XS.astore X194.here hx rfl (hb hby at_168) rfl rfl (l' := #[.val (.int p0), .val (.int p1), .val (.int p2), .val (.int p3), .val (.int p4), .val (.int p5), .val (.int (2 : Int32)), .val (.int (3 : Int32)), .val (.int x0), .val (.int x1), .val (.int x2), .val (.int y0), .val (.int y1), .val (.int y2), .val (.ref ar), .val (.ref ao), .val (.ref bt), .val (.ref bu), .unset]) rfl k) ?_
      show own_Go p e s below _ _ _ T194 (mkF m 170 #[.val (.int p0), .val (.int p1), .val (.int p2), .val (.int p3), .val (.int p4), .val (.int p5), .val (.int (2 : Int32)), .val (.int (3 : Int32)), .val (.int x0), .val (.int x1), .val (.int x2), .val (.int y0), .val (.int y1), .val (.int y2), .val (.ref ar), .val (.ref ao), .val (.ref bt), .val (.ref bu), .unset] [])
      refine own_st (fun _ k => XS.iload X194.here hx rfl (hb hby at_170) rfl k) ?_
      show own_Go p e s below _ _ _ T194 (mkF m 172 #[.val (.int p0), .val (.int p1), .val (.int p2), .val (.int p3), .val (.int p4), .val (.int p5), .val (.int (2 : Int32)), .val (.int (3 : Int32)), .val (.int x0), .val (.int x1), .val (.int x2), .val (.int y0), .val (.int y1), .val (.int y2), .val (.ref ar), .val (.ref ao), .val (.ref bt), .val (.ref bu), .unset] [(.int (2 : Int32))])
      refine own_st (fun _ k => XS.iconst X194.here hx rfl (hb hby at_172) k) ?_
      show own_Go p e s below _ _ _ T194 (mkF m 173 #[.val (.int p0), .val (.int p1), .val (.int p2), .val (.int p3), .val (.int p4), .val (.int p5), .val (.int (2 : Int32)), .val (.int (3 : Int32)), .val (.int x0), .val (.int x1), .val (.int x2), .val (.int y0), .val (.int y1), .val (.int y2), .val (.ref ar), .val (.ref ao), .val (.ref bt), .val (.ref bu), .unset] [(.int (1 : Int32)), (.int (2 : Int32))])
      have J214 : ∀  (bz : Int32) (_ : bz = own_b (¬ y0 < x0 ∧ ¬ y1 < x1)), own_Go p e s below (fun (v : Option Value) (h : Heap) (L : List Loc) => v = some (.int 1) ∧ Fr n0 L) 24 128 T194 (mkF m 214 #[.val (.int p0), .val (.int p1), .val (.int p2), .val (.int p3), .val (.int p4), .val (.int p5), .val (.int (2 : Int32)), .val (.int (3 : Int32)), .val (.int x0), .val (.int x1), .val (.int x2), .val (.int y0), .val (.int y1), .val (.int y2), .val (.ref ar), .val (.ref ao), .val (.ref bt), .val (.ref bu), .unset] [(.int bz)]) := by
        rintro _ rfl
        show own_Go p e s below _ _ _ T194 (mkF m 214 #[.val (.int p0), .val (.int p1), .val (.int p2), .val (.int p3), .val (.int p4), .val (.int p5), .val (.int (2 : Int32)), .val (.int (3 : Int32)), .val (.int x0), .val (.int x1), .val (.int x2), .val (.int y0), .val (.int y1), .val (.int y2), .val (.ref ar), .val (.ref ao), .val (.ref bt), .val (.ref bu), .unset] [(.int (own_b (¬ y0 < x0 ∧ ¬ y1 < x1)))])
        refine own_st (fun _ k => XS.istore X194.here hx rfl (hb hby at_214) rfl (l' := #[.val (.int p0), .val (.int p1), .val (.int p2), .val (.int p3), .val (.int p4), .val (.int p5), .val (.int (2 : Int32)), .val (.int (3 : Int32)), .val (.int x0), .val (.int x1), .val (.int x2), .val (.int y0), .val (.int y1), .val (.int y2), .val (.ref ar), .val (.ref ao), .val (.ref bt), .val (.ref bu), .val (.int (own_b (¬ y0 < x0 ∧ ¬ y1 < x1)))]) rfl k) ?_
        show own_Go p e s below _ _ _ T194 (mkF m 216 #[.val (.int p0), .val (.int p1), .val (.int p2), .val (.int p3), .val (.int p4), .val (.int p5), .val (.int (2 : Int32)), .val (.int (3 : Int32)), .val (.int x0), .val (.int x1), .val (.int x2), .val (.int y0), .val (.int y1), .val (.int y2), .val (.ref ar), .val (.ref ao), .val (.ref bt), .val (.ref bu), .val (.int (own_b (¬ y0 < x0 ∧ ¬ y1 < x1)))] [])
        refine own_st (fun _ k => XS.aload X194.here hx rfl (hb hby at_216) rfl rfl k) ?_
        show own_Go p e s below _ _ _ T194 (mkF m 218 #[.val (.int p0), .val (.int p1), .val (.int p2), .val (.int p3), .val (.int p4), .val (.int p5), .val (.int (2 : Int32)), .val (.int (3 : Int32)), .val (.int x0), .val (.int x1), .val (.int x2), .val (.int y0), .val (.int y1), .val (.int y2), .val (.ref ar), .val (.ref ao), .val (.ref bt), .val (.ref bu), .val (.int (own_b (¬ y0 < x0 ∧ ¬ y1 < x1)))] [(.ref bt)])
        refine own_st (fun _ k => XS.aload X194.here hx rfl (hb hby at_218) rfl rfl k) ?_
        show own_Go p e s below _ _ _ T194 (mkF m 220 #[.val (.int p0), .val (.int p1), .val (.int p2), .val (.int p3), .val (.int p4), .val (.int p5), .val (.int (2 : Int32)), .val (.int (3 : Int32)), .val (.int x0), .val (.int x1), .val (.int x2), .val (.int y0), .val (.int y1), .val (.int y2), .val (.ref ar), .val (.ref ao), .val (.ref bt), .val (.ref bu), .val (.int (own_b (¬ y0 < x0 ∧ ¬ y1 < x1)))] [(.ref bu), (.ref bt)])
        refine own_callV X194 hx hZ (y := (⟨"com/example/hush5/hush5/model/Transformation", "liesAtOrBelow", "(Lcom/example/hush5/hush5/model/Transformation;)Z"⟩ : MethodName)) hown (hw _ (List.mem_of_getElem? (i := 22) rfl)) (hw _ (List.mem_of_getElem? (i := 23) rfl)) (hw _ (List.mem_of_getElem? (i := 25) rfl)) (hw _ (List.mem_of_getElem? (i := 24) rfl)) (hw _ (List.mem_of_getElem? (i := 4) rfl)) (hw _ (List.mem_of_getElem? (i := 26) rfl)) (by decide) rfl (rm3_2_3 l Z a0 hw [] bt bu dt du k174 k180 x0 x1 y0 y1 y2 T194.heap n0 Z195 F_levels_bt F_levels_bu V_dt V_du) 0 (by decide) (by decide) E_bt (g := (mkF m 220 #[.val (.int p0), .val (.int p1), .val (.int p2), .val (.int p3), .val (.int p4), .val (.int p5), .val (.int (2 : Int32)), .val (.int (3 : Int32)), .val (.int x0), .val (.int x1), .val (.int x2), .val (.int y0), .val (.int y1), .val (.int y2), .val (.ref ar), .val (.ref ao), .val (.ref bt), .val (.ref bu), .val (.int (own_b (¬ y0 < x0 ∧ ¬ y1 < x1)))] [(.ref bu), (.ref bt)])) rfl (by rw [hml]; rfl) (argsL := [(.ref bu)]) (rest := []) pd1 rfl rfl rfl (by show 2 * 0 + _ ≤ _; exact Nat.le_of_eq rfl) (hb hby at_220) (by decide) (by decide) ?_
        intro T196 v196 L196 X196 hQ196
        obtain ⟨rfl, N196q, e196⟩ := hQ196
        have N196 := Fr.app N194 N196q
        show own_Go p e s below _ _ _ T196 (mkF m 223 #[.val (.int p0), .val (.int p1), .val (.int p2), .val (.int p3), .val (.int p4), .val (.int p5), .val (.int (2 : Int32)), .val (.int (3 : Int32)), .val (.int x0), .val (.int x1), .val (.int x2), .val (.int y0), .val (.int y1), .val (.int y2), .val (.ref ar), .val (.ref ao), .val (.ref bt), .val (.ref bu), .val (.int (own_b (¬ y0 < x0 ∧ ¬ y1 < x1)))] [(.int (own_b (¬ y0 < x0 ∧ ¬ y1 < x1)))])
        refine own_st (fun _ k => XS.iload X196.here hx rfl (hb hby at_223) rfl k) ?_
        show own_Go p e s below _ _ _ T196 (mkF m 225 #[.val (.int p0), .val (.int p1), .val (.int p2), .val (.int p3), .val (.int p4), .val (.int p5), .val (.int (2 : Int32)), .val (.int (3 : Int32)), .val (.int x0), .val (.int x1), .val (.int x2), .val (.int y0), .val (.int y1), .val (.int y2), .val (.ref ar), .val (.ref ao), .val (.ref bt), .val (.ref bu), .val (.int (own_b (¬ y0 < x0 ∧ ¬ y1 < x1)))] [(.int (own_b (¬ y0 < x0 ∧ ¬ y1 < x1))), (.int (own_b (¬ y0 < x0 ∧ ¬ y1 < x1)))])
        refine own_st (fun _ k => XS.icmpNo X196.here hx rfl (hb hby at_225) rfl (teq (rfl : (own_b (¬ y0 < x0 ∧ ¬ y1 < x1)) = (own_b (¬ y0 < x0 ∧ ¬ y1 < x1)))).2 k) ?_
        show own_Go p e s below _ _ _ T196 (mkF m 228 #[.val (.int p0), .val (.int p1), .val (.int p2), .val (.int p3), .val (.int p4), .val (.int p5), .val (.int (2 : Int32)), .val (.int (3 : Int32)), .val (.int x0), .val (.int x1), .val (.int x2), .val (.int y0), .val (.int y1), .val (.int y2), .val (.ref ar), .val (.ref ao), .val (.ref bt), .val (.ref bu), .val (.int (own_b (¬ y0 < x0 ∧ ¬ y1 < x1)))] [])
        refine own_st (fun _ k => XS.iconst X196.here hx rfl (hb hby at_228) k) ?_
        show own_Go p e s below _ _ _ T196 (mkF m 229 #[.val (.int p0), .val (.int p1), .val (.int p2), .val (.int p3), .val (.int p4), .val (.int p5), .val (.int (2 : Int32)), .val (.int (3 : Int32)), .val (.int x0), .val (.int x1), .val (.int x2), .val (.int y0), .val (.int y1), .val (.int y2), .val (.ref ar), .val (.ref ao), .val (.ref bt), .val (.ref bu), .val (.int (own_b (¬ y0 < x0 ∧ ¬ y1 < x1)))] [(.int (1 : Int32))])
        refine own_st (fun _ k => XS.goto X196.here hx rfl (pc0 := 229) (pc' := 233) rfl (hb hby at_229) (by decide) (by decide) k) ?_
        show own_Go p e s below _ _ _ T196 (mkF m 233 #[.val (.int p0), .val (.int p1), .val (.int p2), .val (.int p3), .val (.int p4), .val (.int p5), .val (.int (2 : Int32)), .val (.int (3 : Int32)), .val (.int x0), .val (.int x1), .val (.int x2), .val (.int y0), .val (.int y1), .val (.int y2), .val (.ref ar), .val (.ref ao), .val (.ref bt), .val (.ref bu), .val (.int (own_b (¬ y0 < x0 ∧ ¬ y1 < x1)))] [(.int (1 : Int32))])
        exact own_retN X196 hx hlk (t := .boolean) hret (by simp) (hb hby at_233) (z' := (1 : Int32)) rfl (by decide) (by decide) ⟨rfl, N196⟩
      refine own_st (fun _ k => XS.icmpNo X194.here hx rfl (hb hby at_173) rfl (by decide) k) ?_
      show own_Go p e s below _ _ _ T194 (mkF m 176 #[.val (.int p0), .val (.int p1), .val (.int p2), .val (.int p3), .val (.int p4), .val (.int p5), .val (.int (2 : Int32)), .val (.int (3 : Int32)), .val (.int x0), .val (.int x1), .val (.int x2), .val (.int y0), .val (.int y1), .val (.int y2), .val (.ref ar), .val (.ref ao), .val (.ref bt), .val (.ref bu), .unset] [])
      refine own_st (fun _ k => XS.iload X194.here hx rfl (hb hby at_176) rfl k) ?_
      show own_Go p e s below _ _ _ T194 (mkF m 178 #[.val (.int p0), .val (.int p1), .val (.int p2), .val (.int p3), .val (.int p4), .val (.int p5), .val (.int (2 : Int32)), .val (.int (3 : Int32)), .val (.int x0), .val (.int x1), .val (.int x2), .val (.int y0), .val (.int y1), .val (.int y2), .val (.ref ar), .val (.ref ao), .val (.ref bt), .val (.ref bu), .unset] [(.int x0)])
      refine own_st (fun _ k => XS.iload X194.here hx rfl (hb hby at_178) rfl k) ?_
      show own_Go p e s below _ _ _ T194 (mkF m 180 #[.val (.int p0), .val (.int p1), .val (.int p2), .val (.int p3), .val (.int p4), .val (.int p5), .val (.int (2 : Int32)), .val (.int (3 : Int32)), .val (.int x0), .val (.int x1), .val (.int x2), .val (.int y0), .val (.int y1), .val (.int y2), .val (.ref ar), .val (.ref ao), .val (.ref bt), .val (.ref bu), .unset] [(.int y0), (.int x0)])
      by_cases c180_197 : y0 < x0
      · refine own_st (fun _ k => XS.icmpYes X194.here hx rfl (pc0 := 180) (pc' := 213) rfl (hb hby at_180) rfl (tlt c180_197).2.2.1 (by decide) (by decide) k) ?_
        show own_Go p e s below _ _ _ T194 (mkF m 213 #[.val (.int p0), .val (.int p1), .val (.int p2), .val (.int p3), .val (.int p4), .val (.int p5), .val (.int (2 : Int32)), .val (.int (3 : Int32)), .val (.int x0), .val (.int x1), .val (.int x2), .val (.int y0), .val (.int y1), .val (.int y2), .val (.ref ar), .val (.ref ao), .val (.ref bt), .val (.ref bu), .unset] [])
        refine own_st (fun _ k => XS.iconst X194.here hx rfl (hb hby at_213) k) ?_
        show own_Go p e s below _ _ _ T194 (mkF m 214 #[.val (.int p0), .val (.int p1), .val (.int p2), .val (.int p3), .val (.int p4), .val (.int p5), .val (.int (2 : Int32)), .val (.int (3 : Int32)), .val (.int x0), .val (.int x1), .val (.int x2), .val (.int y0), .val (.int y1), .val (.int y2), .val (.ref ar), .val (.ref ao), .val (.ref bt), .val (.ref bu), .unset] [(.int (0 : Int32))])
        exact J214  _ (by rw [own_bf (P := (¬ y0 < x0 ∧ ¬ y1 < x1)) (by simp [c17_150, c180_197])])
      · refine own_st (fun _ k => XS.icmpNo X194.here hx rfl (hb hby at_180) rfl (flt c180_197).2.2.1 k) ?_
        show own_Go p e s below _ _ _ T194 (mkF m 183 #[.val (.int p0), .val (.int p1), .val (.int p2), .val (.int p3), .val (.int p4), .val (.int p5), .val (.int (2 : Int32)), .val (.int (3 : Int32)), .val (.int x0), .val (.int x1), .val (.int x2), .val (.int y0), .val (.int y1), .val (.int y2), .val (.ref ar), .val (.ref ao), .val (.ref bt), .val (.ref bu), .unset] [])
        refine own_st (fun _ k => XS.iload X194.here hx rfl (hb hby at_183) rfl k) ?_
        show own_Go p e s below _ _ _ T194 (mkF m 185 #[.val (.int p0), .val (.int p1), .val (.int p2), .val (.int p3), .val (.int p4), .val (.int p5), .val (.int (2 : Int32)), .val (.int (3 : Int32)), .val (.int x0), .val (.int x1), .val (.int x2), .val (.int y0), .val (.int y1), .val (.int y2), .val (.ref ar), .val (.ref ao), .val (.ref bt), .val (.ref bu), .unset] [(.int (2 : Int32))])
        refine own_st (fun _ k => XS.iconst X194.here hx rfl (hb hby at_185) k) ?_
        show own_Go p e s below _ _ _ T194 (mkF m 186 #[.val (.int p0), .val (.int p1), .val (.int p2), .val (.int p3), .val (.int p4), .val (.int p5), .val (.int (2 : Int32)), .val (.int (3 : Int32)), .val (.int x0), .val (.int x1), .val (.int x2), .val (.int y0), .val (.int y1), .val (.int y2), .val (.ref ar), .val (.ref ao), .val (.ref bt), .val (.ref bu), .unset] [(.int (2 : Int32)), (.int (2 : Int32))])
        refine own_st (fun _ k => XS.icmpNo X194.here hx rfl (hb hby at_186) rfl (by decide) k) ?_
        show own_Go p e s below _ _ _ T194 (mkF m 189 #[.val (.int p0), .val (.int p1), .val (.int p2), .val (.int p3), .val (.int p4), .val (.int p5), .val (.int (2 : Int32)), .val (.int (3 : Int32)), .val (.int x0), .val (.int x1), .val (.int x2), .val (.int y0), .val (.int y1), .val (.int y2), .val (.ref ar), .val (.ref ao), .val (.ref bt), .val (.ref bu), .unset] [])
        refine own_st (fun _ k => XS.iload X194.here hx rfl (hb hby at_189) rfl k) ?_
        show own_Go p e s below _ _ _ T194 (mkF m 191 #[.val (.int p0), .val (.int p1), .val (.int p2), .val (.int p3), .val (.int p4), .val (.int p5), .val (.int (2 : Int32)), .val (.int (3 : Int32)), .val (.int x0), .val (.int x1), .val (.int x2), .val (.int y0), .val (.int y1), .val (.int y2), .val (.ref ar), .val (.ref ao), .val (.ref bt), .val (.ref bu), .unset] [(.int x1)])
        refine own_st (fun _ k => XS.iload X194.here hx rfl (hb hby at_191) rfl k) ?_
        show own_Go p e s below _ _ _ T194 (mkF m 193 #[.val (.int p0), .val (.int p1), .val (.int p2), .val (.int p3), .val (.int p4), .val (.int p5), .val (.int (2 : Int32)), .val (.int (3 : Int32)), .val (.int x0), .val (.int x1), .val (.int x2), .val (.int y0), .val (.int y1), .val (.int y2), .val (.ref ar), .val (.ref ao), .val (.ref bt), .val (.ref bu), .unset] [(.int y1), (.int x1)])
        by_cases c193_198 : y1 < x1
        · refine own_st (fun _ k => XS.icmpYes X194.here hx rfl (pc0 := 193) (pc' := 213) rfl (hb hby at_193) rfl (tlt c193_198).2.2.1 (by decide) (by decide) k) ?_
          show own_Go p e s below _ _ _ T194 (mkF m 213 #[.val (.int p0), .val (.int p1), .val (.int p2), .val (.int p3), .val (.int p4), .val (.int p5), .val (.int (2 : Int32)), .val (.int (3 : Int32)), .val (.int x0), .val (.int x1), .val (.int x2), .val (.int y0), .val (.int y1), .val (.int y2), .val (.ref ar), .val (.ref ao), .val (.ref bt), .val (.ref bu), .unset] [])
          refine own_st (fun _ k => XS.iconst X194.here hx rfl (hb hby at_213) k) ?_
          show own_Go p e s below _ _ _ T194 (mkF m 214 #[.val (.int p0), .val (.int p1), .val (.int p2), .val (.int p3), .val (.int p4), .val (.int p5), .val (.int (2 : Int32)), .val (.int (3 : Int32)), .val (.int x0), .val (.int x1), .val (.int x2), .val (.int y0), .val (.int y1), .val (.int y2), .val (.ref ar), .val (.ref ao), .val (.ref bt), .val (.ref bu), .unset] [(.int (0 : Int32))])
          exact J214  _ (by rw [own_bf (P := (¬ y0 < x0 ∧ ¬ y1 < x1)) (by simp [c180_197, c193_198])])
        · refine own_st (fun _ k => XS.icmpNo X194.here hx rfl (hb hby at_193) rfl (flt c193_198).2.2.1 k) ?_
          show own_Go p e s below _ _ _ T194 (mkF m 196 #[.val (.int p0), .val (.int p1), .val (.int p2), .val (.int p3), .val (.int p4), .val (.int p5), .val (.int (2 : Int32)), .val (.int (3 : Int32)), .val (.int x0), .val (.int x1), .val (.int x2), .val (.int y0), .val (.int y1), .val (.int y2), .val (.ref ar), .val (.ref ao), .val (.ref bt), .val (.ref bu), .unset] [])
          refine own_st (fun _ k => XS.iload X194.here hx rfl (hb hby at_196) rfl k) ?_
          show own_Go p e s below _ _ _ T194 (mkF m 198 #[.val (.int p0), .val (.int p1), .val (.int p2), .val (.int p3), .val (.int p4), .val (.int p5), .val (.int (2 : Int32)), .val (.int (3 : Int32)), .val (.int x0), .val (.int x1), .val (.int x2), .val (.int y0), .val (.int y1), .val (.int y2), .val (.ref ar), .val (.ref ao), .val (.ref bt), .val (.ref bu), .unset] [(.int (2 : Int32))])
          refine own_st (fun _ k => XS.iconst X194.here hx rfl (hb hby at_198) k) ?_
          show own_Go p e s below _ _ _ T194 (mkF m 199 #[.val (.int p0), .val (.int p1), .val (.int p2), .val (.int p3), .val (.int p4), .val (.int p5), .val (.int (2 : Int32)), .val (.int (3 : Int32)), .val (.int x0), .val (.int x1), .val (.int x2), .val (.int y0), .val (.int y1), .val (.int y2), .val (.ref ar), .val (.ref ao), .val (.ref bt), .val (.ref bu), .unset] [(.int (3 : Int32)), (.int (2 : Int32))])
          refine own_st (fun _ k => XS.icmpYes X194.here hx rfl (pc0 := 199) (pc' := 209) rfl (hb hby at_199) rfl (by decide) (by decide) (by decide) k) ?_
          show own_Go p e s below _ _ _ T194 (mkF m 209 #[.val (.int p0), .val (.int p1), .val (.int p2), .val (.int p3), .val (.int p4), .val (.int p5), .val (.int (2 : Int32)), .val (.int (3 : Int32)), .val (.int x0), .val (.int x1), .val (.int x2), .val (.int y0), .val (.int y1), .val (.int y2), .val (.ref ar), .val (.ref ao), .val (.ref bt), .val (.ref bu), .unset] [])
          refine own_st (fun _ k => XS.iconst X194.here hx rfl (hb hby at_209) k) ?_
          show own_Go p e s below _ _ _ T194 (mkF m 210 #[.val (.int p0), .val (.int p1), .val (.int p2), .val (.int p3), .val (.int p4), .val (.int p5), .val (.int (2 : Int32)), .val (.int (3 : Int32)), .val (.int x0), .val (.int x1), .val (.int x2), .val (.int y0), .val (.int y1), .val (.int y2), .val (.ref ar), .val (.ref ao), .val (.ref bt), .val (.ref bu), .unset] [(.int (1 : Int32))])
          refine own_st (fun _ k => XS.goto X194.here hx rfl (pc0 := 210) (pc' := 214) rfl (hb hby at_210) (by decide) (by decide) k) ?_
          show own_Go p e s below _ _ _ T194 (mkF m 214 #[.val (.int p0), .val (.int p1), .val (.int p2), .val (.int p3), .val (.int p4), .val (.int p5), .val (.int (2 : Int32)), .val (.int (3 : Int32)), .val (.int x0), .val (.int x1), .val (.int x2), .val (.int y0), .val (.int y1), .val (.int y2), .val (.ref ar), .val (.ref ao), .val (.ref bt), .val (.ref bu), .unset] [(.int (1 : Int32))])
          exact J214  _ (by rw [own_bt (P := (¬ y0 < x0 ∧ ¬ y1 < x1)) (by simp [c180_197, c193_198])])
  · show own_Go p e s below _ _ _ T0 (mkF m 11 #[.val (.int p0), .val (.int p1), .val (.int p2), .val (.int p3), .val (.int p4), .val (.int p5), .unset, .unset, .unset, .unset, .unset, .unset, .unset, .unset, .unset, .unset, .unset, .unset, .unset] [(.int (3 : Int32))])
    refine own_st (fun _ k => XS.istore X0.here hx rfl (hb hby at_11) rfl (l' := #[.val (.int p0), .val (.int p1), .val (.int p2), .val (.int p3), .val (.int p4), .val (.int p5), .val (.int (3 : Int32)), .unset, .unset, .unset, .unset, .unset, .unset, .unset, .unset, .unset, .unset, .unset, .unset]) rfl k) ?_
    show own_Go p e s below _ _ _ T0 (mkF m 13 #[.val (.int p0), .val (.int p1), .val (.int p2), .val (.int p3), .val (.int p4), .val (.int p5), .val (.int (3 : Int32)), .unset, .unset, .unset, .unset, .unset, .unset, .unset, .unset, .unset, .unset, .unset, .unset] [])
    refine own_st (fun _ k => XS.iloadN X0.here hx rfl (hb hby at_13) rfl k) ?_
    show own_Go p e s below _ _ _ T0 (mkF m 14 #[.val (.int p0), .val (.int p1), .val (.int p2), .val (.int p3), .val (.int p4), .val (.int p5), .val (.int (3 : Int32)), .unset, .unset, .unset, .unset, .unset, .unset, .unset, .unset, .unset, .unset, .unset, .unset] [(.int p2)])
    refine own_st (fun _ k => XS.bipush X0.here hx rfl (hb hby at_14) k) ?_
    show own_Go p e s below _ _ _ T0 (mkF m 16 #[.val (.int p0), .val (.int p1), .val (.int p2), .val (.int p3), .val (.int p4), .val (.int p5), .val (.int (3 : Int32)), .unset, .unset, .unset, .unset, .unset, .unset, .unset, .unset, .unset, .unset, .unset, .unset] [(.int (31 : Int32)), (.int p2)])
    refine own_st (fun _ k => XS.iushr X0.here hx rfl (hb hby at_16) rfl k) ?_
    show own_Go p e s below _ _ _ T0 (mkF m 17 #[.val (.int p0), .val (.int p1), .val (.int p2), .val (.int p3), .val (.int p4), .val (.int p5), .val (.int (3 : Int32)), .unset, .unset, .unset, .unset, .unset, .unset, .unset, .unset, .unset, .unset, .unset, .unset] [(.int ((p2.toUInt32 >>> ((31 : Int32) &&& 31).toUInt32).toInt32))])
    by_cases c17_199 : ((p2.toUInt32 >>> ((31 : Int32) &&& 31).toUInt32).toInt32) = (0 : Int32)
    · refine own_st (fun _ k => XS.ifYes X0.here hx rfl (pc0 := 17) (pc' := 24) rfl (hb hby at_17) rfl ((if0 _ _).trans (teq c17_199).1) (by decide) (by decide) k) ?_
      show own_Go p e s below _ _ _ T0 (mkF m 24 #[.val (.int p0), .val (.int p1), .val (.int p2), .val (.int p3), .val (.int p4), .val (.int p5), .val (.int (3 : Int32)), .unset, .unset, .unset, .unset, .unset, .unset, .unset, .unset, .unset, .unset, .unset, .unset] [])
      refine own_st (fun _ k => XS.iload X0.here hx rfl (hb hby at_24) rfl k) ?_
      show own_Go p e s below _ _ _ T0 (mkF m 26 #[.val (.int p0), .val (.int p1), .val (.int p2), .val (.int p3), .val (.int p4), .val (.int p5), .val (.int (3 : Int32)), .unset, .unset, .unset, .unset, .unset, .unset, .unset, .unset, .unset, .unset, .unset, .unset] [(.int (3 : Int32))])
      refine own_st (fun _ k => XS.istore X0.here hx rfl (hb hby at_26) rfl (l' := #[.val (.int p0), .val (.int p1), .val (.int p2), .val (.int p3), .val (.int p4), .val (.int p5), .val (.int (3 : Int32)), .val (.int (3 : Int32)), .unset, .unset, .unset, .unset, .unset, .unset, .unset, .unset, .unset, .unset, .unset]) rfl k) ?_
      show own_Go p e s below _ _ _ T0 (mkF m 28 #[.val (.int p0), .val (.int p1), .val (.int p2), .val (.int p3), .val (.int p4), .val (.int p5), .val (.int (3 : Int32)), .val (.int (3 : Int32)), .unset, .unset, .unset, .unset, .unset, .unset, .unset, .unset, .unset, .unset, .unset] [])
      refine own_st (fun _ k => XS.iloadN X0.here hx rfl (hb hby at_28) rfl k) ?_
      show own_Go p e s below _ _ _ T0 (mkF m 29 #[.val (.int p0), .val (.int p1), .val (.int p2), .val (.int p3), .val (.int p4), .val (.int p5), .val (.int (3 : Int32)), .val (.int (3 : Int32)), .unset, .unset, .unset, .unset, .unset, .unset, .unset, .unset, .unset, .unset, .unset] [(.int p0)])
      refine own_st (X0.ldcInt hx hown (mvT hZ (hw _ (List.mem_of_getElem? (i := 0) rfl))) (g := (mkF m 29 #[.val (.int p0), .val (.int p1), .val (.int p2), .val (.int p3), .val (.int p4), .val (.int p5), .val (.int (3 : Int32)), .val (.int (3 : Int32)), .unset, .unset, .unset, .unset, .unset, .unset, .unset, .unset, .unset, .unset, .unset] [(.int p0)])) rfl (hb hby at_29)) ?_
      show own_Go p e s below _ _ _ T0 (mkF m 31 #[.val (.int p0), .val (.int p1), .val (.int p2), .val (.int p3), .val (.int p4), .val (.int p5), .val (.int (3 : Int32)), .val (.int (3 : Int32)), .unset, .unset, .unset, .unset, .unset, .unset, .unset, .unset, .unset, .unset, .unset] [(.int (2147483647 : Int32)), (.int p0)])
      refine own_st (fun _ k => XS.iand X0.here hx rfl (hb hby at_31) rfl k) ?_
      show own_Go p e s below _ _ _ T0 (mkF m 32 #[.val (.int p0), .val (.int p1), .val (.int p2), .val (.int p3), .val (.int p4), .val (.int p5), .val (.int (3 : Int32)), .val (.int (3 : Int32)), .unset, .unset, .unset, .unset, .unset, .unset, .unset, .unset, .unset, .unset, .unset] [(.int (p0 &&& (2147483647 : Int32)))])
      refine own_st (fun _ k => XS.istore X0.here hx rfl (hb hby at_32) rfl (l' := #[.val (.int p0), .val (.int p1), .val (.int p2), .val (.int p3), .val (.int p4), .val (.int p5), .val (.int (3 : Int32)), .val (.int (3 : Int32)), .val (.int (p0 &&& (2147483647 : Int32))), .unset, .unset, .unset, .unset, .unset, .unset, .unset, .unset, .unset, .unset]) rfl k) ?_
      show own_Go p e s below _ _ _ T0 (mkF m 34 #[.val (.int p0), .val (.int p1), .val (.int p2), .val (.int p3), .val (.int p4), .val (.int p5), .val (.int (3 : Int32)), .val (.int (3 : Int32)), .val (.int (p0 &&& (2147483647 : Int32))), .unset, .unset, .unset, .unset, .unset, .unset, .unset, .unset, .unset, .unset] [])
      refine own_st (fun _ k => XS.iloadN X0.here hx rfl (hb hby at_34) rfl k) ?_
      show own_Go p e s below _ _ _ T0 (mkF m 35 #[.val (.int p0), .val (.int p1), .val (.int p2), .val (.int p3), .val (.int p4), .val (.int p5), .val (.int (3 : Int32)), .val (.int (3 : Int32)), .val (.int (p0 &&& (2147483647 : Int32))), .unset, .unset, .unset, .unset, .unset, .unset, .unset, .unset, .unset, .unset] [(.int p1)])
      refine own_st (X0.ldcInt hx hown (mvT hZ (hw _ (List.mem_of_getElem? (i := 0) rfl))) (g := (mkF m 35 #[.val (.int p0), .val (.int p1), .val (.int p2), .val (.int p3), .val (.int p4), .val (.int p5), .val (.int (3 : Int32)), .val (.int (3 : Int32)), .val (.int (p0 &&& (2147483647 : Int32))), .unset, .unset, .unset, .unset, .unset, .unset, .unset, .unset, .unset, .unset] [(.int p1)])) rfl (hb hby at_35)) ?_
      show own_Go p e s below _ _ _ T0 (mkF m 37 #[.val (.int p0), .val (.int p1), .val (.int p2), .val (.int p3), .val (.int p4), .val (.int p5), .val (.int (3 : Int32)), .val (.int (3 : Int32)), .val (.int (p0 &&& (2147483647 : Int32))), .unset, .unset, .unset, .unset, .unset, .unset, .unset, .unset, .unset, .unset] [(.int (2147483647 : Int32)), (.int p1)])
      refine own_st (fun _ k => XS.iand X0.here hx rfl (hb hby at_37) rfl k) ?_
      show own_Go p e s below _ _ _ T0 (mkF m 38 #[.val (.int p0), .val (.int p1), .val (.int p2), .val (.int p3), .val (.int p4), .val (.int p5), .val (.int (3 : Int32)), .val (.int (3 : Int32)), .val (.int (p0 &&& (2147483647 : Int32))), .unset, .unset, .unset, .unset, .unset, .unset, .unset, .unset, .unset, .unset] [(.int (p1 &&& (2147483647 : Int32)))])
      refine own_st (fun _ k => XS.istore X0.here hx rfl (hb hby at_38) rfl (l' := #[.val (.int p0), .val (.int p1), .val (.int p2), .val (.int p3), .val (.int p4), .val (.int p5), .val (.int (3 : Int32)), .val (.int (3 : Int32)), .val (.int (p0 &&& (2147483647 : Int32))), .val (.int (p1 &&& (2147483647 : Int32))), .unset, .unset, .unset, .unset, .unset, .unset, .unset, .unset, .unset]) rfl k) ?_
      show own_Go p e s below _ _ _ T0 (mkF m 40 #[.val (.int p0), .val (.int p1), .val (.int p2), .val (.int p3), .val (.int p4), .val (.int p5), .val (.int (3 : Int32)), .val (.int (3 : Int32)), .val (.int (p0 &&& (2147483647 : Int32))), .val (.int (p1 &&& (2147483647 : Int32))), .unset, .unset, .unset, .unset, .unset, .unset, .unset, .unset, .unset] [])
      refine own_st (fun _ k => XS.iloadN X0.here hx rfl (hb hby at_40) rfl k) ?_
      show own_Go p e s below _ _ _ T0 (mkF m 41 #[.val (.int p0), .val (.int p1), .val (.int p2), .val (.int p3), .val (.int p4), .val (.int p5), .val (.int (3 : Int32)), .val (.int (3 : Int32)), .val (.int (p0 &&& (2147483647 : Int32))), .val (.int (p1 &&& (2147483647 : Int32))), .unset, .unset, .unset, .unset, .unset, .unset, .unset, .unset, .unset] [(.int p2)])
      refine own_st (X0.ldcInt hx hown (mvT hZ (hw _ (List.mem_of_getElem? (i := 0) rfl))) (g := (mkF m 41 #[.val (.int p0), .val (.int p1), .val (.int p2), .val (.int p3), .val (.int p4), .val (.int p5), .val (.int (3 : Int32)), .val (.int (3 : Int32)), .val (.int (p0 &&& (2147483647 : Int32))), .val (.int (p1 &&& (2147483647 : Int32))), .unset, .unset, .unset, .unset, .unset, .unset, .unset, .unset, .unset] [(.int p2)])) rfl (hb hby at_41)) ?_
      show own_Go p e s below _ _ _ T0 (mkF m 43 #[.val (.int p0), .val (.int p1), .val (.int p2), .val (.int p3), .val (.int p4), .val (.int p5), .val (.int (3 : Int32)), .val (.int (3 : Int32)), .val (.int (p0 &&& (2147483647 : Int32))), .val (.int (p1 &&& (2147483647 : Int32))), .unset, .unset, .unset, .unset, .unset, .unset, .unset, .unset, .unset] [(.int (2147483647 : Int32)), (.int p2)])
      refine own_st (fun _ k => XS.iand X0.here hx rfl (hb hby at_43) rfl k) ?_
      show own_Go p e s below _ _ _ T0 (mkF m 44 #[.val (.int p0), .val (.int p1), .val (.int p2), .val (.int p3), .val (.int p4), .val (.int p5), .val (.int (3 : Int32)), .val (.int (3 : Int32)), .val (.int (p0 &&& (2147483647 : Int32))), .val (.int (p1 &&& (2147483647 : Int32))), .unset, .unset, .unset, .unset, .unset, .unset, .unset, .unset, .unset] [(.int (p2 &&& (2147483647 : Int32)))])
      refine own_st (fun _ k => XS.istore X0.here hx rfl (hb hby at_44) rfl (l' := #[.val (.int p0), .val (.int p1), .val (.int p2), .val (.int p3), .val (.int p4), .val (.int p5), .val (.int (3 : Int32)), .val (.int (3 : Int32)), .val (.int (p0 &&& (2147483647 : Int32))), .val (.int (p1 &&& (2147483647 : Int32))), .val (.int (p2 &&& (2147483647 : Int32))), .unset, .unset, .unset, .unset, .unset, .unset, .unset, .unset]) rfl k) ?_
      show own_Go p e s below _ _ _ T0 (mkF m 46 #[.val (.int p0), .val (.int p1), .val (.int p2), .val (.int p3), .val (.int p4), .val (.int p5), .val (.int (3 : Int32)), .val (.int (3 : Int32)), .val (.int (p0 &&& (2147483647 : Int32))), .val (.int (p1 &&& (2147483647 : Int32))), .val (.int (p2 &&& (2147483647 : Int32))), .unset, .unset, .unset, .unset, .unset, .unset, .unset, .unset] [])
      refine own_st (fun _ k => XS.iloadN X0.here hx rfl (hb hby at_46) rfl k) ?_
      show own_Go p e s below _ _ _ T0 (mkF m 47 #[.val (.int p0), .val (.int p1), .val (.int p2), .val (.int p3), .val (.int p4), .val (.int p5), .val (.int (3 : Int32)), .val (.int (3 : Int32)), .val (.int (p0 &&& (2147483647 : Int32))), .val (.int (p1 &&& (2147483647 : Int32))), .val (.int (p2 &&& (2147483647 : Int32))), .unset, .unset, .unset, .unset, .unset, .unset, .unset, .unset] [(.int p3)])
      refine own_st (X0.ldcInt hx hown (mvT hZ (hw _ (List.mem_of_getElem? (i := 0) rfl))) (g := (mkF m 47 #[.val (.int p0), .val (.int p1), .val (.int p2), .val (.int p3), .val (.int p4), .val (.int p5), .val (.int (3 : Int32)), .val (.int (3 : Int32)), .val (.int (p0 &&& (2147483647 : Int32))), .val (.int (p1 &&& (2147483647 : Int32))), .val (.int (p2 &&& (2147483647 : Int32))), .unset, .unset, .unset, .unset, .unset, .unset, .unset, .unset] [(.int p3)])) rfl (hb hby at_47)) ?_
      show own_Go p e s below _ _ _ T0 (mkF m 49 #[.val (.int p0), .val (.int p1), .val (.int p2), .val (.int p3), .val (.int p4), .val (.int p5), .val (.int (3 : Int32)), .val (.int (3 : Int32)), .val (.int (p0 &&& (2147483647 : Int32))), .val (.int (p1 &&& (2147483647 : Int32))), .val (.int (p2 &&& (2147483647 : Int32))), .unset, .unset, .unset, .unset, .unset, .unset, .unset, .unset] [(.int (2147483647 : Int32)), (.int p3)])
      refine own_st (fun _ k => XS.iand X0.here hx rfl (hb hby at_49) rfl k) ?_
      show own_Go p e s below _ _ _ T0 (mkF m 50 #[.val (.int p0), .val (.int p1), .val (.int p2), .val (.int p3), .val (.int p4), .val (.int p5), .val (.int (3 : Int32)), .val (.int (3 : Int32)), .val (.int (p0 &&& (2147483647 : Int32))), .val (.int (p1 &&& (2147483647 : Int32))), .val (.int (p2 &&& (2147483647 : Int32))), .unset, .unset, .unset, .unset, .unset, .unset, .unset, .unset] [(.int (p3 &&& (2147483647 : Int32)))])
      refine own_st (fun _ k => XS.istore X0.here hx rfl (hb hby at_50) rfl (l' := #[.val (.int p0), .val (.int p1), .val (.int p2), .val (.int p3), .val (.int p4), .val (.int p5), .val (.int (3 : Int32)), .val (.int (3 : Int32)), .val (.int (p0 &&& (2147483647 : Int32))), .val (.int (p1 &&& (2147483647 : Int32))), .val (.int (p2 &&& (2147483647 : Int32))), .val (.int (p3 &&& (2147483647 : Int32))), .unset, .unset, .unset, .unset, .unset, .unset, .unset]) rfl k) ?_
      show own_Go p e s below _ _ _ T0 (mkF m 52 #[.val (.int p0), .val (.int p1), .val (.int p2), .val (.int p3), .val (.int p4), .val (.int p5), .val (.int (3 : Int32)), .val (.int (3 : Int32)), .val (.int (p0 &&& (2147483647 : Int32))), .val (.int (p1 &&& (2147483647 : Int32))), .val (.int (p2 &&& (2147483647 : Int32))), .val (.int (p3 &&& (2147483647 : Int32))), .unset, .unset, .unset, .unset, .unset, .unset, .unset] [])
      refine own_st (fun _ k => XS.iload X0.here hx rfl (hb hby at_52) rfl k) ?_
      show own_Go p e s below _ _ _ T0 (mkF m 54 #[.val (.int p0), .val (.int p1), .val (.int p2), .val (.int p3), .val (.int p4), .val (.int p5), .val (.int (3 : Int32)), .val (.int (3 : Int32)), .val (.int (p0 &&& (2147483647 : Int32))), .val (.int (p1 &&& (2147483647 : Int32))), .val (.int (p2 &&& (2147483647 : Int32))), .val (.int (p3 &&& (2147483647 : Int32))), .unset, .unset, .unset, .unset, .unset, .unset, .unset] [(.int p4)])
      refine own_st (X0.ldcInt hx hown (mvT hZ (hw _ (List.mem_of_getElem? (i := 0) rfl))) (g := (mkF m 54 #[.val (.int p0), .val (.int p1), .val (.int p2), .val (.int p3), .val (.int p4), .val (.int p5), .val (.int (3 : Int32)), .val (.int (3 : Int32)), .val (.int (p0 &&& (2147483647 : Int32))), .val (.int (p1 &&& (2147483647 : Int32))), .val (.int (p2 &&& (2147483647 : Int32))), .val (.int (p3 &&& (2147483647 : Int32))), .unset, .unset, .unset, .unset, .unset, .unset, .unset] [(.int p4)])) rfl (hb hby at_54)) ?_
      show own_Go p e s below _ _ _ T0 (mkF m 56 #[.val (.int p0), .val (.int p1), .val (.int p2), .val (.int p3), .val (.int p4), .val (.int p5), .val (.int (3 : Int32)), .val (.int (3 : Int32)), .val (.int (p0 &&& (2147483647 : Int32))), .val (.int (p1 &&& (2147483647 : Int32))), .val (.int (p2 &&& (2147483647 : Int32))), .val (.int (p3 &&& (2147483647 : Int32))), .unset, .unset, .unset, .unset, .unset, .unset, .unset] [(.int (2147483647 : Int32)), (.int p4)])
      refine own_st (fun _ k => XS.iand X0.here hx rfl (hb hby at_56) rfl k) ?_
      show own_Go p e s below _ _ _ T0 (mkF m 57 #[.val (.int p0), .val (.int p1), .val (.int p2), .val (.int p3), .val (.int p4), .val (.int p5), .val (.int (3 : Int32)), .val (.int (3 : Int32)), .val (.int (p0 &&& (2147483647 : Int32))), .val (.int (p1 &&& (2147483647 : Int32))), .val (.int (p2 &&& (2147483647 : Int32))), .val (.int (p3 &&& (2147483647 : Int32))), .unset, .unset, .unset, .unset, .unset, .unset, .unset] [(.int (p4 &&& (2147483647 : Int32)))])
      refine own_st (fun _ k => XS.istore X0.here hx rfl (hb hby at_57) rfl (l' := #[.val (.int p0), .val (.int p1), .val (.int p2), .val (.int p3), .val (.int p4), .val (.int p5), .val (.int (3 : Int32)), .val (.int (3 : Int32)), .val (.int (p0 &&& (2147483647 : Int32))), .val (.int (p1 &&& (2147483647 : Int32))), .val (.int (p2 &&& (2147483647 : Int32))), .val (.int (p3 &&& (2147483647 : Int32))), .val (.int (p4 &&& (2147483647 : Int32))), .unset, .unset, .unset, .unset, .unset, .unset]) rfl k) ?_
      show own_Go p e s below _ _ _ T0 (mkF m 59 #[.val (.int p0), .val (.int p1), .val (.int p2), .val (.int p3), .val (.int p4), .val (.int p5), .val (.int (3 : Int32)), .val (.int (3 : Int32)), .val (.int (p0 &&& (2147483647 : Int32))), .val (.int (p1 &&& (2147483647 : Int32))), .val (.int (p2 &&& (2147483647 : Int32))), .val (.int (p3 &&& (2147483647 : Int32))), .val (.int (p4 &&& (2147483647 : Int32))), .unset, .unset, .unset, .unset, .unset, .unset] [])
      refine own_st (fun _ k => XS.iload X0.here hx rfl (hb hby at_59) rfl k) ?_
      show own_Go p e s below _ _ _ T0 (mkF m 61 #[.val (.int p0), .val (.int p1), .val (.int p2), .val (.int p3), .val (.int p4), .val (.int p5), .val (.int (3 : Int32)), .val (.int (3 : Int32)), .val (.int (p0 &&& (2147483647 : Int32))), .val (.int (p1 &&& (2147483647 : Int32))), .val (.int (p2 &&& (2147483647 : Int32))), .val (.int (p3 &&& (2147483647 : Int32))), .val (.int (p4 &&& (2147483647 : Int32))), .unset, .unset, .unset, .unset, .unset, .unset] [(.int p5)])
      refine own_st (X0.ldcInt hx hown (mvT hZ (hw _ (List.mem_of_getElem? (i := 0) rfl))) (g := (mkF m 61 #[.val (.int p0), .val (.int p1), .val (.int p2), .val (.int p3), .val (.int p4), .val (.int p5), .val (.int (3 : Int32)), .val (.int (3 : Int32)), .val (.int (p0 &&& (2147483647 : Int32))), .val (.int (p1 &&& (2147483647 : Int32))), .val (.int (p2 &&& (2147483647 : Int32))), .val (.int (p3 &&& (2147483647 : Int32))), .val (.int (p4 &&& (2147483647 : Int32))), .unset, .unset, .unset, .unset, .unset, .unset] [(.int p5)])) rfl (hb hby at_61)) ?_
      show own_Go p e s below _ _ _ T0 (mkF m 63 #[.val (.int p0), .val (.int p1), .val (.int p2), .val (.int p3), .val (.int p4), .val (.int p5), .val (.int (3 : Int32)), .val (.int (3 : Int32)), .val (.int (p0 &&& (2147483647 : Int32))), .val (.int (p1 &&& (2147483647 : Int32))), .val (.int (p2 &&& (2147483647 : Int32))), .val (.int (p3 &&& (2147483647 : Int32))), .val (.int (p4 &&& (2147483647 : Int32))), .unset, .unset, .unset, .unset, .unset, .unset] [(.int (2147483647 : Int32)), (.int p5)])
      refine own_st (fun _ k => XS.iand X0.here hx rfl (hb hby at_63) rfl k) ?_
      show own_Go p e s below _ _ _ T0 (mkF m 64 #[.val (.int p0), .val (.int p1), .val (.int p2), .val (.int p3), .val (.int p4), .val (.int p5), .val (.int (3 : Int32)), .val (.int (3 : Int32)), .val (.int (p0 &&& (2147483647 : Int32))), .val (.int (p1 &&& (2147483647 : Int32))), .val (.int (p2 &&& (2147483647 : Int32))), .val (.int (p3 &&& (2147483647 : Int32))), .val (.int (p4 &&& (2147483647 : Int32))), .unset, .unset, .unset, .unset, .unset, .unset] [(.int (p5 &&& (2147483647 : Int32)))])
      refine own_st (fun _ k => XS.istore X0.here hx rfl (hb hby at_64) rfl (l' := #[.val (.int p0), .val (.int p1), .val (.int p2), .val (.int p3), .val (.int p4), .val (.int p5), .val (.int (3 : Int32)), .val (.int (3 : Int32)), .val (.int (p0 &&& (2147483647 : Int32))), .val (.int (p1 &&& (2147483647 : Int32))), .val (.int (p2 &&& (2147483647 : Int32))), .val (.int (p3 &&& (2147483647 : Int32))), .val (.int (p4 &&& (2147483647 : Int32))), .val (.int (p5 &&& (2147483647 : Int32))), .unset, .unset, .unset, .unset, .unset]) rfl k) ?_
      show own_Go p e s below _ _ _ T0 (mkF m 66 #[.val (.int p0), .val (.int p1), .val (.int p2), .val (.int p3), .val (.int p4), .val (.int p5), .val (.int (3 : Int32)), .val (.int (3 : Int32)), .val (.int (p0 &&& (2147483647 : Int32))), .val (.int (p1 &&& (2147483647 : Int32))), .val (.int (p2 &&& (2147483647 : Int32))), .val (.int (p3 &&& (2147483647 : Int32))), .val (.int (p4 &&& (2147483647 : Int32))), .val (.int (p5 &&& (2147483647 : Int32))), .unset, .unset, .unset, .unset, .unset] [])
      obtain ⟨x0, qx0⟩ : ∃ z, z = (p0 &&& (2147483647 : Int32)) := ⟨_, rfl⟩
      rw [← qx0]
      have nx0 : ¬ x0 < 0 := qx0 ▸ own_nn _
      obtain ⟨x1, qx1⟩ : ∃ z, z = (p1 &&& (2147483647 : Int32)) := ⟨_, rfl⟩
      rw [← qx1]
      have nx1 : ¬ x1 < 0 := qx1 ▸ own_nn _
      obtain ⟨x2, qx2⟩ : ∃ z, z = (p2 &&& (2147483647 : Int32)) := ⟨_, rfl⟩
      rw [← qx2]
      have nx2 : ¬ x2 < 0 := qx2 ▸ own_nn _
      obtain ⟨y0, qy0⟩ : ∃ z, z = (p3 &&& (2147483647 : Int32)) := ⟨_, rfl⟩
      rw [← qy0]
      have ny0 : ¬ y0 < 0 := qy0 ▸ own_nn _
      obtain ⟨y1, qy1⟩ : ∃ z, z = (p4 &&& (2147483647 : Int32)) := ⟨_, rfl⟩
      rw [← qy1]
      have ny1 : ¬ y1 < 0 := qy1 ▸ own_nn _
      obtain ⟨y2, qy2⟩ : ∃ z, z = (p5 &&& (2147483647 : Int32)) := ⟨_, rfl⟩
      rw [← qy2]
      have ny2 : ¬ y2 < 0 := qy2 ▸ own_nn _
      show own_Go p e s below _ _ _ T0 (mkF m 66 #[.val (.int p0), .val (.int p1), .val (.int p2), .val (.int p3), .val (.int p4), .val (.int p5), .val (.int (3 : Int32)), .val (.int (3 : Int32)), .val (.int x0), .val (.int x1), .val (.int x2), .val (.int y0), .val (.int y1), .val (.int y2), .unset, .unset, .unset, .unset, .unset] [])
      refine own_st (fun _ k => XS.iload X0.here hx rfl (hb hby at_66) rfl k) ?_
      show own_Go p e s below _ _ _ T0 (mkF m 68 #[.val (.int p0), .val (.int p1), .val (.int p2), .val (.int p3), .val (.int p4), .val (.int p5), .val (.int (3 : Int32)), .val (.int (3 : Int32)), .val (.int x0), .val (.int x1), .val (.int x2), .val (.int y0), .val (.int y1), .val (.int y2), .unset, .unset, .unset, .unset, .unset] [(.int (3 : Int32))])
      obtain ⟨T200, h200, k200, X200, e200, E200, A200, Ex200, st200⟩ := newPE X0 hx hZ (hw _ (List.mem_of_getElem? (i := 1) rfl)) e0 (g := (mkF m 68 #[.val (.int p0), .val (.int p1), .val (.int p2), .val (.int p3), .val (.int p4), .val (.int p5), .val (.int (3 : Int32)), .val (.int (3 : Int32)), .val (.int x0), .val (.int x1), .val (.int x2), .val (.int y0), .val (.int y1), .val (.int y2), .unset, .unset, .unset, .unset, .unset] [(.int (3 : Int32))])) rfl (hb hby at_68) rfl (by decide) (cap := 3) (by decide) (by decide) (by decide) (by decide) (ad := "[I") (by decide)
      obtain ⟨ar, g200⟩ : ∃ z, z = h0.size := ⟨_, rfl⟩
      rw [← g200] at A200 Ex200 st200
      have g_ar : n0 ≤ ar := Nat.le_trans Z0 (Nat.le_of_eq g200.symm)
      have Z201 := Nat.le_trans Z0 E200.1
      have V_ar : Arv Z h200 ar k200 .int (3 : Int32) [(.int (0 : Int32)), (.int (0 : Int32)), (.int (0 : Int32))] (.int (0 : Int32)) := (Arv.new A200 (by decide)).pad (pad_rep [] (.int (0 : Int32)) 3)
      have E_ar := Ex200
      refine own_st st200 ?_
      show own_Go p e s below _ _ _ T200 (mkF m 70 #[.val (.int p0), .val (.int p1), .val (.int p2), .val (.int p3), .val (.int p4), .val (.int p5), .val (.int (3 : Int32)), .val (.int (3 : Int32)), .val (.int x0), .val (.int x1), .val (.int x2), .val (.int y0), .val (.int y1), .val (.int y2), .unset, .unset, .unset, .unset, .unset] [(.ref ar)])
      refine own_st (fun _ k => XS.astore X200.here hx rfl (hb hby at_70) rfl rfl (l' := #[.val (.int p0), .val (.int p1), .val (.int p2), .val (.int p3), .val (.int p4), .val (.int p5), .val (.int (3 : Int32)), .val (.int (3 : Int32)), .val (.int x0), .val (.int x1), .val (.int x2), .val (.int y0), .val (.int y1), .val (.int y2), .val (.ref ar), .unset, .unset, .unset, .unset]) rfl k) ?_
      show own_Go p e s below _ _ _ T200 (mkF m 72 #[.val (.int p0), .val (.int p1), .val (.int p2), .val (.int p3), .val (.int p4), .val (.int p5), .val (.int (3 : Int32)), .val (.int (3 : Int32)), .val (.int x0), .val (.int x1), .val (.int x2), .val (.int y0), .val (.int y1), .val (.int y2), .val (.ref ar), .unset, .unset, .unset, .unset] [])
      refine own_st (fun _ k => XS.iload X200.here hx rfl (hb hby at_72) rfl k) ?_
      show own_Go p e s below _ _ _ T200 (mkF m 74 #[.val (.int p0), .val (.int p1), .val (.int p2), .val (.int p3), .val (.int p4), .val (.int p5), .val (.int (3 : Int32)), .val (.int (3 : Int32)), .val (.int x0), .val (.int x1), .val (.int x2), .val (.int y0), .val (.int y1), .val (.int y2), .val (.ref ar), .unset, .unset, .unset, .unset] [(.int (3 : Int32))])
      refine own_st (fun _ k => XS.ifNo X200.here hx rfl (hb hby at_74) rfl (by decide) k) ?_
      show own_Go p e s below _ _ _ T200 (mkF m 77 #[.val (.int p0), .val (.int p1), .val (.int p2), .val (.int p3), .val (.int p4), .val (.int p5), .val (.int (3 : Int32)), .val (.int (3 : Int32)), .val (.int x0), .val (.int x1), .val (.int x2), .val (.int y0), .val (.int y1), .val (.int y2), .val (.ref ar), .unset, .unset, .unset, .unset] [])
      refine own_st (fun _ k => XS.aload X200.here hx rfl (hb hby at_77) rfl rfl k) ?_
      show own_Go p e s below _ _ _ T200 (mkF m 79 #[.val (.int p0), .val (.int p1), .val (.int p2), .val (.int p3), .val (.int p4), .val (.int p5), .val (.int (3 : Int32)), .val (.int (3 : Int32)), .val (.int x0), .val (.int x1), .val (.int x2), .val (.int y0), .val (.int y1), .val (.int y2), .val (.ref ar), .unset, .unset, .unset, .unset] [(.ref ar)])
      refine own_st (fun _ k => XS.iconst X200.here hx rfl (hb hby at_79) k) ?_
      show own_Go p e s below _ _ _ T200 (mkF m 80 #[.val (.int p0), .val (.int p1), .val (.int p2), .val (.int p3), .val (.int p4), .val (.int p5), .val (.int (3 : Int32)), .val (.int (3 : Int32)), .val (.int x0), .val (.int x1), .val (.int x2), .val (.int y0), .val (.int y1), .val (.int y2), .val (.ref ar), .unset, .unset, .unset, .unset] [(.int (0 : Int32)), (.ref ar)])
      refine own_st (fun _ k => XS.iload X200.here hx rfl (hb hby at_80) rfl k) ?_
      show own_Go p e s below _ _ _ T200 (mkF m 82 #[.val (.int p0), .val (.int p1), .val (.int p2), .val (.int p3), .val (.int p4), .val (.int p5), .val (.int (3 : Int32)), .val (.int (3 : Int32)), .val (.int x0), .val (.int x1), .val (.int x2), .val (.int y0), .val (.int y1), .val (.int y2), .val (.ref ar), .unset, .unset, .unset, .unset] [(.int x0), (.int (0 : Int32)), (.ref ar)])
      obtain ⟨T202, h202, X202, e202, W202, V202, st202⟩ := own_stI X200 hx hZ e200 V_ar (j := (0 : Int32)) ⟨by decide, by decide⟩ (Nat.le_of_ble_eq_true rfl) (g := (mkF m 82 #[.val (.int p0), .val (.int p1), .val (.int p2), .val (.int p3), .val (.int p4), .val (.int p5), .val (.int (3 : Int32)), .val (.int (3 : Int32)), .val (.int x0), .val (.int x1), .val (.int x2), .val (.int y0), .val (.int y1), .val (.int y2), .val (.ref ar), .unset, .unset, .unset, .unset] [(.int x0), (.int (0 : Int32)), (.ref ar)])) rfl rfl (hb hby at_82)
      clear V_ar
      have V_ar : Arv Z h202 ar k200 .int (3 : Int32) [(.int x0), (.int (0 : Int32)), (.int (0 : Int32))] (.int (0 : Int32)) := V202
      replace E_ar := E_ar.wr W202
      have Z203 := Nat.le_trans Z201 (Keep.of_wr W202).1
      have N202 := Fr.snoc X202 N0 g_ar
      refine own_st st202 ?_
      show own_Go p e s below _ _ _ T202 (mkF m 83 #[.val (.int p0), .val (.int p1), .val (.int p2), .val (.int p3), .val (.int p4), .val (.int p5), .val (.int (3 : Int32)), .val (.int (3 : Int32)), .val (.int x0), .val (.int x1), .val (.int x2), .val (.int y0), .val (.int y1), .val (.int y2), .val (.ref ar), .unset, .unset, .unset, .unset] [])
      refine own_st (fun _ k => XS.iload X202.here hx rfl (hb hby at_83) rfl k) ?_
      show own_Go p e s below _ _ _ T202 (mkF m 85 #[.val (.int p0), .val (.int p1), .val (.int p2), .val (.int p3), .val (.int p4), .val (.int p5), .val (.int (3 : Int32)), .val (.int (3 : Int32)), .val (.int x0), .val (.int x1), .val (.int x2), .val (.int y0), .val (.int y1), .val (.int y2), .val (.ref ar), .unset, .unset, .unset, .unset] [(.int (3 : Int32))])
      refine own_st (fun _ k => XS.iconst X202.here hx rfl (hb hby at_85) k) ?_
      show own_Go p e s below _ _ _ T202 (mkF m 86 #[.val (.int p0), .val (.int p1), .val (.int p2), .val (.int p3), .val (.int p4), .val (.int p5), .val (.int (3 : Int32)), .val (.int (3 : Int32)), .val (.int x0), .val (.int x1), .val (.int x2), .val (.int y0), .val (.int y1), .val (.int y2), .val (.ref ar), .unset, .unset, .unset, .unset] [(.int (1 : Int32)), (.int (3 : Int32))])
      refine own_st (fun _ k => XS.icmpNo X202.here hx rfl (hb hby at_86) rfl (by decide) k) ?_
      show own_Go p e s below _ _ _ T202 (mkF m 89 #[.val (.int p0), .val (.int p1), .val (.int p2), .val (.int p3), .val (.int p4), .val (.int p5), .val (.int (3 : Int32)), .val (.int (3 : Int32)), .val (.int x0), .val (.int x1), .val (.int x2), .val (.int y0), .val (.int y1), .val (.int y2), .val (.ref ar), .unset, .unset, .unset, .unset] [])
      refine own_st (fun _ k => XS.aload X202.here hx rfl (hb hby at_89) rfl rfl k) ?_
      show own_Go p e s below _ _ _ T202 (mkF m 91 #[.val (.int p0), .val (.int p1), .val (.int p2), .val (.int p3), .val (.int p4), .val (.int p5), .val (.int (3 : Int32)), .val (.int (3 : Int32)), .val (.int x0), .val (.int x1), .val (.int x2), .val (.int y0), .val (.int y1), .val (.int y2), .val (.ref ar), .unset, .unset, .unset, .unset] [(.ref ar)])
      refine own_st (fun _ k => XS.iconst X202.here hx rfl (hb hby at_91) k) ?_
      show own_Go p e s below _ _ _ T202 (mkF m 92 #[.val (.int p0), .val (.int p1), .val (.int p2), .val (.int p3), .val (.int p4), .val (.int p5), .val (.int (3 : Int32)), .val (.int (3 : Int32)), .val (.int x0), .val (.int x1), .val (.int x2), .val (.int y0), .val (.int y1), .val (.int y2), .val (.ref ar), .unset, .unset, .unset, .unset] [(.int (1 : Int32)), (.ref ar)])
      refine own_st (fun _ k => XS.iload X202.here hx rfl (hb hby at_92) rfl k) ?_
      show own_Go p e s below _ _ _ T202 (mkF m 94 #[.val (.int p0), .val (.int p1), .val (.int p2), .val (.int p3), .val (.int p4), .val (.int p5), .val (.int (3 : Int32)), .val (.int (3 : Int32)), .val (.int x0), .val (.int x1), .val (.int x2), .val (.int y0), .val (.int y1), .val (.int y2), .val (.ref ar), .unset, .unset, .unset, .unset] [(.int x1), (.int (1 : Int32)), (.ref ar)])
      obtain ⟨T204, h204, X204, e204, W204, V204, st204⟩ := own_stI X202 hx hZ e202 V_ar (j := (1 : Int32)) ⟨by decide, by decide⟩ (Nat.le_of_ble_eq_true rfl) (g := (mkF m 94 #[.val (.int p0), .val (.int p1), .val (.int p2), .val (.int p3), .val (.int p4), .val (.int p5), .val (.int (3 : Int32)), .val (.int (3 : Int32)), .val (.int x0), .val (.int x1), .val (.int x2), .val (.int y0), .val (.int y1), .val (.int y2), .val (.ref ar), .unset, .unset, .unset, .unset] [(.int x1), (.int (1 : Int32)), (.ref ar)])) rfl rfl (hb hby at_94)
      clear V_ar
      have V_ar : Arv Z h204 ar k200 .int (3 : Int32) [(.int x0), (.int x1), (.int (0 : Int32))] (.int (0 : Int32)) := V204
      replace E_ar := E_ar.wr W204
      have Z205 := Nat.le_trans Z203 (Keep.of_wr W204).1
      have N204 := Fr.snoc X204 N202 g_ar
      refine own_st st204 ?_
      show own_Go p e s below _ _ _ T204 (mkF m 95 #[.val (.int p0), .val (.int p1), .val (.int p2), .val (.int p3), .val (.int p4), .val (.int p5), .val (.int (3 : Int32)), .val (.int (3 : Int32)), .val (.int x0), .val (.int x1), .val (.int x2), .val (.int y0), .val (.int y1), .val (.int y2), .val (.ref ar), .unset, .unset, .unset, .unset] [])
      refine own_st (fun _ k => XS.iload X204.here hx rfl (hb hby at_95) rfl k) ?_
      show own_Go p e s below _ _ _ T204 (mkF m 97 #[.val (.int p0), .val (.int p1), .val (.int p2), .val (.int p3), .val (.int p4), .val (.int p5), .val (.int (3 : Int32)), .val (.int (3 : Int32)), .val (.int x0), .val (.int x1), .val (.int x2), .val (.int y0), .val (.int y1), .val (.int y2), .val (.ref ar), .unset, .unset, .unset, .unset] [(.int (3 : Int32))])
      refine own_st (fun _ k => XS.iconst X204.here hx rfl (hb hby at_97) k) ?_
      show own_Go p e s below _ _ _ T204 (mkF m 98 #[.val (.int p0), .val (.int p1), .val (.int p2), .val (.int p3), .val (.int p4), .val (.int p5), .val (.int (3 : Int32)), .val (.int (3 : Int32)), .val (.int x0), .val (.int x1), .val (.int x2), .val (.int y0), .val (.int y1), .val (.int y2), .val (.ref ar), .unset, .unset, .unset, .unset] [(.int (2 : Int32)), (.int (3 : Int32))])
      refine own_st (fun _ k => XS.icmpNo X204.here hx rfl (hb hby at_98) rfl (by decide) k) ?_
      show own_Go p e s below _ _ _ T204 (mkF m 101 #[.val (.int p0), .val (.int p1), .val (.int p2), .val (.int p3), .val (.int p4), .val (.int p5), .val (.int (3 : Int32)), .val (.int (3 : Int32)), .val (.int x0), .val (.int x1), .val (.int x2), .val (.int y0), .val (.int y1), .val (.int y2), .val (.ref ar), .unset, .unset, .unset, .unset] [])
      refine own_st (fun _ k => XS.aload X204.here hx rfl (hb hby at_101) rfl rfl k) ?_
      show own_Go p e s below _ _ _ T204 (mkF m 103 #[.val (.int p0), .val (.int p1), .val (.int p2), .val (.int p3), .val (.int p4), .val (.int p5), .val (.int (3 : Int32)), .val (.int (3 : Int32)), .val (.int x0), .val (.int x1), .val (.int x2), .val (.int y0), .val (.int y1), .val (.int y2), .val (.ref ar), .unset, .unset, .unset, .unset] [(.ref ar)])
      refine own_st (fun _ k => XS.iconst X204.here hx rfl (hb hby at_103) k) ?_
      show own_Go p e s below _ _ _ T204 (mkF m 104 #[.val (.int p0), .val (.int p1), .val (.int p2), .val (.int p3), .val (.int p4), .val (.int p5), .val (.int (3 : Int32)), .val (.int (3 : Int32)), .val (.int x0), .val (.int x1), .val (.int x2), .val (.int y0), .val (.int y1), .val (.int y2), .val (.ref ar), .unset, .unset, .unset, .unset] [(.int (2 : Int32)), (.ref ar)])
      refine own_st (fun _ k => XS.iload X204.here hx rfl (hb hby at_104) rfl k) ?_
      show own_Go p e s below _ _ _ T204 (mkF m 106 #[.val (.int p0), .val (.int p1), .val (.int p2), .val (.int p3), .val (.int p4), .val (.int p5), .val (.int (3 : Int32)), .val (.int (3 : Int32)), .val (.int x0), .val (.int x1), .val (.int x2), .val (.int y0), .val (.int y1), .val (.int y2), .val (.ref ar), .unset, .unset, .unset, .unset] [(.int x2), (.int (2 : Int32)), (.ref ar)])
      obtain ⟨T206, h206, X206, e206, W206, V206, st206⟩ := own_stI X204 hx hZ e204 V_ar (j := (2 : Int32)) ⟨by decide, by decide⟩ (Nat.le_of_ble_eq_true rfl) (g := (mkF m 106 #[.val (.int p0), .val (.int p1), .val (.int p2), .val (.int p3), .val (.int p4), .val (.int p5), .val (.int (3 : Int32)), .val (.int (3 : Int32)), .val (.int x0), .val (.int x1), .val (.int x2), .val (.int y0), .val (.int y1), .val (.int y2), .val (.ref ar), .unset, .unset, .unset, .unset] [(.int x2), (.int (2 : Int32)), (.ref ar)])) rfl rfl (hb hby at_106)
      clear V_ar
      have V_ar : Arv Z h206 ar k200 .int (3 : Int32) [(.int x0), (.int x1), (.int x2)] (.int (0 : Int32)) := V206
      replace E_ar := E_ar.wr W206
      have Z207 := Nat.le_trans Z205 (Keep.of_wr W206).1
      have N206 := Fr.snoc X206 N204 g_ar
      refine own_st st206 ?_
      show own_Go p e s below _ _ _ T206 (mkF m 107 #[.val (.int p0), .val (.int p1), .val (.int p2), .val (.int p3), .val (.int p4), .val (.int p5), .val (.int (3 : Int32)), .val (.int (3 : Int32)), .val (.int x0), .val (.int x1), .val (.int x2), .val (.int y0), .val (.int y1), .val (.int y2), .val (.ref ar), .unset, .unset, .unset, .unset] [])
      refine own_st (fun _ k => XS.iload X206.here hx rfl (hb hby at_107) rfl k) ?_
      show own_Go p e s below _ _ _ T206 (mkF m 109 #[.val (.int p0), .val (.int p1), .val (.int p2), .val (.int p3), .val (.int p4), .val (.int p5), .val (.int (3 : Int32)), .val (.int (3 : Int32)), .val (.int x0), .val (.int x1), .val (.int x2), .val (.int y0), .val (.int y1), .val (.int y2), .val (.ref ar), .unset, .unset, .unset, .unset] [(.int (3 : Int32))])
      obtain ⟨T208, h208, k208, X208, e208, E208, A208, Ex208, st208⟩ := newPE X206 hx hZ (hw _ (List.mem_of_getElem? (i := 1) rfl)) e206 (g := (mkF m 109 #[.val (.int p0), .val (.int p1), .val (.int p2), .val (.int p3), .val (.int p4), .val (.int p5), .val (.int (3 : Int32)), .val (.int (3 : Int32)), .val (.int x0), .val (.int x1), .val (.int x2), .val (.int y0), .val (.int y1), .val (.int y2), .val (.ref ar), .unset, .unset, .unset, .unset] [(.int (3 : Int32))])) rfl (hb hby at_109) rfl (by decide) (cap := 3) (by decide) (by decide) (by decide) (by decide) (ad := "[I") (by decide)
      obtain ⟨ao, g208⟩ : ∃ z, z = h206.size := ⟨_, rfl⟩
      rw [← g208] at A208 Ex208 st208
      have g_ao : n0 ≤ ao := Nat.le_trans Z207 (Nat.le_of_eq g208.symm)
      have ne_ar_ao : ar ≠ ao := Nat.ne_of_lt (Nat.lt_of_lt_of_le E_ar.lt (Nat.le_of_eq g208.symm))
      have ne_ao_ar := Ne.symm ne_ar_ao
      replace E_ar := E_ar.ext E208
      replace V_ar := V_ar.ext E208
      have Z209 := Nat.le_trans Z207 E208.1
      have V_ao : Arv Z h208 ao k208 .int (3 : Int32) [(.int (0 : Int32)), (.int (0 : Int32)), (.int (0 : Int32))] (.int (0 : Int32)) := (Arv.new A208 (by decide)).pad (pad_rep [] (.int (0 : Int32)) 3)
      have E_ao := Ex208
      refine own_st st208 ?_
      show own_Go p e s below _ _ _ T208 (mkF m 111 #[.val (.int p0), .val (.int p1), .val (.int p2), .val (.int p3), .val (.int p4), .val (.int p5), .val (.int (3 : Int32)), .val (.int (3 : Int32)), .val (.int x0), .val (.int x1), .val (.int x2), .val (.int y0), .val (.int y1), .val (.int y2), .val (.ref ar), .unset, .unset, .unset, .unset] [(.ref ao)])
      refine own_st (fun _ k => XS.astore X208.here hx rfl (hb hby at_111) rfl rfl (l' := #[.val (.int p0), .val (.int p1), .val (.int p2), .val (.int p3), .val (.int p4), .val (.int p5), .val (.int (3 : Int32)), .val (.int (3 : Int32)), .val (.int x0), .val (.int x1), .val (.int x2), .val (.int y0), .val (.int y1), .val (.int y2), .val (.ref ar), .val (.ref ao), .unset, .unset, .unset]) rfl k) ?_
      show own_Go p e s below _ _ _ T208 (mkF m 113 #[.val (.int p0), .val (.int p1), .val (.int p2), .val (.int p3), .val (.int p4), .val (.int p5), .val (.int (3 : Int32)), .val (.int (3 : Int32)), .val (.int x0), .val (.int x1), .val (.int x2), .val (.int y0), .val (.int y1), .val (.int y2), .val (.ref ar), .val (.ref ao), .unset, .unset, .unset] [])
      refine own_st (fun _ k => XS.iload X208.here hx rfl (hb hby at_113) rfl k) ?_
      show own_Go p e s below _ _ _ T208 (mkF m 115 #[.val (.int p0), .val (.int p1), .val (.int p2), .val (.int p3), .val (.int p4), .val (.int p5), .val (.int (3 : Int32)), .val (.int (3 : Int32)), .val (.int x0), .val (.int x1), .val (.int x2), .val (.int y0), .val (.int y1), .val (.int y2), .val (.ref ar), .val (.ref ao), .unset, .unset, .unset] [(.int (3 : Int32))])
      refine own_st (fun _ k => XS.ifNo X208.here hx rfl (hb hby at_115) rfl (by decide) k) ?_
      show own_Go p e s below _ _ _ T208 (mkF m 118 #[.val (.int p0), .val (.int p1), .val (.int p2), .val (.int p3), .val (.int p4), .val (.int p5), .val (.int (3 : Int32)), .val (.int (3 : Int32)), .val (.int x0), .val (.int x1), .val (.int x2), .val (.int y0), .val (.int y1), .val (.int y2), .val (.ref ar), .val (.ref ao), .unset, .unset, .unset] [])
      refine own_st (fun _ k => XS.aload X208.here hx rfl (hb hby at_118) rfl rfl k) ?_
      show own_Go p e s below _ _ _ T208 (mkF m 120 #[.val (.int p0), .val (.int p1), .val (.int p2), .val (.int p3), .val (.int p4), .val (.int p5), .val (.int (3 : Int32)), .val (.int (3 : Int32)), .val (.int x0), .val (.int x1), .val (.int x2), .val (.int y0), .val (.int y1), .val (.int y2), .val (.ref ar), .val (.ref ao), .unset, .unset, .unset] [(.ref ao)])
      refine own_st (fun _ k => XS.iconst X208.here hx rfl (hb hby at_120) k) ?_
      show own_Go p e s below _ _ _ T208 (mkF m 121 #[.val (.int p0), .val (.int p1), .val (.int p2), .val (.int p3), .val (.int p4), .val (.int p5), .val (.int (3 : Int32)), .val (.int (3 : Int32)), .val (.int x0), .val (.int x1), .val (.int x2), .val (.int y0), .val (.int y1), .val (.int y2), .val (.ref ar), .val (.ref ao), .unset, .unset, .unset] [(.int (0 : Int32)), (.ref ao)])
      refine own_st (fun _ k => XS.iload X208.here hx rfl (hb hby at_121) rfl k) ?_
      show own_Go p e s below _ _ _ T208 (mkF m 123 #[.val (.int p0), .val (.int p1), .val (.int p2), .val (.int p3), .val (.int p4), .val (.int p5), .val (.int (3 : Int32)), .val (.int (3 : Int32)), .val (.int x0), .val (.int x1), .val (.int x2), .val (.int y0), .val (.int y1), .val (.int y2), .val (.ref ar), .val (.ref ao), .unset, .unset, .unset] [(.int y0), (.int (0 : Int32)), (.ref ao)])
      obtain ⟨T210, h210, X210, e210, W210, V210, st210⟩ := own_stI X208 hx hZ e208 V_ao (j := (0 : Int32)) ⟨by decide, by decide⟩ (Nat.le_of_ble_eq_true rfl) (g := (mkF m 123 #[.val (.int p0), .val (.int p1), .val (.int p2), .val (.int p3), .val (.int p4), .val (.int p5), .val (.int (3 : Int32)), .val (.int (3 : Int32)), .val (.int x0), .val (.int x1), .val (.int x2), .val (.int y0), .val (.int y1), .val (.int y2), .val (.ref ar), .val (.ref ao), .unset, .unset, .unset] [(.int y0), (.int (0 : Int32)), (.ref ao)])) rfl rfl (hb hby at_123)
      clear V_ao
      have V_ao : Arv Z h210 ao k208 .int (3 : Int32) [(.int y0), (.int (0 : Int32)), (.int (0 : Int32))] (.int (0 : Int32)) := V210
      replace E_ar := E_ar.wr W210
      replace V_ar := V_ar.other W210 ne_ar_ao
      replace E_ao := E_ao.wr W210
      have Z211 := Nat.le_trans Z209 (Keep.of_wr W210).1
      have N210 := Fr.snoc X210 N206 g_ao
      refine own_st st210 ?_
      show own_Go p e s below _ _ _ T210 (mkF m 124 #[.val (.int p0), .val (.int p1), .val (.int p2), .val (.int p3), .val (.int p4), .val (.int p5), .val (.int (3 : Int32)), .val (.int (3 : Int32)), .val (.int x0), .val (.int x1), .val (.int x2), .val (.int y0), .val (.int y1), .val (.int y2), .val (.ref ar), .val (.ref ao), .unset, .unset, .unset] [])
      refine own_st (fun _ k => XS.iload X210.here hx rfl (hb hby at_124) rfl k) ?_
      show own_Go p e s below _ _ _ T210 (mkF m 126 #[.val (.int p0), .val (.int p1), .val (.int p2), .val (.int p3), .val (.int p4), .val (.int p5), .val (.int (3 : Int32)), .val (.int (3 : Int32)), .val (.int x0), .val (.int x1), .val (.int x2), .val (.int y0), .val (.int y1), .val (.int y2), .val (.ref ar), .val (.ref ao), .unset, .unset, .unset] [(.int (3 : Int32))])
      refine own_st (fun _ k => XS.iconst X210.here hx rfl (hb hby at_126) k) ?_
      show own_Go p e s below _ _ _ T210 (mkF m 127 #[.val (.int p0), .val (.int p1), .val (.int p2), .val (.int p3), .val (.int p4), .val (.int p5), .val (.int (3 : Int32)), .val (.int (3 : Int32)), .val (.int x0), .val (.int x1), .val (.int x2), .val (.int y0), .val (.int y1), .val (.int y2), .val (.ref ar), .val (.ref ao), .unset, .unset, .unset] [(.int (1 : Int32)), (.int (3 : Int32))])
      refine own_st (fun _ k => XS.icmpNo X210.here hx rfl (hb hby at_127) rfl (by decide) k) ?_
      show own_Go p e s below _ _ _ T210 (mkF m 130 #[.val (.int p0), .val (.int p1), .val (.int p2), .val (.int p3), .val (.int p4), .val (.int p5), .val (.int (3 : Int32)), .val (.int (3 : Int32)), .val (.int x0), .val (.int x1), .val (.int x2), .val (.int y0), .val (.int y1), .val (.int y2), .val (.ref ar), .val (.ref ao), .unset, .unset, .unset] [])
      refine own_st (fun _ k => XS.aload X210.here hx rfl (hb hby at_130) rfl rfl k) ?_
      show own_Go p e s below _ _ _ T210 (mkF m 132 #[.val (.int p0), .val (.int p1), .val (.int p2), .val (.int p3), .val (.int p4), .val (.int p5), .val (.int (3 : Int32)), .val (.int (3 : Int32)), .val (.int x0), .val (.int x1), .val (.int x2), .val (.int y0), .val (.int y1), .val (.int y2), .val (.ref ar), .val (.ref ao), .unset, .unset, .unset] [(.ref ao)])
      refine own_st (fun _ k => XS.iconst X210.here hx rfl (hb hby at_132) k) ?_
      show own_Go p e s below _ _ _ T210 (mkF m 133 #[.val (.int p0), .val (.int p1), .val (.int p2), .val (.int p3), .val (.int p4), .val (.int p5), .val (.int (3 : Int32)), .val (.int (3 : Int32)), .val (.int x0), .val (.int x1), .val (.int x2), .val (.int y0), .val (.int y1), .val (.int y2), .val (.ref ar), .val (.ref ao), .unset, .unset, .unset] [(.int (1 : Int32)), (.ref ao)])
      refine own_st (fun _ k => XS.iload X210.here hx rfl (hb hby at_133) rfl k) ?_
      show own_Go p e s below _ _ _ T210 (mkF m 135 #[.val (.int p0), .val (.int p1), .val (.int p2), .val (.int p3), .val (.int p4), .val (.int p5), .val (.int (3 : Int32)), .val (.int (3 : Int32)), .val (.int x0), .val (.int x1), .val (.int x2), .val (.int y0), .val (.int y1), .val (.int y2), .val (.ref ar), .val (.ref ao), .unset, .unset, .unset] [(.int y1), (.int (1 : Int32)), (.ref ao)])
      obtain ⟨T212, h212, X212, e212, W212, V212, st212⟩ := own_stI X210 hx hZ e210 V_ao (j := (1 : Int32)) ⟨by decide, by decide⟩ (Nat.le_of_ble_eq_true rfl) (g := (mkF m 135 #[.val (.int p0), .val (.int p1), .val (.int p2), .val (.int p3), .val (.int p4), .val (.int p5), .val (.int (3 : Int32)), .val (.int (3 : Int32)), .val (.int x0), .val (.int x1), .val (.int x2), .val (.int y0), .val (.int y1), .val (.int y2), .val (.ref ar), .val (.ref ao), .unset, .unset, .unset] [(.int y1), (.int (1 : Int32)), (.ref ao)])) rfl rfl (hb hby at_135)
      clear V_ao
      have V_ao : Arv Z h212 ao k208 .int (3 : Int32) [(.int y0), (.int y1), (.int (0 : Int32))] (.int (0 : Int32)) := V212
      replace E_ar := E_ar.wr W212
      replace V_ar := V_ar.other W212 ne_ar_ao
      replace E_ao := E_ao.wr W212
      have Z213 := Nat.le_trans Z211 (Keep.of_wr W212).1
      have N212 := Fr.snoc X212 N210 g_ao
      refine own_st st212 ?_
      show own_Go p e s below _ _ _ T212 (mkF m 136 #[.val (.int p0), .val (.int p1), .val (.int p2), .val (.int p3), .val (.int p4), .val (.int p5), .val (.int (3 : Int32)), .val (.int (3 : Int32)), .val (.int x0), .val (.int x1), .val (.int x2), .val (.int y0), .val (.int y1), .val (.int y2), .val (.ref ar), .val (.ref ao), .unset, .unset, .unset] [])
      refine own_st (fun _ k => XS.iload X212.here hx rfl (hb hby at_136) rfl k) ?_
      show own_Go p e s below _ _ _ T212 (mkF m 138 #[.val (.int p0), .val (.int p1), .val (.int p2), .val (.int p3), .val (.int p4), .val (.int p5), .val (.int (3 : Int32)), .val (.int (3 : Int32)), .val (.int x0), .val (.int x1), .val (.int x2), .val (.int y0), .val (.int y1), .val (.int y2), .val (.ref ar), .val (.ref ao), .unset, .unset, .unset] [(.int (3 : Int32))])
      refine own_st (fun _ k => XS.iconst X212.here hx rfl (hb hby at_138) k) ?_
      show own_Go p e s below _ _ _ T212 (mkF m 139 #[.val (.int p0), .val (.int p1), .val (.int p2), .val (.int p3), .val (.int p4), .val (.int p5), .val (.int (3 : Int32)), .val (.int (3 : Int32)), .val (.int x0), .val (.int x1), .val (.int x2), .val (.int y0), .val (.int y1), .val (.int y2), .val (.ref ar), .val (.ref ao), .unset, .unset, .unset] [(.int (2 : Int32)), (.int (3 : Int32))])
      refine own_st (fun _ k => XS.icmpNo X212.here hx rfl (hb hby at_139) rfl (by decide) k) ?_
      show own_Go p e s below _ _ _ T212 (mkF m 142 #[.val (.int p0), .val (.int p1), .val (.int p2), .val (.int p3), .val (.int p4), .val (.int p5), .val (.int (3 : Int32)), .val (.int (3 : Int32)), .val (.int x0), .val (.int x1), .val (.int x2), .val (.int y0), .val (.int y1), .val (.int y2), .val (.ref ar), .val (.ref ao), .unset, .unset, .unset] [])
      refine own_st (fun _ k => XS.aload X212.here hx rfl (hb hby at_142) rfl rfl k) ?_
      show own_Go p e s below _ _ _ T212 (mkF m 144 #[.val (.int p0), .val (.int p1), .val (.int p2), .val (.int p3), .val (.int p4), .val (.int p5), .val (.int (3 : Int32)), .val (.int (3 : Int32)), .val (.int x0), .val (.int x1), .val (.int x2), .val (.int y0), .val (.int y1), .val (.int y2), .val (.ref ar), .val (.ref ao), .unset, .unset, .unset] [(.ref ao)])
      refine own_st (fun _ k => XS.iconst X212.here hx rfl (hb hby at_144) k) ?_
      show own_Go p e s below _ _ _ T212 (mkF m 145 #[.val (.int p0), .val (.int p1), .val (.int p2), .val (.int p3), .val (.int p4), .val (.int p5), .val (.int (3 : Int32)), .val (.int (3 : Int32)), .val (.int x0), .val (.int x1), .val (.int x2), .val (.int y0), .val (.int y1), .val (.int y2), .val (.ref ar), .val (.ref ao), .unset, .unset, .unset] [(.int (2 : Int32)), (.ref ao)])
      refine own_st (fun _ k => XS.iload X212.here hx rfl (hb hby at_145) rfl k) ?_
      show own_Go p e s below _ _ _ T212 (mkF m 147 #[.val (.int p0), .val (.int p1), .val (.int p2), .val (.int p3), .val (.int p4), .val (.int p5), .val (.int (3 : Int32)), .val (.int (3 : Int32)), .val (.int x0), .val (.int x1), .val (.int x2), .val (.int y0), .val (.int y1), .val (.int y2), .val (.ref ar), .val (.ref ao), .unset, .unset, .unset] [(.int y2), (.int (2 : Int32)), (.ref ao)])
      obtain ⟨T214, h214, X214, e214, W214, V214, st214⟩ := own_stI X212 hx hZ e212 V_ao (j := (2 : Int32)) ⟨by decide, by decide⟩ (Nat.le_of_ble_eq_true rfl) (g := (mkF m 147 #[.val (.int p0), .val (.int p1), .val (.int p2), .val (.int p3), .val (.int p4), .val (.int p5), .val (.int (3 : Int32)), .val (.int (3 : Int32)), .val (.int x0), .val (.int x1), .val (.int x2), .val (.int y0), .val (.int y1), .val (.int y2), .val (.ref ar), .val (.ref ao), .unset, .unset, .unset] [(.int y2), (.int (2 : Int32)), (.ref ao)])) rfl rfl (hb hby at_147)
      clear V_ao
      have V_ao : Arv Z h214 ao k208 .int (3 : Int32) [(.int y0), (.int y1), (.int y2)] (.int (0 : Int32)) := V214
      replace E_ar := E_ar.wr W214
      replace V_ar := V_ar.other W214 ne_ar_ao
      replace E_ao := E_ao.wr W214
      have Z215 := Nat.le_trans Z213 (Keep.of_wr W214).1
      have N214 := Fr.snoc X214 N212 g_ao
      refine own_st st214 ?_
      show own_Go p e s below _ _ _ T214 (mkF m 148 #[.val (.int p0), .val (.int p1), .val (.int p2), .val (.int p3), .val (.int p4), .val (.int p5), .val (.int (3 : Int32)), .val (.int (3 : Int32)), .val (.int x0), .val (.int x1), .val (.int x2), .val (.int y0), .val (.int y1), .val (.int y2), .val (.ref ar), .val (.ref ao), .unset, .unset, .unset] [])
      obtain ⟨T216, h216, X216, e216, E216, A216, D216, -, st216⟩ := newO X214 hx hZ hown (hw _ (List.mem_of_getElem? (i := 2) rfl)) (hw _ (List.mem_of_getElem? (i := 3) rfl)) (hw _ (List.mem_of_getElem? (i := 4) rfl)) e214 (g := (mkF m 148 #[.val (.int p0), .val (.int p1), .val (.int p2), .val (.int p3), .val (.int p4), .val (.int p5), .val (.int (3 : Int32)), .val (.int (3 : Int32)), .val (.int x0), .val (.int x1), .val (.int x2), .val (.int y0), .val (.int y1), .val (.int y2), .val (.ref ar), .val (.ref ao), .unset, .unset, .unset] [])) rfl (hb hby at_148) (by decide) (by decide)
      obtain ⟨bt, g216⟩ : ∃ z, z = h214.size := ⟨_, rfl⟩
      rw [← g216] at A216 D216 st216
      have g_bt : n0 ≤ bt := Nat.le_trans Z215 (Nat.le_of_eq g216.symm)
      have ne_ao_bt : ao ≠ bt := Nat.ne_of_lt (Nat.lt_of_lt_of_le E_ao.lt (Nat.le_of_eq g216.symm))
      have ne_bt_ao := Ne.symm ne_ao_bt
      have ne_ar_bt : ar ≠ bt := Nat.ne_of_lt (Nat.lt_of_lt_of_le E_ar.lt (Nat.le_of_eq g216.symm))
      have ne_bt_ar := Ne.symm ne_ar_bt
      replace E_ar := E_ar.ext E216
      replace V_ar := V_ar.ext E216
      replace E_ao := E_ao.ext E216
      replace V_ao := V_ao.ext E216
      have Z217 := Nat.le_trans Z215 E216.1
      have E_bt := A216
      have F_levels_bt : Fld Z h216 bt "com/example/hush5/hush5/model/Transformation" "levels" "[I" .null := D216 (Or.inr (hw _ (List.mem_of_getElem? (i := 21) rfl))) (ty := (.array .int)) (by decide)
      refine own_st st216 ?_
      show own_Go p e s below _ _ _ T216 (mkF m 151 #[.val (.int p0), .val (.int p1), .val (.int p2), .val (.int p3), .val (.int p4), .val (.int p5), .val (.int (3 : Int32)), .val (.int (3 : Int32)), .val (.int x0), .val (.int x1), .val (.int x2), .val (.int y0), .val (.int y1), .val (.int y2), .val (.ref ar), .val (.ref ao), .unset, .unset, .unset] [(.ref bt)])
      refine own_st (fun _ k => XS.dup X216.here hx rfl (hb hby at_151) rfl rfl k) ?_
      show own_Go p e s below _ _ _ T216 (mkF m 152 #[.val (.int p0), .val (.int p1), .val (.int p2), .val (.int p3), .val (.int p4), .val (.int p5), .val (.int (3 : Int32)), .val (.int (3 : Int32)), .val (.int x0), .val (.int x1), .val (.int x2), .val (.int y0), .val (.int y1), .val (.int y2), .val (.ref ar), .val (.ref ao), .unset, .unset, .unset] [(.ref bt), (.ref bt)])
      refine own_st (fun _ k => XS.aload X216.here hx rfl (hb hby at_152) rfl rfl k) ?_
      show own_Go p e s below _ _ _ T216 (mkF m 154 #[.val (.int p0), .val (.int p1), .val (.int p2), .val (.int p3), .val (.int p4), .val (.int p5), .val (.int (3 : Int32)), .val (.int (3 : Int32)), .val (.int x0), .val (.int x1), .val (.int x2), .val (.int y0), .val (.int y1), .val (.int y2), .val (.ref ar), .val (.ref ao), .unset, .unset, .unset] [(.ref ar), (.ref bt), (.ref bt)])
      refine own_callN X216 hx hZ (y := (⟨"com/example/hush5/hush5/model/Transformation", "<init>", "([I)V"⟩ : MethodName)) rfl hown (hw _ (List.mem_of_getElem? (i := 5) rfl)) (hw _ (List.mem_of_getElem? (i := 6) rfl)) (hw _ (List.mem_of_getElem? (i := 4) rfl)) (hw _ (List.mem_of_getElem? (i := 7) rfl)) (by decide) e216 (rm1_3 l Z a0 hw [] bt ar k200 x0 x1 x2 h216 n0 Z217 E_bt F_levels_bt V_ar E_ar ne_bt_ar ne_ar_bt g_bt nx0 nx1 nx2) 1 (by decide) (by decide) (g := (mkF m 154 #[.val (.int p0), .val (.int p1), .val (.int p2), .val (.int p3), .val (.int p4), .val (.int p5), .val (.int (3 : Int32)), .val (.int (3 : Int32)), .val (.int x0), .val (.int x1), .val (.int x2), .val (.int y0), .val (.int y1), .val (.int y2), .val (.ref ar), .val (.ref ao), .unset, .unset, .unset] [(.ref ar), (.ref bt), (.ref bt)])) rfl (by rw [hml]; rfl) (a := bt) (argsL := [(.ref ar)]) (rest := [(.ref bt)]) pd0 rfl rfl rfl (by show 2 * 0 + _ ≤ _; exact Nat.le_of_eq rfl) (hb hby at_154) (by decide) (by decide) ?_
      intro T218 v218 L218 X218 hQ218
      obtain ⟨dt, rfl, N218q, K218q, y218_0, y218_1, y218_2, y218_3⟩ := hQ218
      have N218 := Fr.app N214 N218q
      replace E_ar := E_ar.keep K218q
      replace V_ar := V_ar.keep K218q (ninS ne_ar_bt nin0)
      replace E_ao := E_ao.keep K218q
      replace V_ao := V_ao.keep K218q (ninS ne_ao_bt nin0)
      replace E_bt := E_bt.keep K218q
      clear F_levels_bt
      have Z219 := Nat.le_trans Z217 K218q.1
      have E_bt := y218_0
      have F_levels_bt := y218_1
      have V_dt := y218_2
      have E_dt := y218_3
      show own_Go p e s below _ _ _ T218 (mkF m 157 #[.val (.int p0), .val (.int p1), .val (.int p2), .val (.int p3), .val (.int p4), .val (.int p5), .val (.int (3 : Int32)), .val (.int (3 : Int32)), .val (.int x0), .val (.int x1), .val (.int x2), .val (.int y0), .val (.int y1), .val (.int y2), .val (.ref ar), .val (.ref ao), .unset, .unset, .unset] [(.ref bt)])
      refine own_st (fun _ k => XS.astore X218.here hx rfl (hb hby at_157) rfl rfl (l' := #[.val (.int p0), .val (.int p1), .val (.int p2), .val (.int p3), .val (.int p4), .val (.int p5), .val (.int (3 : Int32)), .val (.int (3 : Int32)), .val (.int x0), .val (.int x1), .val (.int x2), .val (.int y0), .val (.int y1), .val (.int y2), .val (.ref ar), .val (.ref ao), .val (.ref bt), .unset, .unset]) rfl k) ?_
      show own_Go p e s below _ _ _ T218 (mkF m 159 #[.val (.int p0), .val (.int p1), .val (.int p2), .val (.int p3), .val (.int p4), .val (.int p5), .val (.int (3 : Int32)), .val (.int (3 : Int32)), .val (.int x0), .val (.int x1), .val (.int x2), .val (.int y0), .val (.int y1), .val (.int y2), .val (.ref ar), .val (.ref ao), .val (.ref bt), .unset, .unset] [])
      obtain ⟨T220, h220, X220, e220, E220, A220, D220, -, st220⟩ := newO X218 hx hZ hown (hw _ (List.mem_of_getElem? (i := 2) rfl)) (hw _ (List.mem_of_getElem? (i := 3) rfl)) (hw _ (List.mem_of_getElem? (i := 4) rfl)) rfl (g := (mkF m 159 #[.val (.int p0), .val (.int p1), .val (.int p2), .val (.int p3), .val (.int p4), .val (.int p5), .val (.int (3 : Int32)), .val (.int (3 : Int32)), .val (.int x0), .val (.int x1), .val (.int x2), .val (.int y0), .val (.int y1), .val (.int y2), .val (.ref ar), .val (.ref ao), .val (.ref bt), .unset, .unset] [])) rfl (hb hby at_159) (by decide) (by decide)
      obtain ⟨bu, g220⟩ : ∃ z, z = T218.heap.size := ⟨_, rfl⟩
      rw [← g220] at A220 D220 st220
      have g_bu : n0 ≤ bu := Nat.le_trans Z219 (Nat.le_of_eq g220.symm)
      have ne_ao_bu : ao ≠ bu := Nat.ne_of_lt (Nat.lt_of_lt_of_le E_ao.lt (Nat.le_of_eq g220.symm))
      have ne_bu_ao := Ne.symm ne_ao_bu
      have ne_ar_bu : ar ≠ bu := Nat.ne_of_lt (Nat.lt_of_lt_of_le E_ar.lt (Nat.le_of_eq g220.symm))
      have ne_bu_ar := Ne.symm ne_ar_bu
      have ne_bt_bu : bt ≠ bu := Nat.ne_of_lt (Nat.lt_of_lt_of_le E_bt.lt (Nat.le_of_eq g220.symm))
      have ne_bu_bt := Ne.symm ne_bt_bu
      have ne_dt_bu : dt ≠ bu := Nat.ne_of_lt (Nat.lt_of_lt_of_le V_dt.lt (Nat.le_of_eq g220.symm))
      have ne_bu_dt := Ne.symm ne_dt_bu
      replace E_ar := E_ar.ext E220
      replace V_ar := V_ar.ext E220
      replace E_ao := E_ao.ext E220
      replace V_ao := V_ao.ext E220
      replace E_bt := E_bt.ext E220
      replace F_levels_bt := F_levels_bt.ext E220
      replace V_dt := V_dt.ext E220
      replace E_dt := E_dt.ext E220
      have Z221 := Nat.le_trans Z219 E220.1
      have E_bu := A220
      have F_levels_bu : Fld Z h220 bu "com/example/hush5/hush5/model/Transformation" "levels" "[I" .null := D220 (Or.inr (hw _ (List.mem_of_getElem? (i := 21) rfl))) (ty := (.array .int)) (by decide)
      refine own_st st220 ?_
      show own_Go p e s below _ _ _ T220 (mkF m 162 #[.val (.int p0), .val (.int p1), .val (.int p2), .val (.int p3), .val (.int p4), .val (.int p5), .val (.int (3 : Int32)), .val (.int (3 : Int32)), .val (.int x0), .val (.int x1), .val (.int x2), .val (.int y0), .val (.int y1), .val (.int y2), .val (.ref ar), .val (.ref ao), .val (.ref bt), .unset, .unset] [(.ref bu)])
      refine own_st (fun _ k => XS.dup X220.here hx rfl (hb hby at_162) rfl rfl k) ?_
      show own_Go p e s below _ _ _ T220 (mkF m 163 #[.val (.int p0), .val (.int p1), .val (.int p2), .val (.int p3), .val (.int p4), .val (.int p5), .val (.int (3 : Int32)), .val (.int (3 : Int32)), .val (.int x0), .val (.int x1), .val (.int x2), .val (.int y0), .val (.int y1), .val (.int y2), .val (.ref ar), .val (.ref ao), .val (.ref bt), .unset, .unset] [(.ref bu), (.ref bu)])
      refine own_st (fun _ k => XS.aload X220.here hx rfl (hb hby at_163) rfl rfl k) ?_
      show own_Go p e s below _ _ _ T220 (mkF m 165 #[.val (.int p0), .val (.int p1), .val (.int p2), .val (.int p3), .val (.int p4), .val (.int p5), .val (.int (3 : Int32)), .val (.int (3 : Int32)), .val (.int x0), .val (.int x1), .val (.int x2), .val (.int y0), .val (.int y1), .val (.int y2), .val (.ref ar), .val (.ref ao), .val (.ref bt), .unset, .unset] [(.ref ao), (.ref bu), (.ref bu)])
      refine own_callN X220 hx hZ (y := (⟨"com/example/hush5/hush5/model/Transformation", "<init>", "([I)V"⟩ : MethodName)) rfl hown (hw _ (List.mem_of_getElem? (i := 5) rfl)) (hw _ (List.mem_of_getElem? (i := 6) rfl)) (hw _ (List.mem_of_getElem? (i := 4) rfl)) (hw _ (List.mem_of_getElem? (i := 7) rfl)) (by decide) e220 (rm1_3 l Z a0 hw [] bu ao k208 y0 y1 y2 h220 n0 Z221 E_bu F_levels_bu V_ao E_ao ne_bu_ao ne_ao_bu g_bu ny0 ny1 ny2) 1 (by decide) (by decide) (g := (mkF m 165 #[.val (.int p0), .val (.int p1), .val (.int p2), .val (.int p3), .val (.int p4), .val (.int p5), .val (.int (3 : Int32)), .val (.int (3 : Int32)), .val (.int x0), .val (.int x1), .val (.int x2), .val (.int y0), .val (.int y1), .val (.int y2), .val (.ref ar), .val (.ref ao), .val (.ref bt), .unset, .unset] [(.ref ao), (.ref bu), (.ref bu)])) rfl (by rw [hml]; rfl) (a := bu) (argsL := [(.ref ao)]) (rest := [(.ref bu)]) pd0 rfl rfl rfl (by show 2 * 0 + _ ≤ _; exact Nat.le_of_eq rfl) (hb hby at_165) (by decide) (by decide) ?_
      intro T222 v222 L222 X222 hQ222
      obtain ⟨du, rfl, N222q, K222q, y222_0, y222_1, y222_2, y222_3⟩ := hQ222
      have N222 := Fr.app N218 N222q
      replace E_ar := E_ar.keep K222q
      replace V_ar := V_ar.keep K222q (ninS ne_ar_bu nin0)
      replace E_ao := E_ao.keep K222q
      replace V_ao := V_ao.keep K222q (ninS ne_ao_bu nin0)
      replace E_bt := E_bt.keep K222q
      replace F_levels_bt := F_levels_bt.keep K222q (ninS ne_bt_bu nin0)
      replace V_dt := V_dt.keep K222q (ninS ne_dt_bu nin0)
      replace E_dt := E_dt.keep K222q
      replace E_bu := E_bu.keep K222q
      clear F_levels_bu
      have Z223 := Nat.le_trans Z221 K222q.1
      have E_bu := y222_0
      have F_levels_bu := y222_1
      have V_du := y222_2
      have E_du := y222_3
      show own_Go p e s below _ _ _ T222 (mkF m 168 #[.val (.int p0), .val (.int p1), .val (.int p2), .val (.int p3), .val (.int p4), .val (.int p5), .val (.int (3 : Int32)), .val (.int (3 : Int32)), .val (.int x0), .val (.int x1), .val (.int x2), .val (.int y0), .val (.int y1), .val (.int y2), .val (.ref ar), .val (.ref ao), .val (.ref bt), .unset, .unset] [(.ref bu)])
      refine own_st (fun _ k => XS.astore X222.here hx rfl (hb hby at_168) rfl rfl (l' := #[.val (.int p0), .val (.int p1), .val (.int p2), .val (.int p3), .val (.int p4), .val (.int p5), .val (.int (3 : Int32)), .val (.int (3 : Int32)), .val (.int x0), .val (.int x1), .val (.int x2), .val (.int y0), .val (.int y1), .val (.int y2), .val (.ref ar), .val (.ref ao), .val (.ref bt), .val (.ref bu), .unset]) rfl k) ?_
      show own_Go p e s below _ _ _ T222 (mkF m 170 #[.val (.int p0), .val (.int p1), .val (.int p2), .val (.int p3), .val (.int p4), .val (.int p5), .val (.int (3 : Int32)), .val (.int (3 : Int32)), .val (.int x0), .val (.int x1), .val (.int x2), .val (.int y0), .val (.int y1), .val (.int y2), .val (.ref ar), .val (.ref ao), .val (.ref bt), .val (.ref bu), .unset] [])
      refine own_st (fun _ k => XS.iload X222.here hx rfl (hb hby at_170) rfl k) ?_
      show own_Go p e s below _ _ _ T222 (mkF m 172 #[.val (.int p0), .val (.int p1), .val (.int p2), .val (.int p3), .val (.int p4), .val (.int p5), .val (.int (3 : Int32)), .val (.int (3 : Int32)), .val (.int x0), .val (.int x1), .val (.int x2), .val (.int y0), .val (.int y1), .val (.int y2), .val (.ref ar), .val (.ref ao), .val (.ref bt), .val (.ref bu), .unset] [(.int (3 : Int32))])
      refine own_st (fun _ k => XS.iconst X222.here hx rfl (hb hby at_172) k) ?_
      show own_Go p e s below _ _ _ T222 (mkF m 173 #[.val (.int p0), .val (.int p1), .val (.int p2), .val (.int p3), .val (.int p4), .val (.int p5), .val (.int (3 : Int32)), .val (.int (3 : Int32)), .val (.int x0), .val (.int x1), .val (.int x2), .val (.int y0), .val (.int y1), .val (.int y2), .val (.ref ar), .val (.ref ao), .val (.ref bt), .val (.ref bu), .unset] [(.int (1 : Int32)), (.int (3 : Int32))])
      have J214 : ∀  (bz : Int32) (_ : bz = own_b (¬ y0 < x0 ∧ ¬ y1 < x1 ∧ ¬ y2 < x2)), own_Go p e s below (fun (v : Option Value) (h : Heap) (L : List Loc) => v = some (.int 1) ∧ Fr n0 L) 24 128 T222 (mkF m 214 #[.val (.int p0), .val (.int p1), .val (.int p2), .val (.int p3), .val (.int p4), .val (.int p5), .val (.int (3 : Int32)), .val (.int (3 : Int32)), .val (.int x0), .val (.int x1), .val (.int x2), .val (.int y0), .val (.int y1), .val (.int y2), .val (.ref ar), .val (.ref ao), .val (.ref bt), .val (.ref bu), .unset] [(.int bz)]) := by
        rintro _ rfl
        show own_Go p e s below _ _ _ T222 (mkF m 214 #[.val (.int p0), .val (.int p1), .val (.int p2), .val (.int p3), .val (.int p4), .val (.int p5), .val (.int (3 : Int32)), .val (.int (3 : Int32)), .val (.int x0), .val (.int x1), .val (.int x2), .val (.int y0), .val (.int y1), .val (.int y2), .val (.ref ar), .val (.ref ao), .val (.ref bt), .val (.ref bu), .unset] [(.int (own_b (¬ y0 < x0 ∧ ¬ y1 < x1 ∧ ¬ y2 < x2)))])
        refine own_st (fun _ k => XS.istore X222.here hx rfl (hb hby at_214) rfl (l' := #[.val (.int p0), .val (.int p1), .val (.int p2), .val (.int p3), .val (.int p4), .val (.int p5), .val (.int (3 : Int32)), .val (.int (3 : Int32)), .val (.int x0), .val (.int x1), .val (.int x2), .val (.int y0), .val (.int y1), .val (.int y2), .val (.ref ar), .val (.ref ao), .val (.ref bt), .val (.ref bu), .val (.int (own_b (¬ y0 < x0 ∧ ¬ y1 < x1 ∧ ¬ y2 < x2)))]) rfl k) ?_
        show own_Go p e s below _ _ _ T222 (mkF m 216 #[.val (.int p0), .val (.int p1), .val (.int p2), .val (.int p3), .val (.int p4), .val (.int p5), .val (.int (3 : Int32)), .val (.int (3 : Int32)), .val (.int x0), .val (.int x1), .val (.int x2), .val (.int y0), .val (.int y1), .val (.int y2), .val (.ref ar), .val (.ref ao), .val (.ref bt), .val (.ref bu), .val (.int (own_b (¬ y0 < x0 ∧ ¬ y1 < x1 ∧ ¬ y2 < x2)))] [])
        refine own_st (fun _ k => XS.aload X222.here hx rfl (hb hby at_216) rfl rfl k) ?_
        show own_Go p e s below _ _ _ T222 (mkF m 218 #[.val (.int p0), .val (.int p1), .val (.int p2), .val (.int p3), .val (.int p4), .val (.int p5), .val (.int (3 : Int32)), .val (.int (3 : Int32)), .val (.int x0), .val (.int x1), .val (.int x2), .val (.int y0), .val (.int y1), .val (.int y2), .val (.ref ar), .val (.ref ao), .val (.ref bt), .val (.ref bu), .val (.int (own_b (¬ y0 < x0 ∧ ¬ y1 < x1 ∧ ¬ y2 < x2)))] [(.ref bt)])
        refine own_st (fun _ k => XS.aload X222.here hx rfl (hb hby at_218) rfl rfl k) ?_
        show own_Go p e s below _ _ _ T222 (mkF m 220 #[.val (.int p0), .val (.int p1), .val (.int p2), .val (.int p3), .val (.int p4), .val (.int p5), .val (.int (3 : Int32)), .val (.int (3 : Int32)), .val (.int x0), .val (.int x1), .val (.int x2), .val (.int y0), .val (.int y1), .val (.int y2), .val (.ref ar), .val (.ref ao), .val (.ref bt), .val (.ref bu), .val (.int (own_b (¬ y0 < x0 ∧ ¬ y1 < x1 ∧ ¬ y2 < x2)))] [(.ref bu), (.ref bt)])
        refine own_callV X222 hx hZ (y := (⟨"com/example/hush5/hush5/model/Transformation", "liesAtOrBelow", "(Lcom/example/hush5/hush5/model/Transformation;)Z"⟩ : MethodName)) hown (hw _ (List.mem_of_getElem? (i := 22) rfl)) (hw _ (List.mem_of_getElem? (i := 23) rfl)) (hw _ (List.mem_of_getElem? (i := 25) rfl)) (hw _ (List.mem_of_getElem? (i := 24) rfl)) (hw _ (List.mem_of_getElem? (i := 4) rfl)) (hw _ (List.mem_of_getElem? (i := 26) rfl)) (by decide) rfl (rm3_3_3 l Z a0 hw [] bt bu dt du k200 k208 x0 x1 x2 y0 y1 y2 T222.heap n0 Z223 F_levels_bt F_levels_bu V_dt V_du) 0 (by decide) (by decide) E_bt (g := (mkF m 220 #[.val (.int p0), .val (.int p1), .val (.int p2), .val (.int p3), .val (.int p4), .val (.int p5), .val (.int (3 : Int32)), .val (.int (3 : Int32)), .val (.int x0), .val (.int x1), .val (.int x2), .val (.int y0), .val (.int y1), .val (.int y2), .val (.ref ar), .val (.ref ao), .val (.ref bt), .val (.ref bu), .val (.int (own_b (¬ y0 < x0 ∧ ¬ y1 < x1 ∧ ¬ y2 < x2)))] [(.ref bu), (.ref bt)])) rfl (by rw [hml]; rfl) (argsL := [(.ref bu)]) (rest := []) pd1 rfl rfl rfl (by show 2 * 0 + _ ≤ _; exact Nat.le_of_eq rfl) (hb hby at_220) (by decide) (by decide) ?_
        intro T224 v224 L224 X224 hQ224
        obtain ⟨rfl, N224q, e224⟩ := hQ224
        have N224 := Fr.app N222 N224q
        show own_Go p e s below _ _ _ T224 (mkF m 223 #[.val (.int p0), .val (.int p1), .val (.int p2), .val (.int p3), .val (.int p4), .val (.int p5), .val (.int (3 : Int32)), .val (.int (3 : Int32)), .val (.int x0), .val (.int x1), .val (.int x2), .val (.int y0), .val (.int y1), .val (.int y2), .val (.ref ar), .val (.ref ao), .val (.ref bt), .val (.ref bu), .val (.int (own_b (¬ y0 < x0 ∧ ¬ y1 < x1 ∧ ¬ y2 < x2)))] [(.int (own_b (¬ y0 < x0 ∧ ¬ y1 < x1 ∧ ¬ y2 < x2)))])
        refine own_st (fun _ k => XS.iload X224.here hx rfl (hb hby at_223) rfl k) ?_
        show own_Go p e s below _ _ _ T224 (mkF m 225 #[.val (.int p0), .val (.int p1), .val (.int p2), .val (.int p3), .val (.int p4), .val (.int p5), .val (.int (3 : Int32)), .val (.int (3 : Int32)), .val (.int x0), .val (.int x1), .val (.int x2), .val (.int y0), .val (.int y1), .val (.int y2), .val (.ref ar), .val (.ref ao), .val (.ref bt), .val (.ref bu), .val (.int (own_b (¬ y0 < x0 ∧ ¬ y1 < x1 ∧ ¬ y2 < x2)))] [(.int (own_b (¬ y0 < x0 ∧ ¬ y1 < x1 ∧ ¬ y2 < x2))), (.int (own_b (¬ y0 < x0 ∧ ¬ y1 < x1 ∧ ¬ y2 < x2)))])
        refine own_st (fun _ k => XS.icmpNo X224.here hx rfl (hb hby at_225) rfl (teq (rfl : (own_b (¬ y0 < x0 ∧ ¬ y1 < x1 ∧ ¬ y2 < x2)) = (own_b (¬ y0 < x0 ∧ ¬ y1 < x1 ∧ ¬ y2 < x2)))).2 k) ?_
        show own_Go p e s below _ _ _ T224 (mkF m 228 #[.val (.int p0), .val (.int p1), .val (.int p2), .val (.int p3), .val (.int p4), .val (.int p5), .val (.int (3 : Int32)), .val (.int (3 : Int32)), .val (.int x0), .val (.int x1), .val (.int x2), .val (.int y0), .val (.int y1), .val (.int y2), .val (.ref ar), .val (.ref ao), .val (.ref bt), .val (.ref bu), .val (.int (own_b (¬ y0 < x0 ∧ ¬ y1 < x1 ∧ ¬ y2 < x2)))] [])
        refine own_st (fun _ k => XS.iconst X224.here hx rfl (hb hby at_228) k) ?_
        show own_Go p e s below _ _ _ T224 (mkF m 229 #[.val (.int p0), .val (.int p1), .val (.int p2), .val (.int p3), .val (.int p4), .val (.int p5), .val (.int (3 : Int32)), .val (.int (3 : Int32)), .val (.int x0), .val (.int x1), .val (.int x2), .val (.int y0), .val (.int y1), .val (.int y2), .val (.ref ar), .val (.ref ao), .val (.ref bt), .val (.ref bu), .val (.int (own_b (¬ y0 < x0 ∧ ¬ y1 < x1 ∧ ¬ y2 < x2)))] [(.int (1 : Int32))])
        refine own_st (fun _ k => XS.goto X224.here hx rfl (pc0 := 229) (pc' := 233) rfl (hb hby at_229) (by decide) (by decide) k) ?_
        show own_Go p e s below _ _ _ T224 (mkF m 233 #[.val (.int p0), .val (.int p1), .val (.int p2), .val (.int p3), .val (.int p4), .val (.int p5), .val (.int (3 : Int32)), .val (.int (3 : Int32)), .val (.int x0), .val (.int x1), .val (.int x2), .val (.int y0), .val (.int y1), .val (.int y2), .val (.ref ar), .val (.ref ao), .val (.ref bt), .val (.ref bu), .val (.int (own_b (¬ y0 < x0 ∧ ¬ y1 < x1 ∧ ¬ y2 < x2)))] [(.int (1 : Int32))])
        exact own_retN X224 hx hlk (t := .boolean) hret (by simp) (hb hby at_233) (z' := (1 : Int32)) rfl (by decide) (by decide) ⟨rfl, N224⟩
      refine own_st (fun _ k => XS.icmpNo X222.here hx rfl (hb hby at_173) rfl (by decide) k) ?_
      show own_Go p e s below _ _ _ T222 (mkF m 176 #[.val (.int p0), .val (.int p1), .val (.int p2), .val (.int p3), .val (.int p4), .val (.int p5), .val (.int (3 : Int32)), .val (.int (3 : Int32)), .val (.int x0), .val (.int x1), .val (.int x2), .val (.int y0), .val (.int y1), .val (.int y2), .val (.ref ar), .val (.ref ao), .val (.ref bt), .val (.ref bu), .unset] [])
      refine own_st (fun _ k => XS.iload X222.here hx rfl (hb hby at_176) rfl k) ?_
      show own_Go p e s below _ _ _ T222 (mkF m 178 #[.val (.int p0), .val (.int p1), .val (.int p2), .val (.int p3), .val (.int p4), .val (.int p5), .val (.int (3 : Int32)), .val (.int (3 : Int32)), .val (.int x0), .val (.int x1), .val (.int x2), .val (.int y0), .val (.int y1), .val (.int y2), .val (.ref ar), .val (.ref ao), .val (.ref bt), .val (.ref bu), .unset] [(.int x0)])
      refine own_st (fun _ k => XS.iload X222.here hx rfl (hb hby at_178) rfl k) ?_
      show own_Go p e s below _ _ _ T222 (mkF m 180 #[.val (.int p0), .val (.int p1), .val (.int p2), .val (.int p3), .val (.int p4), .val (.int p5), .val (.int (3 : Int32)), .val (.int (3 : Int32)), .val (.int x0), .val (.int x1), .val (.int x2), .val (.int y0), .val (.int y1), .val (.int y2), .val (.ref ar), .val (.ref ao), .val (.ref bt), .val (.ref bu), .unset] [(.int y0), (.int x0)])
      by_cases c180_225 : y0 < x0
      · refine own_st (fun _ k => XS.icmpYes X222.here hx rfl (pc0 := 180) (pc' := 213) rfl (hb hby at_180) rfl (tlt c180_225).2.2.1 (by decide) (by decide) k) ?_
        show own_Go p e s below _ _ _ T222 (mkF m 213 #[.val (.int p0), .val (.int p1), .val (.int p2), .val (.int p3), .val (.int p4), .val (.int p5), .val (.int (3 : Int32)), .val (.int (3 : Int32)), .val (.int x0), .val (.int x1), .val (.int x2), .val (.int y0), .val (.int y1), .val (.int y2), .val (.ref ar), .val (.ref ao), .val (.ref bt), .val (.ref bu), .unset] [])
        refine own_st (fun _ k => XS.iconst X222.here hx rfl (hb hby at_213) k) ?_
        show own_Go p e s below _ _ _ T222 (mkF m 214 #[.val (.int p0), .val (.int p1), .val (.int p2), .val (.int p3), .val (.int p4), .val (.int p5), .val (.int (3 : Int32)), .val (.int (3 : Int32)), .val (.int x0), .val (.int x1), .val (.int x2), .val (.int y0), .val (.int y1), .val (.int y2), .val (.ref ar), .val (.ref ao), .val (.ref bt), .val (.ref bu), .unset] [(.int (0 : Int32))])
        exact J214  _ (by rw [own_bf (P := (¬ y0 < x0 ∧ ¬ y1 < x1 ∧ ¬ y2 < x2)) (by simp [c17_199, c180_225])])
      · refine own_st (fun _ k => XS.icmpNo X222.here hx rfl (hb hby at_180) rfl (flt c180_225).2.2.1 k) ?_
        show own_Go p e s below _ _ _ T222 (mkF m 183 #[.val (.int p0), .val (.int p1), .val (.int p2), .val (.int p3), .val (.int p4), .val (.int p5), .val (.int (3 : Int32)), .val (.int (3 : Int32)), .val (.int x0), .val (.int x1), .val (.int x2), .val (.int y0), .val (.int y1), .val (.int y2), .val (.ref ar), .val (.ref ao), .val (.ref bt), .val (.ref bu), .unset] [])
        refine own_st (fun _ k => XS.iload X222.here hx rfl (hb hby at_183) rfl k) ?_
        show own_Go p e s below _ _ _ T222 (mkF m 185 #[.val (.int p0), .val (.int p1), .val (.int p2), .val (.int p3), .val (.int p4), .val (.int p5), .val (.int (3 : Int32)), .val (.int (3 : Int32)), .val (.int x0), .val (.int x1), .val (.int x2), .val (.int y0), .val (.int y1), .val (.int y2), .val (.ref ar), .val (.ref ao), .val (.ref bt), .val (.ref bu), .unset] [(.int (3 : Int32))])
        refine own_st (fun _ k => XS.iconst X222.here hx rfl (hb hby at_185) k) ?_
        show own_Go p e s below _ _ _ T222 (mkF m 186 #[.val (.int p0), .val (.int p1), .val (.int p2), .val (.int p3), .val (.int p4), .val (.int p5), .val (.int (3 : Int32)), .val (.int (3 : Int32)), .val (.int x0), .val (.int x1), .val (.int x2), .val (.int y0), .val (.int y1), .val (.int y2), .val (.ref ar), .val (.ref ao), .val (.ref bt), .val (.ref bu), .unset] [(.int (2 : Int32)), (.int (3 : Int32))])
        refine own_st (fun _ k => XS.icmpNo X222.here hx rfl (hb hby at_186) rfl (by decide) k) ?_
        show own_Go p e s below _ _ _ T222 (mkF m 189 #[.val (.int p0), .val (.int p1), .val (.int p2), .val (.int p3), .val (.int p4), .val (.int p5), .val (.int (3 : Int32)), .val (.int (3 : Int32)), .val (.int x0), .val (.int x1), .val (.int x2), .val (.int y0), .val (.int y1), .val (.int y2), .val (.ref ar), .val (.ref ao), .val (.ref bt), .val (.ref bu), .unset] [])
        refine own_st (fun _ k => XS.iload X222.here hx rfl (hb hby at_189) rfl k) ?_
        show own_Go p e s below _ _ _ T222 (mkF m 191 #[.val (.int p0), .val (.int p1), .val (.int p2), .val (.int p3), .val (.int p4), .val (.int p5), .val (.int (3 : Int32)), .val (.int (3 : Int32)), .val (.int x0), .val (.int x1), .val (.int x2), .val (.int y0), .val (.int y1), .val (.int y2), .val (.ref ar), .val (.ref ao), .val (.ref bt), .val (.ref bu), .unset] [(.int x1)])
        refine own_st (fun _ k => XS.iload X222.here hx rfl (hb hby at_191) rfl k) ?_
        show own_Go p e s below _ _ _ T222 (mkF m 193 #[.val (.int p0), .val (.int p1), .val (.int p2), .val (.int p3), .val (.int p4), .val (.int p5), .val (.int (3 : Int32)), .val (.int (3 : Int32)), .val (.int x0), .val (.int x1), .val (.int x2), .val (.int y0), .val (.int y1), .val (.int y2), .val (.ref ar), .val (.ref ao), .val (.ref bt), .val (.ref bu), .unset] [(.int y1), (.int x1)])
        by_cases c193_226 : y1 < x1
        · refine own_st (fun _ k => XS.icmpYes X222.here hx rfl (pc0 := 193) (pc' := 213) rfl (hb hby at_193) rfl (tlt c193_226).2.2.1 (by decide) (by decide) k) ?_
          show own_Go p e s below _ _ _ T222 (mkF m 213 #[.val (.int p0), .val (.int p1), .val (.int p2), .val (.int p3), .val (.int p4), .val (.int p5), .val (.int (3 : Int32)), .val (.int (3 : Int32)), .val (.int x0), .val (.int x1), .val (.int x2), .val (.int y0), .val (.int y1), .val (.int y2), .val (.ref ar), .val (.ref ao), .val (.ref bt), .val (.ref bu), .unset] [])
          refine own_st (fun _ k => XS.iconst X222.here hx rfl (hb hby at_213) k) ?_
          show own_Go p e s below _ _ _ T222 (mkF m 214 #[.val (.int p0), .val (.int p1), .val (.int p2), .val (.int p3), .val (.int p4), .val (.int p5), .val (.int (3 : Int32)), .val (.int (3 : Int32)), .val (.int x0), .val (.int x1), .val (.int x2), .val (.int y0), .val (.int y1), .val (.int y2), .val (.ref ar), .val (.ref ao), .val (.ref bt), .val (.ref bu), .unset] [(.int (0 : Int32))])
          exact J214  _ (by rw [own_bf (P := (¬ y0 < x0 ∧ ¬ y1 < x1 ∧ ¬ y2 < x2)) (by simp [c17_199, c180_225, c193_226])])
        · refine own_st (fun _ k => XS.icmpNo X222.here hx rfl (hb hby at_193) rfl (flt c193_226).2.2.1 k) ?_
          show own_Go p e s below _ _ _ T222 (mkF m 196 #[.val (.int p0), .val (.int p1), .val (.int p2), .val (.int p3), .val (.int p4), .val (.int p5), .val (.int (3 : Int32)), .val (.int (3 : Int32)), .val (.int x0), .val (.int x1), .val (.int x2), .val (.int y0), .val (.int y1), .val (.int y2), .val (.ref ar), .val (.ref ao), .val (.ref bt), .val (.ref bu), .unset] [])
          refine own_st (fun _ k => XS.iload X222.here hx rfl (hb hby at_196) rfl k) ?_
          show own_Go p e s below _ _ _ T222 (mkF m 198 #[.val (.int p0), .val (.int p1), .val (.int p2), .val (.int p3), .val (.int p4), .val (.int p5), .val (.int (3 : Int32)), .val (.int (3 : Int32)), .val (.int x0), .val (.int x1), .val (.int x2), .val (.int y0), .val (.int y1), .val (.int y2), .val (.ref ar), .val (.ref ao), .val (.ref bt), .val (.ref bu), .unset] [(.int (3 : Int32))])
          refine own_st (fun _ k => XS.iconst X222.here hx rfl (hb hby at_198) k) ?_
          show own_Go p e s below _ _ _ T222 (mkF m 199 #[.val (.int p0), .val (.int p1), .val (.int p2), .val (.int p3), .val (.int p4), .val (.int p5), .val (.int (3 : Int32)), .val (.int (3 : Int32)), .val (.int x0), .val (.int x1), .val (.int x2), .val (.int y0), .val (.int y1), .val (.int y2), .val (.ref ar), .val (.ref ao), .val (.ref bt), .val (.ref bu), .unset] [(.int (3 : Int32)), (.int (3 : Int32))])
          refine own_st (fun _ k => XS.icmpNo X222.here hx rfl (hb hby at_199) rfl (by decide) k) ?_
          show own_Go p e s below _ _ _ T222 (mkF m 202 #[.val (.int p0), .val (.int p1), .val (.int p2), .val (.int p3), .val (.int p4), .val (.int p5), .val (.int (3 : Int32)), .val (.int (3 : Int32)), .val (.int x0), .val (.int x1), .val (.int x2), .val (.int y0), .val (.int y1), .val (.int y2), .val (.ref ar), .val (.ref ao), .val (.ref bt), .val (.ref bu), .unset] [])
          refine own_st (fun _ k => XS.iload X222.here hx rfl (hb hby at_202) rfl k) ?_
          show own_Go p e s below _ _ _ T222 (mkF m 204 #[.val (.int p0), .val (.int p1), .val (.int p2), .val (.int p3), .val (.int p4), .val (.int p5), .val (.int (3 : Int32)), .val (.int (3 : Int32)), .val (.int x0), .val (.int x1), .val (.int x2), .val (.int y0), .val (.int y1), .val (.int y2), .val (.ref ar), .val (.ref ao), .val (.ref bt), .val (.ref bu), .unset] [(.int x2)])
          refine own_st (fun _ k => XS.iload X222.here hx rfl (hb hby at_204) rfl k) ?_
          show own_Go p e s below _ _ _ T222 (mkF m 206 #[.val (.int p0), .val (.int p1), .val (.int p2), .val (.int p3), .val (.int p4), .val (.int p5), .val (.int (3 : Int32)), .val (.int (3 : Int32)), .val (.int x0), .val (.int x1), .val (.int x2), .val (.int y0), .val (.int y1), .val (.int y2), .val (.ref ar), .val (.ref ao), .val (.ref bt), .val (.ref bu), .unset] [(.int y2), (.int x2)])
          by_cases c206_227 : y2 < x2
          · refine own_st (fun _ k => XS.icmpYes X222.here hx rfl (pc0 := 206) (pc' := 213) rfl (hb hby at_206) rfl (tlt c206_227).2.2.1 (by decide) (by decide) k) ?_
            show own_Go p e s below _ _ _ T222 (mkF m 213 #[.val (.int p0), .val (.int p1), .val (.int p2), .val (.int p3), .val (.int p4), .val (.int p5), .val (.int (3 : Int32)), .val (.int (3 : Int32)), .val (.int x0), .val (.int x1), .val (.int x2), .val (.int y0), .val (.int y1), .val (.int y2), .val (.ref ar), .val (.ref ao), .val (.ref bt), .val (.ref bu), .unset] [])
            refine own_st (fun _ k => XS.iconst X222.here hx rfl (hb hby at_213) k) ?_
            show own_Go p e s below _ _ _ T222 (mkF m 214 #[.val (.int p0), .val (.int p1), .val (.int p2), .val (.int p3), .val (.int p4), .val (.int p5), .val (.int (3 : Int32)), .val (.int (3 : Int32)), .val (.int x0), .val (.int x1), .val (.int x2), .val (.int y0), .val (.int y1), .val (.int y2), .val (.ref ar), .val (.ref ao), .val (.ref bt), .val (.ref bu), .unset] [(.int (0 : Int32))])
            exact J214  _ (by rw [own_bf (P := (¬ y0 < x0 ∧ ¬ y1 < x1 ∧ ¬ y2 < x2)) (by simp [c180_225, c193_226, c206_227])])
          · refine own_st (fun _ k => XS.icmpNo X222.here hx rfl (hb hby at_206) rfl (flt c206_227).2.2.1 k) ?_
            show own_Go p e s below _ _ _ T222 (mkF m 209 #[.val (.int p0), .val (.int p1), .val (.int p2), .val (.int p3), .val (.int p4), .val (.int p5), .val (.int (3 : Int32)), .val (.int (3 : Int32)), .val (.int x0), .val (.int x1), .val (.int x2), .val (.int y0), .val (.int y1), .val (.int y2), .val (.ref ar), .val (.ref ao), .val (.ref bt), .val (.ref bu), .unset] [])
            refine own_st (fun _ k => XS.iconst X222.here hx rfl (hb hby at_209) k) ?_
            show own_Go p e s below _ _ _ T222 (mkF m 210 #[.val (.int p0), .val (.int p1), .val (.int p2), .val (.int p3), .val (.int p4), .val (.int p5), .val (.int (3 : Int32)), .val (.int (3 : Int32)), .val (.int x0), .val (.int x1), .val (.int x2), .val (.int y0), .val (.int y1), .val (.int y2), .val (.ref ar), .val (.ref ao), .val (.ref bt), .val (.ref bu), .unset] [(.int (1 : Int32))])
            refine own_st (fun _ k => XS.goto X222.here hx rfl (pc0 := 210) (pc' := 214) rfl (hb hby at_210) (by decide) (by decide) k) ?_
            show own_Go p e s below _ _ _ T222 (mkF m 214 #[.val (.int p0), .val (.int p1), .val (.int p2), .val (.int p3), .val (.int p4), .val (.int p5), .val (.int (3 : Int32)), .val (.int (3 : Int32)), .val (.int x0), .val (.int x1), .val (.int x2), .val (.int y0), .val (.int y1), .val (.int y2), .val (.ref ar), .val (.ref ao), .val (.ref bt), .val (.ref bu), .unset] [(.int (1 : Int32))])
            exact J214  _ (by rw [own_bt (P := (¬ y0 < x0 ∧ ¬ y1 < x1 ∧ ¬ y2 < x2)) (by simp [c180_225, c193_226, c206_227])])
    · refine own_st (fun _ k => XS.ifNo X0.here hx rfl (hb hby at_17) rfl ((if0 _ _).trans (feq c17_199).1) k) ?_
      show own_Go p e s below _ _ _ T0 (mkF m 20 #[.val (.int p0), .val (.int p1), .val (.int p2), .val (.int p3), .val (.int p4), .val (.int p5), .val (.int (3 : Int32)), .unset, .unset, .unset, .unset, .unset, .unset, .unset, .unset, .unset, .unset, .unset, .unset] [])
      refine own_st (fun _ k => XS.iconst X0.here hx rfl (hb hby at_20) k) ?_
      show own_Go p e s below _ _ _ T0 (mkF m 21 #[.val (.int p0), .val (.int p1), .val (.int p2), .val (.int p3), .val (.int p4), .val (.int p5), .val (.int (3 : Int32)), .unset, .unset, .unset, .unset, .unset, .unset, .unset, .unset, .unset, .unset, .unset, .unset] [(.int (3 : Int32))])
      refine own_st (fun _ k => XS.goto X0.here hx rfl (pc0 := 21) (pc' := 26) rfl (hb hby at_21) (by decide) (by decide) k) ?_
      show own_Go p e s below _ _ _ T0 (mkF m 26 #[.val (.int p0), .val (.int p1), .val (.int p2), .val (.int p3), .val (.int p4), .val (.int p5), .val (.int (3 : Int32)), .unset, .unset, .unset, .unset, .unset, .unset, .unset, .unset, .unset, .unset, .unset, .unset] [(.int (3 : Int32))])
      refine own_st (fun _ k => XS.istore X0.here hx rfl (hb hby at_26) rfl (l' := #[.val (.int p0), .val (.int p1), .val (.int p2), .val (.int p3), .val (.int p4), .val (.int p5), .val (.int (3 : Int32)), .val (.int (3 : Int32)), .unset, .unset, .unset, .unset, .unset, .unset, .unset, .unset, .unset, .unset, .unset]) rfl k) ?_
      show own_Go p e s below _ _ _ T0 (mkF m 28 #[.val (.int p0), .val (.int p1), .val (.int p2), .val (.int p3), .val (.int p4), .val (.int p5), .val (.int (3 : Int32)), .val (.int (3 : Int32)), .unset, .unset, .unset, .unset, .unset, .unset, .unset, .unset, .unset, .unset, .unset] [])
      refine own_st (fun _ k => XS.iloadN X0.here hx rfl (hb hby at_28) rfl k) ?_
      show own_Go p e s below _ _ _ T0 (mkF m 29 #[.val (.int p0), .val (.int p1), .val (.int p2), .val (.int p3), .val (.int p4), .val (.int p5), .val (.int (3 : Int32)), .val (.int (3 : Int32)), .unset, .unset, .unset, .unset, .unset, .unset, .unset, .unset, .unset, .unset, .unset] [(.int p0)])
      refine own_st (X0.ldcInt hx hown (mvT hZ (hw _ (List.mem_of_getElem? (i := 0) rfl))) (g := (mkF m 29 #[.val (.int p0), .val (.int p1), .val (.int p2), .val (.int p3), .val (.int p4), .val (.int p5), .val (.int (3 : Int32)), .val (.int (3 : Int32)), .unset, .unset, .unset, .unset, .unset, .unset, .unset, .unset, .unset, .unset, .unset] [(.int p0)])) rfl (hb hby at_29)) ?_
      show own_Go p e s below _ _ _ T0 (mkF m 31 #[.val (.int p0), .val (.int p1), .val (.int p2), .val (.int p3), .val (.int p4), .val (.int p5), .val (.int (3 : Int32)), .val (.int (3 : Int32)), .unset, .unset, .unset, .unset, .unset, .unset, .unset, .unset, .unset, .unset, .unset] [(.int (2147483647 : Int32)), (.int p0)])
      refine own_st (fun _ k => XS.iand X0.here hx rfl (hb hby at_31) rfl k) ?_
      show own_Go p e s below _ _ _ T0 (mkF m 32 #[.val (.int p0), .val (.int p1), .val (.int p2), .val (.int p3), .val (.int p4), .val (.int p5), .val (.int (3 : Int32)), .val (.int (3 : Int32)), .unset, .unset, .unset, .unset, .unset, .unset, .unset, .unset, .unset, .unset, .unset] [(.int (p0 &&& (2147483647 : Int32)))])
      refine own_st (fun _ k => XS.istore X0.here hx rfl (hb hby at_32) rfl (l' := #[.val (.int p0), .val (.int p1), .val (.int p2), .val (.int p3), .val (.int p4), .val (.int p5), .val (.int (3 : Int32)), .val (.int (3 : Int32)), .val (.int (p0 &&& (2147483647 : Int32))), .unset, .unset, .unset, .unset, .unset, .unset, .unset, .unset, .unset, .unset]) rfl k) ?_
      show own_Go p e s below _ _ _ T0 (mkF m 34 #[.val (.int p0), .val (.int p1), .val (.int p2), .val (.int p3), .val (.int p4), .val (.int p5), .val (.int (3 : Int32)), .val (.int (3 : Int32)), .val (.int (p0 &&& (2147483647 : Int32))), .unset, .unset, .unset, .unset, .unset, .unset, .unset, .unset, .unset, .unset] [])
      refine own_st (fun _ k => XS.iloadN X0.here hx rfl (hb hby at_34) rfl k) ?_
      show own_Go p e s below _ _ _ T0 (mkF m 35 #[.val (.int p0), .val (.int p1), .val (.int p2), .val (.int p3), .val (.int p4), .val (.int p5), .val (.int (3 : Int32)), .val (.int (3 : Int32)), .val (.int (p0 &&& (2147483647 : Int32))), .unset, .unset, .unset, .unset, .unset, .unset, .unset, .unset, .unset, .unset] [(.int p1)])
      refine own_st (X0.ldcInt hx hown (mvT hZ (hw _ (List.mem_of_getElem? (i := 0) rfl))) (g := (mkF m 35 #[.val (.int p0), .val (.int p1), .val (.int p2), .val (.int p3), .val (.int p4), .val (.int p5), .val (.int (3 : Int32)), .val (.int (3 : Int32)), .val (.int (p0 &&& (2147483647 : Int32))), .unset, .unset, .unset, .unset, .unset, .unset, .unset, .unset, .unset, .unset] [(.int p1)])) rfl (hb hby at_35)) ?_
      show own_Go p e s below _ _ _ T0 (mkF m 37 #[.val (.int p0), .val (.int p1), .val (.int p2), .val (.int p3), .val (.int p4), .val (.int p5), .val (.int (3 : Int32)), .val (.int (3 : Int32)), .val (.int (p0 &&& (2147483647 : Int32))), .unset, .unset, .unset, .unset, .unset, .unset, .unset, .unset, .unset, .unset] [(.int (2147483647 : Int32)), (.int p1)])
      refine own_st (fun _ k => XS.iand X0.here hx rfl (hb hby at_37) rfl k) ?_
      show own_Go p e s below _ _ _ T0 (mkF m 38 #[.val (.int p0), .val (.int p1), .val (.int p2), .val (.int p3), .val (.int p4), .val (.int p5), .val (.int (3 : Int32)), .val (.int (3 : Int32)), .val (.int (p0 &&& (2147483647 : Int32))), .unset, .unset, .unset, .unset, .unset, .unset, .unset, .unset, .unset, .unset] [(.int (p1 &&& (2147483647 : Int32)))])
      refine own_st (fun _ k => XS.istore X0.here hx rfl (hb hby at_38) rfl (l' := #[.val (.int p0), .val (.int p1), .val (.int p2), .val (.int p3), .val (.int p4), .val (.int p5), .val (.int (3 : Int32)), .val (.int (3 : Int32)), .val (.int (p0 &&& (2147483647 : Int32))), .val (.int (p1 &&& (2147483647 : Int32))), .unset, .unset, .unset, .unset, .unset, .unset, .unset, .unset, .unset]) rfl k) ?_
      show own_Go p e s below _ _ _ T0 (mkF m 40 #[.val (.int p0), .val (.int p1), .val (.int p2), .val (.int p3), .val (.int p4), .val (.int p5), .val (.int (3 : Int32)), .val (.int (3 : Int32)), .val (.int (p0 &&& (2147483647 : Int32))), .val (.int (p1 &&& (2147483647 : Int32))), .unset, .unset, .unset, .unset, .unset, .unset, .unset, .unset, .unset] [])
      refine own_st (fun _ k => XS.iloadN X0.here hx rfl (hb hby at_40) rfl k) ?_
      show own_Go p e s below _ _ _ T0 (mkF m 41 #[.val (.int p0), .val (.int p1), .val (.int p2), .val (.int p3), .val (.int p4), .val (.int p5), .val (.int (3 : Int32)), .val (.int (3 : Int32)), .val (.int (p0 &&& (2147483647 : Int32))), .val (.int (p1 &&& (2147483647 : Int32))), .unset, .unset, .unset, .unset, .unset, .unset, .unset, .unset, .unset] [(.int p2)])
      refine own_st (X0.ldcInt hx hown (mvT hZ (hw _ (List.mem_of_getElem? (i := 0) rfl))) (g := (mkF m 41 #[.val (.int p0), .val (.int p1), .val (.int p2), .val (.int p3), .val (.int p4), .val (.int p5), .val (.int (3 : Int32)), .val (.int (3 : Int32)), .val (.int (p0 &&& (2147483647 : Int32))), .val (.int (p1 &&& (2147483647 : Int32))), .unset, .unset, .unset, .unset, .unset, .unset, .unset, .unset, .unset] [(.int p2)])) rfl (hb hby at_41)) ?_
      show own_Go p e s below _ _ _ T0 (mkF m 43 #[.val (.int p0), .val (.int p1), .val (.int p2), .val (.int p3), .val (.int p4), .val (.int p5), .val (.int (3 : Int32)), .val (.int (3 : Int32)), .val (.int (p0 &&& (2147483647 : Int32))), .val (.int (p1 &&& (2147483647 : Int32))), .unset, .unset, .unset, .unset, .unset, .unset, .unset, .unset, .unset] [(.int (2147483647 : Int32)), (.int p2)])
      refine own_st (fun _ k => XS.iand X0.here hx rfl (hb hby at_43) rfl k) ?_
      show own_Go p e s below _ _ _ T0 (mkF m 44 #[.val (.int p0), .val (.int p1), .val (.int p2), .val (.int p3), .val (.int p4), .val (.int p5), .val (.int (3 : Int32)), .val (.int (3 : Int32)), .val (.int (p0 &&& (2147483647 : Int32))), .val (.int (p1 &&& (2147483647 : Int32))), .unset, .unset, .unset, .unset, .unset, .unset, .unset, .unset, .unset] [(.int (p2 &&& (2147483647 : Int32)))])
      refine own_st (fun _ k => XS.istore X0.here hx rfl (hb hby at_44) rfl (l' := #[.val (.int p0), .val (.int p1), .val (.int p2), .val (.int p3), .val (.int p4), .val (.int p5), .val (.int (3 : Int32)), .val (.int (3 : Int32)), .val (.int (p0 &&& (2147483647 : Int32))), .val (.int (p1 &&& (2147483647 : Int32))), .val (.int (p2 &&& (2147483647 : Int32))), .unset, .unset, .unset, .unset, .unset, .unset, .unset, .unset]) rfl k) ?_
      show own_Go p e s below _ _ _ T0 (mkF m 46 #[.val (.int p0), .val (.int p1), .val (.int p2), .val (.int p3), .val (.int p4), .val (.int p5), .val (.int (3 : Int32)), .val (.int (3 : Int32)), .val (.int (p0 &&& (2147483647 : Int32))), .val (.int (p1 &&& (2147483647 : Int32))), .val (.int (p2 &&& (2147483647 : Int32))), .unset, .unset, .unset, .unset, .unset, .unset, .unset, .unset] [])
      refine own_st (fun _ k => XS.iloadN X0.here hx rfl (hb hby at_46) rfl k) ?_
      show own_Go p e s below _ _ _ T0 (mkF m 47 #[.val (.int p0), .val (.int p1), .val (.int p2), .val (.int p3), .val (.int p4), .val (.int p5), .val (.int (3 : Int32)), .val (.int (3 : Int32)), .val (.int (p0 &&& (2147483647 : Int32))), .val (.int (p1 &&& (2147483647 : Int32))), .val (.int (p2 &&& (2147483647 : Int32))), .unset, .unset, .unset, .unset, .unset, .unset, .unset, .unset] [(.int p3)])
      refine own_st (X0.ldcInt hx hown (mvT hZ (hw _ (List.mem_of_getElem? (i := 0) rfl))) (g := (mkF m 47 #[.val (.int p0), .val (.int p1), .val (.int p2), .val (.int p3), .val (.int p4), .val (.int p5), .val (.int (3 : Int32)), .val (.int (3 : Int32)), .val (.int (p0 &&& (2147483647 : Int32))), .val (.int (p1 &&& (2147483647 : Int32))), .val (.int (p2 &&& (2147483647 : Int32))), .unset, .unset, .unset, .unset, .unset, .unset, .unset, .unset] [(.int p3)])) rfl (hb hby at_47)) ?_
      show own_Go p e s below _ _ _ T0 (mkF m 49 #[.val (.int p0), .val (.int p1), .val (.int p2), .val (.int p3), .val (.int p4), .val (.int p5), .val (.int (3 : Int32)), .val (.int (3 : Int32)), .val (.int (p0 &&& (2147483647 : Int32))), .val (.int (p1 &&& (2147483647 : Int32))), .val (.int (p2 &&& (2147483647 : Int32))), .unset, .unset, .unset, .unset, .unset, .unset, .unset, .unset] [(.int (2147483647 : Int32)), (.int p3)])
      refine own_st (fun _ k => XS.iand X0.here hx rfl (hb hby at_49) rfl k) ?_
      show own_Go p e s below _ _ _ T0 (mkF m 50 #[.val (.int p0), .val (.int p1), .val (.int p2), .val (.int p3), .val (.int p4), .val (.int p5), .val (.int (3 : Int32)), .val (.int (3 : Int32)), .val (.int (p0 &&& (2147483647 : Int32))), .val (.int (p1 &&& (2147483647 : Int32))), .val (.int (p2 &&& (2147483647 : Int32))), .unset, .unset, .unset, .unset, .unset, .unset, .unset, .unset] [(.int (p3 &&& (2147483647 : Int32)))])
      refine own_st (fun _ k => XS.istore X0.here hx rfl (hb hby at_50) rfl (l' := #[.val (.int p0), .val (.int p1), .val (.int p2), .val (.int p3), .val (.int p4), .val (.int p5), .val (.int (3 : Int32)), .val (.int (3 : Int32)), .val (.int (p0 &&& (2147483647 : Int32))), .val (.int (p1 &&& (2147483647 : Int32))), .val (.int (p2 &&& (2147483647 : Int32))), .val (.int (p3 &&& (2147483647 : Int32))), .unset, .unset, .unset, .unset, .unset, .unset, .unset]) rfl k) ?_
      show own_Go p e s below _ _ _ T0 (mkF m 52 #[.val (.int p0), .val (.int p1), .val (.int p2), .val (.int p3), .val (.int p4), .val (.int p5), .val (.int (3 : Int32)), .val (.int (3 : Int32)), .val (.int (p0 &&& (2147483647 : Int32))), .val (.int (p1 &&& (2147483647 : Int32))), .val (.int (p2 &&& (2147483647 : Int32))), .val (.int (p3 &&& (2147483647 : Int32))), .unset, .unset, .unset, .unset, .unset, .unset, .unset] [])
      refine own_st (fun _ k => XS.iload X0.here hx rfl (hb hby at_52) rfl k) ?_
      show own_Go p e s below _ _ _ T0 (mkF m 54 #[.val (.int p0), .val (.int p1), .val (.int p2), .val (.int p3), .val (.int p4), .val (.int p5), .val (.int (3 : Int32)), .val (.int (3 : Int32)), .val (.int (p0 &&& (2147483647 : Int32))), .val (.int (p1 &&& (2147483647 : Int32))), .val (.int (p2 &&& (2147483647 : Int32))), .val (.int (p3 &&& (2147483647 : Int32))), .unset, .unset, .unset, .unset, .unset, .unset, .unset] [(.int p4)])
      refine own_st (X0.ldcInt hx hown (mvT hZ (hw _ (List.mem_of_getElem? (i := 0) rfl))) (g := (mkF m 54 #[.val (.int p0), .val (.int p1), .val (.int p2), .val (.int p3), .val (.int p4), .val (.int p5), .val (.int (3 : Int32)), .val (.int (3 : Int32)), .val (.int (p0 &&& (2147483647 : Int32))), .val (.int (p1 &&& (2147483647 : Int32))), .val (.int (p2 &&& (2147483647 : Int32))), .val (.int (p3 &&& (2147483647 : Int32))), .unset, .unset, .unset, .unset, .unset, .unset, .unset] [(.int p4)])) rfl (hb hby at_54)) ?_
      show own_Go p e s below _ _ _ T0 (mkF m 56 #[.val (.int p0), .val (.int p1), .val (.int p2), .val (.int p3), .val (.int p4), .val (.int p5), .val (.int (3 : Int32)), .val (.int (3 : Int32)), .val (.int (p0 &&& (2147483647 : Int32))), .val (.int (p1 &&& (2147483647 : Int32))), .val (.int (p2 &&& (2147483647 : Int32))), .val (.int (p3 &&& (2147483647 : Int32))), .unset, .unset, .unset, .unset, .unset, .unset, .unset] [(.int (2147483647 : Int32)), (.int p4)])
      refine own_st (fun _ k => XS.iand X0.here hx rfl (hb hby at_56) rfl k) ?_
      show own_Go p e s below _ _ _ T0 (mkF m 57 #[.val (.int p0), .val (.int p1), .val (.int p2), .val (.int p3), .val (.int p4), .val (.int p5), .val (.int (3 : Int32)), .val (.int (3 : Int32)), .val (.int (p0 &&& (2147483647 : Int32))), .val (.int (p1 &&& (2147483647 : Int32))), .val (.int (p2 &&& (2147483647 : Int32))), .val (.int (p3 &&& (2147483647 : Int32))), .unset, .unset, .unset, .unset, .unset, .unset, .unset] [(.int (p4 &&& (2147483647 : Int32)))])
      refine own_st (fun _ k => XS.istore X0.here hx rfl (hb hby at_57) rfl (l' := #[.val (.int p0), .val (.int p1), .val (.int p2), .val (.int p3), .val (.int p4), .val (.int p5), .val (.int (3 : Int32)), .val (.int (3 : Int32)), .val (.int (p0 &&& (2147483647 : Int32))), .val (.int (p1 &&& (2147483647 : Int32))), .val (.int (p2 &&& (2147483647 : Int32))), .val (.int (p3 &&& (2147483647 : Int32))), .val (.int (p4 &&& (2147483647 : Int32))), .unset, .unset, .unset, .unset, .unset, .unset]) rfl k) ?_
      show own_Go p e s below _ _ _ T0 (mkF m 59 #[.val (.int p0), .val (.int p1), .val (.int p2), .val (.int p3), .val (.int p4), .val (.int p5), .val (.int (3 : Int32)), .val (.int (3 : Int32)), .val (.int (p0 &&& (2147483647 : Int32))), .val (.int (p1 &&& (2147483647 : Int32))), .val (.int (p2 &&& (2147483647 : Int32))), .val (.int (p3 &&& (2147483647 : Int32))), .val (.int (p4 &&& (2147483647 : Int32))), .unset, .unset, .unset, .unset, .unset, .unset] [])
      refine own_st (fun _ k => XS.iload X0.here hx rfl (hb hby at_59) rfl k) ?_
      show own_Go p e s below _ _ _ T0 (mkF m 61 #[.val (.int p0), .val (.int p1), .val (.int p2), .val (.int p3), .val (.int p4), .val (.int p5), .val (.int (3 : Int32)), .val (.int (3 : Int32)), .val (.int (p0 &&& (2147483647 : Int32))), .val (.int (p1 &&& (2147483647 : Int32))), .val (.int (p2 &&& (2147483647 : Int32))), .val (.int (p3 &&& (2147483647 : Int32))), .val (.int (p4 &&& (2147483647 : Int32))), .unset, .unset, .unset, .unset, .unset, .unset] [(.int p5)])
      refine own_st (X0.ldcInt hx hown (mvT hZ (hw _ (List.mem_of_getElem? (i := 0) rfl))) (g := (mkF m 61 #[.val (.int p0), .val (.int p1), .val (.int p2), .val (.int p3), .val (.int p4), .val (.int p5), .val (.int (3 : Int32)), .val (.int (3 : Int32)), .val (.int (p0 &&& (2147483647 : Int32))), .val (.int (p1 &&& (2147483647 : Int32))), .val (.int (p2 &&& (2147483647 : Int32))), .val (.int (p3 &&& (2147483647 : Int32))), .val (.int (p4 &&& (2147483647 : Int32))), .unset, .unset, .unset, .unset, .unset, .unset] [(.int p5)])) rfl (hb hby at_61)) ?_
      show own_Go p e s below _ _ _ T0 (mkF m 63 #[.val (.int p0), .val (.int p1), .val (.int p2), .val (.int p3), .val (.int p4), .val (.int p5), .val (.int (3 : Int32)), .val (.int (3 : Int32)), .val (.int (p0 &&& (2147483647 : Int32))), .val (.int (p1 &&& (2147483647 : Int32))), .val (.int (p2 &&& (2147483647 : Int32))), .val (.int (p3 &&& (2147483647 : Int32))), .val (.int (p4 &&& (2147483647 : Int32))), .unset, .unset, .unset, .unset, .unset, .unset] [(.int (2147483647 : Int32)), (.int p5)])
      refine own_st (fun _ k => XS.iand X0.here hx rfl (hb hby at_63) rfl k) ?_
      show own_Go p e s below _ _ _ T0 (mkF m 64 #[.val (.int p0), .val (.int p1), .val (.int p2), .val (.int p3), .val (.int p4), .val (.int p5), .val (.int (3 : Int32)), .val (.int (3 : Int32)), .val (.int (p0 &&& (2147483647 : Int32))), .val (.int (p1 &&& (2147483647 : Int32))), .val (.int (p2 &&& (2147483647 : Int32))), .val (.int (p3 &&& (2147483647 : Int32))), .val (.int (p4 &&& (2147483647 : Int32))), .unset, .unset, .unset, .unset, .unset, .unset] [(.int (p5 &&& (2147483647 : Int32)))])
      refine own_st (fun _ k => XS.istore X0.here hx rfl (hb hby at_64) rfl (l' := #[.val (.int p0), .val (.int p1), .val (.int p2), .val (.int p3), .val (.int p4), .val (.int p5), .val (.int (3 : Int32)), .val (.int (3 : Int32)), .val (.int (p0 &&& (2147483647 : Int32))), .val (.int (p1 &&& (2147483647 : Int32))), .val (.int (p2 &&& (2147483647 : Int32))), .val (.int (p3 &&& (2147483647 : Int32))), .val (.int (p4 &&& (2147483647 : Int32))), .val (.int (p5 &&& (2147483647 : Int32))), .unset, .unset, .unset, .unset, .unset]) rfl k) ?_
      show own_Go p e s below _ _ _ T0 (mkF m 66 #[.val (.int p0), .val (.int p1), .val (.int p2), .val (.int p3), .val (.int p4), .val (.int p5), .val (.int (3 : Int32)), .val (.int (3 : Int32)), .val (.int (p0 &&& (2147483647 : Int32))), .val (.int (p1 &&& (2147483647 : Int32))), .val (.int (p2 &&& (2147483647 : Int32))), .val (.int (p3 &&& (2147483647 : Int32))), .val (.int (p4 &&& (2147483647 : Int32))), .val (.int (p5 &&& (2147483647 : Int32))), .unset, .unset, .unset, .unset, .unset] [])
      obtain ⟨x0, qx0⟩ : ∃ z, z = (p0 &&& (2147483647 : Int32)) := ⟨_, rfl⟩
      rw [← qx0]
      have nx0 : ¬ x0 < 0 := qx0 ▸ own_nn _
      obtain ⟨x1, qx1⟩ : ∃ z, z = (p1 &&& (2147483647 : Int32)) := ⟨_, rfl⟩
      rw [← qx1]
      have nx1 : ¬ x1 < 0 := qx1 ▸ own_nn _
      obtain ⟨x2, qx2⟩ : ∃ z, z = (p2 &&& (2147483647 : Int32)) := ⟨_, rfl⟩
      rw [← qx2]
      have nx2 : ¬ x2 < 0 := qx2 ▸ own_nn _
      obtain ⟨y0, qy0⟩ : ∃ z, z = (p3 &&& (2147483647 : Int32)) := ⟨_, rfl⟩
      rw [← qy0]
      have ny0 : ¬ y0 < 0 := qy0 ▸ own_nn _
      obtain ⟨y1, qy1⟩ : ∃ z, z = (p4 &&& (2147483647 : Int32)) := ⟨_, rfl⟩
      rw [← qy1]
      have ny1 : ¬ y1 < 0 := qy1 ▸ own_nn _
      obtain ⟨y2, qy2⟩ : ∃ z, z = (p5 &&& (2147483647 : Int32)) := ⟨_, rfl⟩
      rw [← qy2]
      have ny2 : ¬ y2 < 0 := qy2 ▸ own_nn _
      show own_Go p e s below _ _ _ T0 (mkF m 66 #[.val (.int p0), .val (.int p1), .val (.int p2), .val (.int p3), .val (.int p4), .val (.int p5), .val (.int (3 : Int32)), .val (.int (3 : Int32)), .val (.int x0), .val (.int x1), .val (.int x2), .val (.int y0), .val (.int y1), .val (.int y2), .unset, .unset, .unset, .unset, .unset] [])
      refine own_st (fun _ k => XS.iload X0.here hx rfl (hb hby at_66) rfl k) ?_
      show own_Go p e s below _ _ _ T0 (mkF m 68 #[.val (.int p0), .val (.int p1), .val (.int p2), .val (.int p3), .val (.int p4), .val (.int p5), .val (.int (3 : Int32)), .val (.int (3 : Int32)), .val (.int x0), .val (.int x1), .val (.int x2), .val (.int y0), .val (.int y1), .val (.int y2), .unset, .unset, .unset, .unset, .unset] [(.int (3 : Int32))])
      obtain ⟨T228, h228, k228, X228, e228, E228, A228, Ex228, st228⟩ := newPE X0 hx hZ (hw _ (List.mem_of_getElem? (i := 1) rfl)) e0 (g := (mkF m 68 #[.val (.int p0), .val (.int p1), .val (.int p2), .val (.int p3), .val (.int p4), .val (.int p5), .val (.int (3 : Int32)), .val (.int (3 : Int32)), .val (.int x0), .val (.int x1), .val (.int x2), .val (.int y0), .val (.int y1), .val (.int y2), .unset, .unset, .unset, .unset, .unset] [(.int (3 : Int32))])) rfl (hb hby at_68) rfl (by decide) (cap := 3) (by decide) (by decide) (by decide) (by decide) (ad := "[I") (by decide)
      obtain ⟨ar, g228⟩ : ∃ z, z = h0.size := ⟨_, rfl⟩
      rw [← g228] at A228 Ex228 st228
      have g_ar : n0 ≤ ar := Nat.le_trans Z0 (Nat.le_of_eq g228.symm)
      have Z229 := Nat.le_trans Z0 E228.1
      have V_ar : Arv Z h228 ar k228 .int (3 : Int32) [(.int (0 : Int32)), (.int (0 : Int32)), (.int (0 : Int32))] (.int (0 : Int32)) := (Arv.new A228 (by decide)).pad (pad_rep [] (.int (0 : Int32)) 3)
      have E_ar := Ex228
      refine own_st st228 ?_
      show own_Go p e s below _ _ _ T228 (mkF m 70 #[.val (.int p0), .val (.int p1), .val (.int p2), .val (.int p3), .val (.int p4), .val (.int p5), .val (.int (3 : Int32)), .val (.int (3 : Int32)), .val (.int x0), .val (.int x1), .val (.int x2), .val (.int y0), .val (.int y1), .val (.int y2), .unset, .unset, .unset, .unset, .unset] [(.ref ar)])
      refine own_st (fun _ k => XS.astore X228.here hx rfl (hb hby at_70) rfl rfl (l' := #[.val (.int p0), .val (.int p1), .val (.int p2), .val (.int p3), .val (.int p4), .val (.int p5), .val (.int (3 : Int32)), .val (.int (3 : Int32)), .val (.int x0), .val (.int x1), .val (.int x2), .val (.int y0), .val (.int y1), .val (.int y2), .val (.ref ar), .unset, .unset, .unset, .unset]) rfl k) ?_
      show own_Go p e s below _ _ _ T228 (mkF m 72 #[.val (.int p0), .val (.int p1), .val (.int p2), .val (.int p3), .val (.int p4), .val (.int p5), .val (.int (3 : Int32)), .val (.int (3 : Int32)), .val (.int x0), .val (.int x1), .val (.int x2), .val (.int y0), .val (.int y1), .val (.int y2), .val (.ref ar), .unset, .unset, .unset, .unset] [])
      refine own_st (fun _ k => XS.iload X228.here hx rfl (hb hby at_72) rfl k) ?_
      show own_Go p e s below _ _ _ T228 (mkF m 74 #[.val (.int p0), .val (.int p1), .val (.int p2), .val (.int p3), .val (.int p4), .val (.int p5), .val (.int (3 : Int32)), .val (.int (3 : Int32)), .val (.int x0), .val (.int x1), .val (.int x2), .val (.int y0), .val (.int y1), .val (.int y2), .val (.ref ar), .unset, .unset, .unset, .unset] [(.int (3 : Int32))])
      refine own_st (fun _ k => XS.ifNo X228.here hx rfl (hb hby at_74) rfl (by decide) k) ?_
      show own_Go p e s below _ _ _ T228 (mkF m 77 #[.val (.int p0), .val (.int p1), .val (.int p2), .val (.int p3), .val (.int p4), .val (.int p5), .val (.int (3 : Int32)), .val (.int (3 : Int32)), .val (.int x0), .val (.int x1), .val (.int x2), .val (.int y0), .val (.int y1), .val (.int y2), .val (.ref ar), .unset, .unset, .unset, .unset] [])
      refine own_st (fun _ k => XS.aload X228.here hx rfl (hb hby at_77) rfl rfl k) ?_
      show own_Go p e s below _ _ _ T228 (mkF m 79 #[.val (.int p0), .val (.int p1), .val (.int p2), .val (.int p3), .val (.int p4), .val (.int p5), .val (.int (3 : Int32)), .val (.int (3 : Int32)), .val (.int x0), .val (.int x1), .val (.int x2), .val (.int y0), .val (.int y1), .val (.int y2), .val (.ref ar), .unset, .unset, .unset, .unset] [(.ref ar)])
      refine own_st (fun _ k => XS.iconst X228.here hx rfl (hb hby at_79) k) ?_
      show own_Go p e s below _ _ _ T228 (mkF m 80 #[.val (.int p0), .val (.int p1), .val (.int p2), .val (.int p3), .val (.int p4), .val (.int p5), .val (.int (3 : Int32)), .val (.int (3 : Int32)), .val (.int x0), .val (.int x1), .val (.int x2), .val (.int y0), .val (.int y1), .val (.int y2), .val (.ref ar), .unset, .unset, .unset, .unset] [(.int (0 : Int32)), (.ref ar)])
      refine own_st (fun _ k => XS.iload X228.here hx rfl (hb hby at_80) rfl k) ?_
      show own_Go p e s below _ _ _ T228 (mkF m 82 #[.val (.int p0), .val (.int p1), .val (.int p2), .val (.int p3), .val (.int p4), .val (.int p5), .val (.int (3 : Int32)), .val (.int (3 : Int32)), .val (.int x0), .val (.int x1), .val (.int x2), .val (.int y0), .val (.int y1), .val (.int y2), .val (.ref ar), .unset, .unset, .unset, .unset] [(.int x0), (.int (0 : Int32)), (.ref ar)])
      obtain ⟨T230, h230, X230, e230, W230, V230, st230⟩ := own_stI X228 hx hZ e228 V_ar (j := (0 : Int32)) ⟨by decide, by decide⟩ (Nat.le_of_ble_eq_true rfl) (g := (mkF m 82 #[.val (.int p0), .val (.int p1), .val (.int p2), .val (.int p3), .val (.int p4), .val (.int p5), .val (.int (3 : Int32)), .val (.int (3 : Int32)), .val (.int x0), .val (.int x1), .val (.int x2), .val (.int y0), .val (.int y1), .val (.int y2), .val (.ref ar), .unset, .unset, .unset, .unset] [(.int x0), (.int (0 : Int32)), (.ref ar)])) rfl rfl (hb hby at_82)
      clear V_ar
      have V_ar : Arv Z h230 ar k228 .int (3 : Int32) [(.int x0), (.int (0 : Int32)), (.int (0 : Int32))] (.int (0 : Int32)) := V230
      replace E_ar := E_ar.wr W230
      have Z231 := Nat.le_trans Z229 (Keep.of_wr W230).1
      have N230 := Fr.snoc X230 N0 g_ar
      refine own_st st230 ?_
      show own_Go p e s below _ _ _ T230 (mkF m 83 #[.val (.int p0), .val (.int p1), .val (.int p2), .val (.int p3), .val (.int p4), .val (.int p5), .val (.int (3 : Int32)), .val (.int (3 : Int32)), .val (.int x0), .val (.int x1), .val (.int x2), .val (.int y0), .val (.int y1), .val (.int y2), .val (.ref ar), .unset, .unset, .unset, .unset] [])
      refine own_st (fun _ k => XS.iload X230.here hx rfl (hb hby at_83) rfl k) ?_
      show own_Go p e s below _ _ _ T230 (mkF m 85 #[.val (.int p0), .val (.int p1), .val (.int p2), .val (.int p3), .val (.int p4), .val (.int p5), .val (.int (3 : Int32)), .val (.int (3 : Int32)), .val (.int x0), .val (.int x1), .val (.int x2), .val (.int y0), .val (.int y1), .val (.int y2), .val (.ref ar), .unset, .unset, .unset, .unset] [(.int (3 : Int32))])
      refine own_st (fun _ k => XS.iconst X230.here hx rfl (hb hby at_85) k) ?_
      show own_Go p e s below _ _ _ T230 (mkF m 86 #[.val (.int p0), .val (.int p1), .val (.int p2), .val (.int p3), .val (.int p4), .val (.int p5), .val (.int (3 : Int32)), .val (.int (3 : Int32)), .val (.int x0), .val (.int x1), .val (.int x2), .val (.int y0), .val (.int y1), .val (.int y2), .val (.ref ar), .unset, .unset, .unset, .unset] [(.int (1 : Int32)), (.int (3 : Int32))])
      refine own_st (fun _ k => XS.icmpNo X230.here hx rfl (hb hby at_86) rfl (by decide) k) ?_
      show own_Go p e s below _ _ _ T230 (mkF m 89 #[.val (.int p0), .val (.int p1), .val (.int p2), .val (.int p3), .val (.int p4), .val (.int p5), .val (.int (3 : Int32)), .val (.int (3 : Int32)), .val (.int x0), .val (.int x1), .val (.int x2), .val (.int y0), .val (.int y1), .val (.int y2), .val (.ref ar), .unset, .unset, .unset, .unset] [])
      refine own_st (fun _ k => XS.aload X230.here hx rfl (hb hby at_89) rfl rfl k) ?_
      show own_Go p e s below _ _ _ T230 (mkF m 91 #[.val (.int p0), .val (.int p1), .val (.int p2), .val (.int p3), .val (.int p4), .val (.int p5), .val (.int (3 : Int32)), .val (.int (3 : Int32)), .val (.int x0), .val (.int x1), .val (.int x2), .val (.int y0), .val (.int y1), .val (.int y2), .val (.ref ar), .unset, .unset, .unset, .unset] [(.ref ar)])
      refine own_st (fun _ k => XS.iconst X230.here hx rfl (hb hby at_91) k) ?_
      show own_Go p e s below _ _ _ T230 (mkF m 92 #[.val (.int p0), .val (.int p1), .val (.int p2), .val (.int p3), .val (.int p4), .val (.int p5), .val (.int (3 : Int32)), .val (.int (3 : Int32)), .val (.int x0), .val (.int x1), .val (.int x2), .val (.int y0), .val (.int y1), .val (.int y2), .val (.ref ar), .unset, .unset, .unset, .unset] [(.int (1 : Int32)), (.ref ar)])
      refine own_st (fun _ k => XS.iload X230.here hx rfl (hb hby at_92) rfl k) ?_
      show own_Go p e s below _ _ _ T230 (mkF m 94 #[.val (.int p0), .val (.int p1), .val (.int p2), .val (.int p3), .val (.int p4), .val (.int p5), .val (.int (3 : Int32)), .val (.int (3 : Int32)), .val (.int x0), .val (.int x1), .val (.int x2), .val (.int y0), .val (.int y1), .val (.int y2), .val (.ref ar), .unset, .unset, .unset, .unset] [(.int x1), (.int (1 : Int32)), (.ref ar)])
      obtain ⟨T232, h232, X232, e232, W232, V232, st232⟩ := own_stI X230 hx hZ e230 V_ar (j := (1 : Int32)) ⟨by decide, by decide⟩ (Nat.le_of_ble_eq_true rfl) (g := (mkF m 94 #[.val (.int p0), .val (.int p1), .val (.int p2), .val (.int p3), .val (.int p4), .val (.int p5), .val (.int (3 : Int32)), .val (.int (3 : Int32)), .val (.int x0), .val (.int x1), .val (.int x2), .val (.int y0), .val (.int y1), .val (.int y2), .val (.ref ar), .unset, .unset, .unset, .unset] [(.int x1), (.int (1 : Int32)), (.ref ar)])) rfl rfl (hb hby at_94)
      clear V_ar
      have V_ar : Arv Z h232 ar k228 .int (3 : Int32) [(.int x0), (.int x1), (.int (0 : Int32))] (.int (0 : Int32)) := V232
      replace E_ar := E_ar.wr W232
      have Z233 := Nat.le_trans Z231 (Keep.of_wr W232).1
      have N232 := Fr.snoc X232 N230 g_ar
      refine own_st st232 ?_
      show own_Go p e s below _ _ _ T232 (mkF m 95 #[.val (.int p0), .val (.int p1), .val (.int p2), .val (.int p3), .val (.int p4), .val (.int p5), .val (.int (3 : Int32)), .val (.int (3 : Int32)), .val (.int x0), .val (.int x1), .val (.int x2), .val (.int y0), .val (.int y1), .val (.int y2), .val (.ref ar), .unset, .unset, .unset, .unset] [])
      refine own_st (fun _ k => XS.iload X232.here hx rfl (hb hby at_95) rfl k) ?_
      show own_Go p e s below _ _ _ T232 (mkF m 97 #[.val (.int p0), .val (.int p1), .val (.int p2), .val (.int p3), .val (.int p4), .val (.int p5), .val (.int (3 : Int32)), .val (.int (3 : Int32)), .val (.int x0), .val (.int x1), .val (.int x2), .val (.int y0), .val (.int y1), .val (.int y2), .val (.ref ar), .unset, .unset, .unset, .unset] [(.int (3 : Int32))])
      refine own_st (fun _ k => XS.iconst X232.here hx rfl (hb hby at_97) k) ?_
      show own_Go p e s below _ _ _ T232 (mkF m 98 #[.val (.int p0), .val (.int p1), .val (.int p2), .val (.int p3), .val (.int p4), .val (.int p5), .val (.int (3 : Int32)), .val (.int (3 : Int32)), .val (.int x0), .val (.int x1), .val (.int x2), .val (.int y0), .val (.int y1), .val (.int y2), .val (.ref ar), .unset, .unset, .unset, .unset] [(.int (2 : Int32)), (.int (3 : Int32))])
      refine own_st (fun _ k => XS.icmpNo X232.here hx rfl (hb hby at_98) rfl (by decide) k) ?_
      show own_Go p e s below _ _ _ T232 (mkF m 101 #[.val (.int p0), .val (.int p1), .val (.int p2), .val (.int p3), .val (.int p4), .val (.int p5), .val (.int (3 : Int32)), .val (.int (3 : Int32)), .val (.int x0), .val (.int x1), .val (.int x2), .val (.int y0), .val (.int y1), .val (.int y2), .val (.ref ar), .unset, .unset, .unset, .unset] [])
      refine own_st (fun _ k => XS.aload X232.here hx rfl (hb hby at_101) rfl rfl k) ?_
      show own_Go p e s below _ _ _ T232 (mkF m 103 #[.val (.int p0), .val (.int p1), .val (.int p2), .val (.int p3), .val (.int p4), .val (.int p5), .val (.int (3 : Int32)), .val (.int (3 : Int32)), .val (.int x0), .val (.int x1), .val (.int x2), .val (.int y0), .val (.int y1), .val (.int y2), .val (.ref ar), .unset, .unset, .unset, .unset] [(.ref ar)])
      refine own_st (fun _ k => XS.iconst X232.here hx rfl (hb hby at_103) k) ?_
      show own_Go p e s below _ _ _ T232 (mkF m 104 #[.val (.int p0), .val (.int p1), .val (.int p2), .val (.int p3), .val (.int p4), .val (.int p5), .val (.int (3 : Int32)), .val (.int (3 : Int32)), .val (.int x0), .val (.int x1), .val (.int x2), .val (.int y0), .val (.int y1), .val (.int y2), .val (.ref ar), .unset, .unset, .unset, .unset] [(.int (2 : Int32)), (.ref ar)])
      refine own_st (fun _ k => XS.iload X232.here hx rfl (hb hby at_104) rfl k) ?_
      show own_Go p e s below _ _ _ T232 (mkF m 106 #[.val (.int p0), .val (.int p1), .val (.int p2), .val (.int p3), .val (.int p4), .val (.int p5), .val (.int (3 : Int32)), .val (.int (3 : Int32)), .val (.int x0), .val (.int x1), .val (.int x2), .val (.int y0), .val (.int y1), .val (.int y2), .val (.ref ar), .unset, .unset, .unset, .unset] [(.int x2), (.int (2 : Int32)), (.ref ar)])
      obtain ⟨T234, h234, X234, e234, W234, V234, st234⟩ := own_stI X232 hx hZ e232 V_ar (j := (2 : Int32)) ⟨by decide, by decide⟩ (Nat.le_of_ble_eq_true rfl) (g := (mkF m 106 #[.val (.int p0), .val (.int p1), .val (.int p2), .val (.int p3), .val (.int p4), .val (.int p5), .val (.int (3 : Int32)), .val (.int (3 : Int32)), .val (.int x0), .val (.int x1), .val (.int x2), .val (.int y0), .val (.int y1), .val (.int y2), .val (.ref ar), .unset, .unset, .unset, .unset] [(.int x2), (.int (2 : Int32)), (.ref ar)])) rfl rfl (hb hby at_106)
      clear V_ar
      have V_ar : Arv Z h234 ar k228 .int (3 : Int32) [(.int x0), (.int x1), (.int x2)] (.int (0 : Int32)) := V234
      replace E_ar := E_ar.wr W234
      have Z235 := Nat.le_trans Z233 (Keep.of_wr W234).1
      have N234 := Fr.snoc X234 N232 g_ar
      refine own_st st234 ?_
      show own_Go p e s below _ _ _ T234 (mkF m 107 #[.val (.int p0), .val (.int p1), .val (.int p2), .val (.int p3), .val (.int p4), .val (.int p5), .val (.int (3 : Int32)), .val (.int (3 : Int32)), .val (.int x0), .val (.int x1), .val (.int x2), .val (.int y0), .val (.int y1), .val (.int y2), .val (.ref ar), .unset, .unset, .unset, .unset] [])
      refine own_st (fun _ k => XS.iload X234.here hx rfl (hb hby at_107) rfl k) ?_
      show own_Go p e s below _ _ _ T234 (mkF m 109 #[.val (.int p0), .val (.int p1), .val (.int p2), .val (.int p3), .val (.int p4), .val (.int p5), .val (.int (3 : Int32)), .val (.int (3 : Int32)), .val (.int x0), .val (.int x1), .val (.int x2), .val (.int y0), .val (.int y1), .val (.int y2), .val (.ref ar), .unset, .unset, .unset, .unset] [(.int (3 : Int32))])
      obtain ⟨T236, h236, k236, X236, e236, E236, A236, Ex236, st236⟩ := newPE X234 hx hZ (hw _ (List.mem_of_getElem? (i := 1) rfl)) e234 (g := (mkF m 109 #[.val (.int p0), .val (.int p1), .val (.int p2), .val (.int p3), .val (.int p4), .val (.int p5), .val (.int (3 : Int32)), .val (.int (3 : Int32)), .val (.int x0), .val (.int x1), .val (.int x2), .val (.int y0), .val (.int y1), .val (.int y2), .val (.ref ar), .unset, .unset, .unset, .unset] [(.int (3 : Int32))])) rfl (hb hby at_109) rfl (by decide) (cap := 3) (by decide) (by decide) (by decide) (by decide) (ad := "[I") (by decide)
      obtain ⟨ao, g236⟩ : ∃ z, z = h234.size := ⟨_, rfl⟩
      rw [← g236] at A236 Ex236 st236
      have g_ao : n0 ≤ ao := Nat.le_trans Z235 (Nat.le_of_eq g236.symm)
      have ne_ar_ao : ar ≠ ao := Nat.ne_of_lt (Nat.lt_of_lt_of_le E_ar.lt (Nat.le_of_eq g236.symm))
      have ne_ao_ar := Ne.symm ne_ar_ao
      replace E_ar := E_ar.ext E236
      replace V_ar := V_ar.ext E236
      have Z237 := Nat.le_trans Z235 E236.1
      have V_ao : Arv Z h236 ao k236 .int (3 : Int32) [(.int (0 : Int32)), (.int (0 : Int32)), (.int (0 : Int32))] (.int (0 : Int32)) := (Arv.new A236 (by decide)).pad (pad_rep [] (.int (0 : Int32)) 3)
      have E_ao := Ex236
      refine own_st st236 ?_
      show own_Go p e s below _ _ _ T236 (mkF m 111 #[.val (.int p0), .val (.int p1), .val (.int p2), .val (.int p3), .val (.int p4), .val (.int p5), .val (.int (3 : Int32)), .val (.int (3 : Int32)), .val (.int x0), .val (.int x1), .val (.int x2), .val (.int y0), .val (.int y1), .val (.int y2), .val (.ref ar), .unset, .unset, .unset, .unset] [(.ref ao)])
      refine own_st (fun _ k => XS.astore X236.here hx rfl (hb hby at_111) rfl rfl (l' := #[.val (.int p0), .val (.int p1), .val (.int p2), .val (.int p3), .val (.int p4), .val (.int p5), .val (.int (3 : Int32)), .val (.int (3 : Int32)), .val (.int x0), .val (.int x1), .val (.int x2), .val (.int y0), .val (.int y1), .val (.int y2), .val (.ref ar), .val (.ref ao), .unset, .unset, .unset]) rfl k) ?_
      show own_Go p e s below _ _ _ T236 (mkF m 113 #[.val (.int p0), .val (.int p1), .val (.int p2), .val (.int p3), .val (.int p4), .val (.int p5), .val (.int (3 : Int32)), .val (.int (3 : Int32)), .val (.int x0), .val (.int x1), .val (.int x2), .val (.int y0), .val (.int y1), .val (.int y2), .val (.ref ar), .val (.ref ao), .unset, .unset, .unset] [])
      refine own_st (fun _ k => XS.iload X236.here hx rfl (hb hby at_113) rfl k) ?_
      show own_Go p e s below _ _ _ T236 (mkF m 115 #[.val (.int p0), .val (.int p1), .val (.int p2), .val (.int p3), .val (.int p4), .val (.int p5), .val (.int (3 : Int32)), .val (.int (3 : Int32)), .val (.int x0), .val (.int x1), .val (.int x2), .val (.int y0), .val (.int y1), .val (.int y2), .val (.ref ar), .val (.ref ao), .unset, .unset, .unset] [(.int (3 : Int32))])
      refine own_st (fun _ k => XS.ifNo X236.here hx rfl (hb hby at_115) rfl (by decide) k) ?_
      show own_Go p e s below _ _ _ T236 (mkF m 118 #[.val (.int p0), .val (.int p1), .val (.int p2), .val (.int p3), .val (.int p4), .val (.int p5), .val (.int (3 : Int32)), .val (.int (3 : Int32)), .val (.int x0), .val (.int x1), .val (.int x2), .val (.int y0), .val (.int y1), .val (.int y2), .val (.ref ar), .val (.ref ao), .unset, .unset, .unset] [])
      refine own_st (fun _ k => XS.aload X236.here hx rfl (hb hby at_118) rfl rfl k) ?_
      show own_Go p e s below _ _ _ T236 (mkF m 120 #[.val (.int p0), .val (.int p1), .val (.int p2), .val (.int p3), .val (.int p4), .val (.int p5), .val (.int (3 : Int32)), .val (.int (3 : Int32)), .val (.int x0), .val (.int x1), .val (.int x2), .val (.int y0), .val (.int y1), .val (.int y2), .val (.ref ar), .val (.ref ao), .unset, .unset, .unset] [(.ref ao)])
      refine own_st (fun _ k => XS.iconst X236.here hx rfl (hb hby at_120) k) ?_
      show own_Go p e s below _ _ _ T236 (mkF m 121 #[.val (.int p0), .val (.int p1), .val (.int p2), .val (.int p3), .val (.int p4), .val (.int p5), .val (.int (3 : Int32)), .val (.int (3 : Int32)), .val (.int x0), .val (.int x1), .val (.int x2), .val (.int y0), .val (.int y1), .val (.int y2), .val (.ref ar), .val (.ref ao), .unset, .unset, .unset] [(.int (0 : Int32)), (.ref ao)])
      refine own_st (fun _ k => XS.iload X236.here hx rfl (hb hby at_121) rfl k) ?_
      show own_Go p e s below _ _ _ T236 (mkF m 123 #[.val (.int p0), .val (.int p1), .val (.int p2), .val (.int p3), .val (.int p4), .val (.int p5), .val (.int (3 : Int32)), .val (.int (3 : Int32)), .val (.int x0), .val (.int x1), .val (.int x2), .val (.int y0), .val (.int y1), .val (.int y2), .val (.ref ar), .val (.ref ao), .unset, .unset, .unset] [(.int y0), (.int (0 : Int32)), (.ref ao)])
      obtain ⟨T238, h238, X238, e238, W238, V238, st238⟩ := own_stI X236 hx hZ e236 V_ao (j := (0 : Int32)) ⟨by decide, by decide⟩ (Nat.le_of_ble_eq_true rfl) (g := (mkF m 123 #[.val (.int p0), .val (.int p1), .val (.int p2), .val (.int p3), .val (.int p4), .val (.int p5), .val (.int (3 : Int32)), .val (.int (3 : Int32)), .val (.int x0), .val (.int x1), .val (.int x2), .val (.int y0), .val (.int y1), .val (.int y2), .val (.ref ar), .val (.ref ao), .unset, .unset, .unset] [(.int y0), (.int (0 : Int32)), (.ref ao)])) rfl rfl (hb hby at_123)
      clear V_ao
      have V_ao : Arv Z h238 ao k236 .int (3 : Int32) [(.int y0), (.int (0 : Int32)), (.int (0 : Int32))] (.int (0 : Int32)) := V238
      replace E_ar := E_ar.wr W238
      replace V_ar := V_ar.other W238 ne_ar_ao
      replace E_ao := E_ao.wr W238
      have Z239 := Nat.le_trans Z237 (Keep.of_wr W238).1
      have N238 := Fr.snoc X238 N234 g_ao
      refine own_st st238 ?_
      show own_Go p e s below _ _ _ T238 (mkF m 124 #[.val (.int p0), .val (.int p1), .val (.int p2), .val (.int p3), .val (.int p4), .val (.int p5), .val (.int (3 : Int32)), .val (.int (3 : Int32)), .val (.int x0), .val (.int x1), .val (.int x2), .val (.int y0), .val (.int y1), .val (.int y2), .val (.ref ar), .val (.ref ao), .unset, .unset, .unset] [])
      refine own_st (fun _ k => XS.iload X238.here hx rfl (hb hby at_124) rfl k) ?_
      show own_Go p e s below _ _ _ T238 (mkF m 126 #[.val (.int p0), .val (.int p1), .val (.int p2), .val (.int p3), .val (.int p4), .val (.int p5), .val (.int (3 : Int32)), .val (.int (3 : Int32)), .val (.int x0), .val (.int x1), .val (.int x2), .val (.int y0), .val (.int y1), .val (.int y2), .val (.ref ar), .val (.ref ao), .unset, .unset, .unset] [(.int (3 : Int32))])
      refine own_st (fun _ k => XS.iconst X238.here hx rfl (hb hby at_126) k) ?_
      show own_Go p e s below _ _ _ T238 (mkF m 127 #[.val (.int p0), .val (.int p1), .val (.int p2), .val (.int p3), .val (.int p4), .val (.int p5), .val (.int (3 : Int32)), .val (.int (3 : Int32)), .val (.int x0), .val (.int x1), .val (.int x2), .val (.int y0), .val (.int y1), .val (.int y2), .val (.ref ar), .val (.ref ao), .unset, .unset, .unset] [(.int (1 : Int32)), (.int (3 : Int32))])
      refine own_st (fun _ k => XS.icmpNo X238.here hx rfl (hb hby at_127) rfl (by decide) k) ?_
      show own_Go p e s below _ _ _ T238 (mkF m 130 #[.val (.int p0), .val (.int p1), .val (.int p2), .val (.int p3), .val (.int p4), .val (.int p5), .val (.int (3 : Int32)), .val (.int (3 : Int32)), .val (.int x0), .val (.int x1), .val (.int x2), .val (.int y0), .val (.int y1), .val (.int y2), .val (.ref ar), .val (.ref ao), .unset, .unset, .unset] [])
      refine own_st (fun _ k => XS.aload X238.here hx rfl (hb hby at_130) rfl rfl k) ?_
      show own_Go p e s below _ _ _ T238 (mkF m 132 #[.val (.int p0), .val (.int p1), .val (.int p2), .val (.int p3), .val (.int p4), .val (.int p5), .val (.int (3 : Int32)), .val (.int (3 : Int32)), .val (.int x0), .val (.int x1), .val (.int x2), .val (.int y0), .val (.int y1), .val (.int y2), .val (.ref ar), .val (.ref ao), .unset, .unset, .unset] [(.ref ao)])
      refine own_st (fun _ k => XS.iconst X238.here hx rfl (hb hby at_132) k) ?_
      show own_Go p e s below _ _ _ T238 (mkF m 133 #[.val (.int p0), .val (.int p1), .val (.int p2), .val (.int p3), .val (.int p4), .val (.int p5), .val (.int (3 : Int32)), .val (.int (3 : Int32)), .val (.int x0), .val (.int x1), .val (.int x2), .val (.int y0), .val (.int y1), .val (.int y2), .val (.ref ar), .val (.ref ao), .unset, .unset, .unset] [(.int (1 : Int32)), (.ref ao)])
      refine own_st (fun _ k => XS.iload X238.here hx rfl (hb hby at_133) rfl k) ?_
      show own_Go p e s below _ _ _ T238 (mkF m 135 #[.val (.int p0), .val (.int p1), .val (.int p2), .val (.int p3), .val (.int p4), .val (.int p5), .val (.int (3 : Int32)), .val (.int (3 : Int32)), .val (.int x0), .val (.int x1), .val (.int x2), .val (.int y0), .val (.int y1), .val (.int y2), .val (.ref ar), .val (.ref ao), .unset, .unset, .unset] [(.int y1), (.int (1 : Int32)), (.ref ao)])
      obtain ⟨T240, h240, X240, e240, W240, V240, st240⟩ := own_stI X238 hx hZ e238 V_ao (j := (1 : Int32)) ⟨by decide, by decide⟩ (Nat.le_of_ble_eq_true rfl) (g := (mkF m 135 #[.val (.int p0), .val (.int p1), .val (.int p2), .val (.int p3), .val (.int p4), .val (.int p5), .val (.int (3 : Int32)), .val (.int (3 : Int32)), .val (.int x0), .val (.int x1), .val (.int x2), .val (.int y0), .val (.int y1), .val (.int y2), .val (.ref ar), .val (.ref ao), .unset, .unset, .unset] [(.int y1), (.int (1 : Int32)), (.ref ao)])) rfl rfl (hb hby at_135)
      clear V_ao
      have V_ao : Arv Z h240 ao k236 .int (3 : Int32) [(.int y0), (.int y1), (.int (0 : Int32))] (.int (0 : Int32)) := V240
      replace E_ar := E_ar.wr W240
      replace V_ar := V_ar.other W240 ne_ar_ao
      replace E_ao := E_ao.wr W240
      have Z241 := Nat.le_trans Z239 (Keep.of_wr W240).1
      have N240 := Fr.snoc X240 N238 g_ao
      refine own_st st240 ?_
      show own_Go p e s below _ _ _ T240 (mkF m 136 #[.val (.int p0), .val (.int p1), .val (.int p2), .val (.int p3), .val (.int p4), .val (.int p5), .val (.int (3 : Int32)), .val (.int (3 : Int32)), .val (.int x0), .val (.int x1), .val (.int x2), .val (.int y0), .val (.int y1), .val (.int y2), .val (.ref ar), .val (.ref ao), .unset, .unset, .unset] [])
      refine own_st (fun _ k => XS.iload X240.here hx rfl (hb hby at_136) rfl k) ?_
      show own_Go p e s below _ _ _ T240 (mkF m 138 #[.val (.int p0), .val (.int p1), .val (.int p2), .val (.int p3), .val (.int p4), .val (.int p5), .val (.int (3 : Int32)), .val (.int (3 : Int32)), .val (.int x0), .val (.int x1), .val (.int x2), .val (.int y0), .val (.int y1), .val (.int y2), .val (.ref ar), .val (.ref ao), .unset, .unset, .unset] [(.int (3 : Int32))])
      refine own_st (fun _ k => XS.iconst X240.here hx rfl (hb hby at_138) k) ?_
      show own_Go p e s below _ _ _ T240 (mkF m 139 #[.val (.int p0), .val (.int p1), .val (.int p2), .val (.int p3), .val (.int p4), .val (.int p5), .val (.int (3 : Int32)), .val (.int (3 : Int32)), .val (.int x0), .val (.int x1), .val (.int x2), .val (.int y0), .val (.int y1), .val (.int y2), .val (.ref ar), .val (.ref ao), .unset, .unset, .unset] [(.int (2 : Int32)), (.int (3 : Int32))])
      refine own_st (fun _ k => XS.icmpNo X240.here hx rfl (hb hby at_139) rfl (by decide) k) ?_
      show own_Go p e s below _ _ _ T240 (mkF m 142 #[.val (.int p0), .val (.int p1), .val (.int p2), .val (.int p3), .val (.int p4), .val (.int p5), .val (.int (3 : Int32)), .val (.int (3 : Int32)), .val (.int x0), .val (.int x1), .val (.int x2), .val (.int y0), .val (.int y1), .val (.int y2), .val (.ref ar), .val (.ref ao), .unset, .unset, .unset] [])
      refine own_st (fun _ k => XS.aload X240.here hx rfl (hb hby at_142) rfl rfl k) ?_
      show own_Go p e s below _ _ _ T240 (mkF m 144 #[.val (.int p0), .val (.int p1), .val (.int p2), .val (.int p3), .val (.int p4), .val (.int p5), .val (.int (3 : Int32)), .val (.int (3 : Int32)), .val (.int x0), .val (.int x1), .val (.int x2), .val (.int y0), .val (.int y1), .val (.int y2), .val (.ref ar), .val (.ref ao), .unset, .unset, .unset] [(.ref ao)])
      refine own_st (fun _ k => XS.iconst X240.here hx rfl (hb hby at_144) k) ?_
      show own_Go p e s below _ _ _ T240 (mkF m 145 #[.val (.int p0), .val (.int p1), .val (.int p2), .val (.int p3), .val (.int p4), .val (.int p5), .val (.int (3 : Int32)), .val (.int (3 : Int32)), .val (.int x0), .val (.int x1), .val (.int x2), .val (.int y0), .val (.int y1), .val (.int y2), .val (.ref ar), .val (.ref ao), .unset, .unset, .unset] [(.int (2 : Int32)), (.ref ao)])
      refine own_st (fun _ k => XS.iload X240.here hx rfl (hb hby at_145) rfl k) ?_
      show own_Go p e s below _ _ _ T240 (mkF m 147 #[.val (.int p0), .val (.int p1), .val (.int p2), .val (.int p3), .val (.int p4), .val (.int p5), .val (.int (3 : Int32)), .val (.int (3 : Int32)), .val (.int x0), .val (.int x1), .val (.int x2), .val (.int y0), .val (.int y1), .val (.int y2), .val (.ref ar), .val (.ref ao), .unset, .unset, .unset] [(.int y2), (.int (2 : Int32)), (.ref ao)])
      obtain ⟨T242, h242, X242, e242, W242, V242, st242⟩ := own_stI X240 hx hZ e240 V_ao (j := (2 : Int32)) ⟨by decide, by decide⟩ (Nat.le_of_ble_eq_true rfl) (g := (mkF m 147 #[.val (.int p0), .val (.int p1), .val (.int p2), .val (.int p3), .val (.int p4), .val (.int p5), .val (.int (3 : Int32)), .val (.int (3 : Int32)), .val (.int x0), .val (.int x1), .val (.int x2), .val (.int y0), .val (.int y1), .val (.int y2), .val (.ref ar), .val (.ref ao), .unset, .unset, .unset] [(.int y2), (.int (2 : Int32)), (.ref ao)])) rfl rfl (hb hby at_147)
      clear V_ao
      have V_ao : Arv Z h242 ao k236 .int (3 : Int32) [(.int y0), (.int y1), (.int y2)] (.int (0 : Int32)) := V242
      replace E_ar := E_ar.wr W242
      replace V_ar := V_ar.other W242 ne_ar_ao
      replace E_ao := E_ao.wr W242
      have Z243 := Nat.le_trans Z241 (Keep.of_wr W242).1
      have N242 := Fr.snoc X242 N240 g_ao
      refine own_st st242 ?_
      show own_Go p e s below _ _ _ T242 (mkF m 148 #[.val (.int p0), .val (.int p1), .val (.int p2), .val (.int p3), .val (.int p4), .val (.int p5), .val (.int (3 : Int32)), .val (.int (3 : Int32)), .val (.int x0), .val (.int x1), .val (.int x2), .val (.int y0), .val (.int y1), .val (.int y2), .val (.ref ar), .val (.ref ao), .unset, .unset, .unset] [])
      obtain ⟨T244, h244, X244, e244, E244, A244, D244, -, st244⟩ := newO X242 hx hZ hown (hw _ (List.mem_of_getElem? (i := 2) rfl)) (hw _ (List.mem_of_getElem? (i := 3) rfl)) (hw _ (List.mem_of_getElem? (i := 4) rfl)) e242 (g := (mkF m 148 #[.val (.int p0), .val (.int p1), .val (.int p2), .val (.int p3), .val (.int p4), .val (.int p5), .val (.int (3 : Int32)), .val (.int (3 : Int32)), .val (.int x0), .val (.int x1), .val (.int x2), .val (.int y0), .val (.int y1), .val (.int y2), .val (.ref ar), .val (.ref ao), .unset, .unset, .unset] [])) rfl (hb hby at_148) (by decide) (by decide)
      obtain ⟨bt, g244⟩ : ∃ z, z = h242.size := ⟨_, rfl⟩
      rw [← g244] at A244 D244 st244
      have g_bt : n0 ≤ bt := Nat.le_trans Z243 (Nat.le_of_eq g244.symm)
      have ne_ao_bt : ao ≠ bt := Nat.ne_of_lt (Nat.lt_of_lt_of_le E_ao.lt (Nat.le_of_eq g244.symm))
      have ne_bt_ao := Ne.symm ne_ao_bt
      have ne_ar_bt : ar ≠ bt := Nat.ne_of_lt (Nat.lt_of_lt_of_le E_ar.lt (Nat.le_of_eq g244.symm))
      have ne_bt_ar := Ne.symm ne_ar_bt
      replace E_ar := E_ar.ext E244
      replace V_ar := V_ar.ext E244
      replace E_ao := E_ao.ext E244
      replace V_ao := V_ao.ext E244
      have Z245 := Nat.le_trans Z243 E244.1
      have E_bt := A244
      have F_levels_bt : Fld Z h244 bt "com/example/hush5/hush5/model/Transformation" "levels" "[I" .null := D244 (Or.inr (hw _ (List.mem_of_getElem? (i := 21) rfl))) (ty := (.array .int)) (by decide)
      refine own_st st244 ?_
      show own_Go p e s below _ _ _ T244 (mkF m 151 #[.val (.int p0), .val (.int p1), .val (.int p2), .val (.int p3), .val (.int p4), .val (.int p5), .val (.int (3 : Int32)), .val (.int (3 : Int32)), .val (.int x0), .val (.int x1), .val (.int x2), .val (.int y0), .val (.int y1), .val (.int y2), .val (.ref ar), .val (.ref ao), .unset, .unset, .unset] [(.ref bt)])
      refine own_st (fun _ k => XS.dup X244.here hx rfl (hb hby at_151) rfl rfl k) ?_
      show own_Go p e s below _ _ _ T244 (mkF m 152 #[.val (.int p0), .val (.int p1), .val (.int p2), .val (.int p3), .val (.int p4), .val (.int p5), .val (.int (3 : Int32)), .val (.int (3 : Int32)), .val (.int x0), .val (.int x1), .val (.int x2), .val (.int y0), .val (.int y1), .val (.int y2), .val (.ref ar), .val (.ref ao), .unset, .unset, .unset] [(.ref bt), (.ref bt)])
      refine own_st (fun _ k => XS.aload X244.here hx rfl (hb hby at_152) rfl rfl k) ?_
      show own_Go p e s below _ _ _ T244 (mkF m 154 #[.val (.int p0), .val (.int p1), .val (.int p2), .val (.int p3), .val (.int p4), .val (.int p5), .val (.int (3 : Int32)), .val (.int (3 : Int32)), .val (.int x0), .val (.int x1), .val (.int x2), .val (.int y0), .val (.int y1), .val (.int y2), .val (.ref ar), .val (.ref ao), .unset, .unset, .unset] [(.ref ar), (.ref bt), (.ref bt)])
      refine own_callN X244 hx hZ (y := (⟨"com/example/hush5/hush5/model/Transformation", "<init>", "([I)V"⟩ : MethodName)) rfl hown (hw _ (List.mem_of_getElem? (i := 5) rfl)) (hw _ (List.mem_of_getElem? (i := 6) rfl)) (hw _ (List.mem_of_getElem? (i := 4) rfl)) (hw _ (List.mem_of_getElem? (i := 7) rfl)) (by decide) e244 (rm1_3 l Z a0 hw [] bt ar k228 x0 x1 x2 h244 n0 Z245 E_bt F_levels_bt V_ar E_ar ne_bt_ar ne_ar_bt g_bt nx0 nx1 nx2) 1 (by decide) (by decide) (g := (mkF m 154 #[.val (.int p0), .val (.int p1), .val (.int p2), .val (.int p3), .val (.int p4), .val (.int p5), .val (.int (3 : Int32)), .val (.int (3 : Int32)), .val (.int x0), .val (.int x1), .val (.int x2), .val (.int y0), .val (.int y1), .val (.int y2), .val (.ref ar), .val (.ref ao), .unset, .unset, .unset] [(.ref ar), (.ref bt), (.ref bt)])) rfl (by rw [hml]; rfl) (a := bt) (argsL := [(.ref ar)]) (rest := [(.ref bt)]) pd0 rfl rfl rfl (by show 2 * 0 + _ ≤ _; exact Nat.le_of_eq rfl) (hb hby at_154) (by decide) (by decide) ?_
      intro T246 v246 L246 X246 hQ246
      obtain ⟨dt, rfl, N246q, K246q, y246_0, y246_1, y246_2, y246_3⟩ := hQ246
      have N246 := Fr.app N242 N246q
      replace E_ar := E_ar.keep K246q
      replace V_ar := V_ar.keep K246q (ninS ne_ar_bt nin0)
      replace E_ao := E_ao.keep K246q
      replace V_ao := V_ao.keep K246q (ninS ne_ao_bt nin0)
      replace E_bt := E_bt.keep K246q
      clear F_levels_bt
      have Z247 := Nat.le_trans Z245 K246q.1
      have E_bt := y246_0
      have F_levels_bt := y246_1
      have V_dt := y246_2
      have E_dt := y246_3
      show own_Go p e s below _ _ _ T246 (mkF m 157 #[.val (.int p0), .val (.int p1), .val (.int p2), .val (.int p3), .val (.int p4), .val (.int p5), .val (.int (3 : Int32)), .val (.int (3 : Int32)), .val (.int x0), .val (.int x1), .val (.int x2), .val (.int y0), .val (.int y1), .val (.int y2), .val (.ref ar), .val (.ref ao), .unset, .unset, .unset] [(.ref bt)])
      refine own_st (fun _ k => XS.astore X246.here hx rfl (hb hby at_157) rfl rfl (l' := #[.val (.int p0), .val (.int p1), .val (.int p2), .val (.int p3), .val (.int p4), .val (.int p5), .val (.int (3 : Int32)), .val (.int (3 : Int32)), .val (.int x0), .val (.int x1), .val (.int x2), .val (.int y0), .val (.int y1), .val (.int y2), .val (.ref ar), .val (.ref ao), .val (.ref bt), .unset, .unset]) rfl k) ?_
      show own_Go p e s below _ _ _ T246 (mkF m 159 #[.val (.int p0), .val (.int p1), .val (.int p2), .val (.int p3), .val (.int p4), .val (.int p5), .val (.int (3 : Int32)), .val (.int (3 : Int32)), .val (.int x0), .val (.int x1), .val (.int x2), .val (.int y0), .val (.int y1), .val (.int y2), .val (.ref ar), .val (.ref ao), .val (.ref bt), .unset, .unset] [])
      obtain ⟨T248, h248, X248, e248, E248, A248, D248, -, st248⟩ := newO X246 hx hZ hown (hw _ (List.mem_of_getElem? (i := 2) rfl)) (hw _ (List.mem_of_getElem? (i := 3) rfl)) (hw _ (List.mem_of_getElem? (i := 4) rfl)) rfl (g := (mkF m 159 #[.val (.int p0), .val (.int p1), .val (.int p2), .val (.int p3), .val (.int p4), .val (.int p5), .val (.int (3 : Int32)), .val (.int (3 : Int32)), .val (.int x0), .val (.int x1), .val (.int x2), .val (.int y0), .val (.int y1), .val (.int y2), .val (.ref ar), .val (.ref ao), .val (.ref bt), .unset, .unset] [])) rfl (hb hby at_159) (by decide) (by decide)
      obtain ⟨bu, g248⟩ : ∃ z, z = T246.heap.size := ⟨_, rfl⟩
      rw [← g248] at A248 D248 st248
      have g_bu : n0 ≤ bu := Nat.le_trans Z247 (Nat.le_of_eq g248.symm)
      have ne_ao_bu : ao ≠ bu := Nat.ne_of_lt (Nat.lt_of_lt_of_le E_ao.lt (Nat.le_of_eq g248.symm))
      have ne_bu_ao := Ne.symm ne_ao_bu
      have ne_ar_bu : ar ≠ bu := Nat.ne_of_lt (Nat.lt_of_lt_of_le E_ar.lt (Nat.le_of_eq g248.symm))
      have ne_bu_ar := Ne.symm ne_ar_bu
      have ne_bt_bu : bt ≠ bu := Nat.ne_of_lt (Nat.lt_of_lt_of_le E_bt.lt (Nat.le_of_eq g248.symm))
      have ne_bu_bt := Ne.symm ne_bt_bu
      have ne_dt_bu : dt ≠ bu := Nat.ne_of_lt (Nat.lt_of_lt_of_le V_dt.lt (Nat.le_of_eq g248.symm))
      have ne_bu_dt := Ne.symm ne_dt_bu
      replace E_ar := E_ar.ext E248
      replace V_ar := V_ar.ext E248
      replace E_ao := E_ao.ext E248
      replace V_ao := V_ao.ext E248
      replace E_bt := E_bt.ext E248
      replace F_levels_bt := F_levels_bt.ext E248
      replace V_dt := V_dt.ext E248
      replace E_dt := E_dt.ext E248
      have Z249 := Nat.le_trans Z247 E248.1
      have E_bu := A248
      have F_levels_bu : Fld Z h248 bu "com/example/hush5/hush5/model/Transformation" "levels" "[I" .null := D248 (Or.inr (hw _ (List.mem_of_getElem? (i := 21) rfl))) (ty := (.array .int)) (by decide)
      refine own_st st248 ?_
      show own_Go p e s below _ _ _ T248 (mkF m 162 #[.val (.int p0), .val (.int p1), .val (.int p2), .val (.int p3), .val (.int p4), .val (.int p5), .val (.int (3 : Int32)), .val (.int (3 : Int32)), .val (.int x0), .val (.int x1), .val (.int x2), .val (.int y0), .val (.int y1), .val (.int y2), .val (.ref ar), .val (.ref ao), .val (.ref bt), .unset, .unset] [(.ref bu)])
      refine own_st (fun _ k => XS.dup X248.here hx rfl (hb hby at_162) rfl rfl k) ?_
      show own_Go p e s below _ _ _ T248 (mkF m 163 #[.val (.int p0), .val (.int p1), .val (.int p2), .val (.int p3), .val (.int p4), .val (.int p5), .val (.int (3 : Int32)), .val (.int (3 : Int32)), .val (.int x0), .val (.int x1), .val (.int x2), .val (.int y0), .val (.int y1), .val (.int y2), .val (.ref ar), .val (.ref ao), .val (.ref bt), .unset, .unset] [(.ref bu), (.ref bu)])
      refine own_st (fun _ k => XS.aload X248.here hx rfl (hb hby at_163) rfl rfl k) ?_
      show own_Go p e s below _ _ _ T248 (mkF m 165 #[.val (.int p0), .val (.int p1), .val (.int p2), .val (.int p3), .val (.int p4), .val (.int p5), .val (.int (3 : Int32)), .val (.int (3 : Int32)), .val (.int x0), .val (.int x1), .val (.int x2), .val (.int y0), .val (.int y1), .val (.int y2), .val (.ref ar), .val (.ref ao), .val (.ref bt), .unset, .unset] [(.ref ao), (.ref bu), (.ref bu)])
      refine own_callN X248 hx hZ (y := (⟨"com/example/hush5/hush5/model/Transformation", "<init>", "([I)V"⟩ : MethodName)) rfl hown (hw _ (List.mem_of_getElem? (i := 5) rfl)) (hw _ (List.mem_of_getElem? (i := 6) rfl)) (hw _ (List.mem_of_getElem? (i := 4) rfl)) (hw _ (List.mem_of_getElem? (i := 7) rfl)) (by decide) e248 (rm1_3 l Z a0 hw [] bu ao k236 y0 y1 y2 h248 n0 Z249 E_bu F_levels_bu V_ao E_ao ne_bu_ao ne_ao_bu g_bu ny0 ny1 ny2) 1 (by decide) (by decide) (g := (mkF m 165 #[.val (.int p0), .val (.int p1), .val (.int p2), .val (.int p3), .val (.int p4), .val (.int p5), .val (.int (3 : Int32)), .val (.int (3 : Int32)), .val (.int x0), .val (.int x1), .val (.int x2), .val (.int y0), .val (.int y1), .val (.int y2), .val (.ref ar), .val (.ref ao), .val (.ref bt), .unset, .unset] [(.ref ao), (.ref bu), (.ref bu)])) rfl (by rw [hml]; rfl) (a := bu) (argsL := [(.ref ao)]) (rest := [(.ref bu)]) pd0 rfl rfl rfl (by show 2 * 0 + _ ≤ _; exact Nat.le_of_eq rfl) (hb hby at_165) (by decide) (by decide) ?_
      intro T250 v250 L250 X250 hQ250
      obtain ⟨du, rfl, N250q, K250q, y250_0, y250_1, y250_2, y250_3⟩ := hQ250
      have N250 := Fr.app N246 N250q
      replace E_ar := E_ar.keep K250q
      replace V_ar := V_ar.keep K250q (ninS ne_ar_bu nin0)
      replace E_ao := E_ao.keep K250q
      replace V_ao := V_ao.keep K250q (ninS ne_ao_bu nin0)
      replace E_bt := E_bt.keep K250q
      replace F_levels_bt := F_levels_bt.keep K250q (ninS ne_bt_bu nin0)
      replace V_dt := V_dt.keep K250q (ninS ne_dt_bu nin0)
      replace E_dt := E_dt.keep K250q
      replace E_bu := E_bu.keep K250q
      clear F_levels_bu
      have Z251 := Nat.le_trans Z249 K250q.1
      have E_bu := y250_0
      have F_levels_bu := y250_1
      have V_du := y250_2
      have E_du := y250_3
      show own_Go p e s below _ _ _ T250 (mkF m 168 #[.val (.int p0), .val (.int p1), .val (.int p2), .val (.int p3), .val (.int p4), .val (.int p5), .val (.int (3 : Int32)), .val (.int (3 : Int32)), .val (.int x0), .val (.int x1), .val (.int x2), .val (.int y0), .val (.int y1), .val (.int y2), .val (.ref ar), .val (.ref ao), .val (.ref bt), .unset, .unset] [(.ref bu)])
      refine own_st (fun _ k => XS.astore X250.here hx rfl (hb hby at_168) rfl rfl (l' := #[.val (.int p0), .val (.int p1), .val (.int p2), .val (.int p3), .val (.int p4), .val (.int p5), .val (.int (3 : Int32)), .val (.int (3 : Int32)), .val (.int x0), .val (.int x1), .val (.int x2), .val (.int y0), .val (.int y1), .val (.int y2), .val (.ref ar), .val (.ref ao), .val (.ref bt), .val (.ref bu), .unset]) rfl k) ?_
      show own_Go p e s below _ _ _ T250 (mkF m 170 #[.val (.int p0), .val (.int p1), .val (.int p2), .val (.int p3), .val (.int p4), .val (.int p5), .val (.int (3 : Int32)), .val (.int (3 : Int32)), .val (.int x0), .val (.int x1), .val (.int x2), .val (.int y0), .val (.int y1), .val (.int y2), .val (.ref ar), .val (.ref ao), .val (.ref bt), .val (.ref bu), .unset] [])
      refine own_st (fun _ k => XS.iload X250.here hx rfl (hb hby at_170) rfl k) ?_
      show own_Go p e s below _ _ _ T250 (mkF m 172 #[.val (.int p0), .val (.int p1), .val (.int p2), .val (.int p3), .val (.int p4), .val (.int p5), .val (.int (3 : Int32)), .val (.int (3 : Int32)), .val (.int x0), .val (.int x1), .val (.int x2), .val (.int y0), .val (.int y1), .val (.int y2), .val (.ref ar), .val (.ref ao), .val (.ref bt), .val (.ref bu), .unset] [(.int (3 : Int32))])
      refine own_st (fun _ k => XS.iconst X250.here hx rfl (hb hby at_172) k) ?_
      show own_Go p e s below _ _ _ T250 (mkF m 173 #[.val (.int p0), .val (.int p1), .val (.int p2), .val (.int p3), .val (.int p4), .val (.int p5), .val (.int (3 : Int32)), .val (.int (3 : Int32)), .val (.int x0), .val (.int x1), .val (.int x2), .val (.int y0), .val (.int y1), .val (.int y2), .val (.ref ar), .val (.ref ao), .val (.ref bt), .val (.ref bu), .unset] [(.int (1 : Int32)), (.int (3 : Int32))])
      have J214 : ∀  (bz : Int32) (_ : bz = own_b (¬ y0 < x0 ∧ ¬ y1 < x1 ∧ ¬ y2 < x2)), own_Go p e s below (fun (v : Option Value) (h : Heap) (L : List Loc) => v = some (.int 1) ∧ Fr n0 L) 24 128 T250 (mkF m 214 #[.val (.int p0), .val (.int p1), .val (.int p2), .val (.int p3), .val (.int p4), .val (.int p5), .val (.int (3 : Int32)), .val (.int (3 : Int32)), .val (.int x0), .val (.int x1), .val (.int x2), .val (.int y0), .val (.int y1), .val (.int y2), .val (.ref ar), .val (.ref ao), .val (.ref bt), .val (.ref bu), .unset] [(.int bz)]) := by
        rintro _ rfl
        show own_Go p e s below _ _ _ T250 (mkF m 214 #[.val (.int p0), .val (.int p1), .val (.int p2), .val (.int p3), .val (.int p4), .val (.int p5), .val (.int (3 : Int32)), .val (.int (3 : Int32)), .val (.int x0), .val (.int x1), .val (.int x2), .val (.int y0), .val (.int y1), .val (.int y2), .val (.ref ar), .val (.ref ao), .val (.ref bt), .val (.ref bu), .unset] [(.int (own_b (¬ y0 < x0 ∧ ¬ y1 < x1 ∧ ¬ y2 < x2)))])
        refine own_st (fun _ k => XS.istore X250.here hx rfl (hb hby at_214) rfl (l' := #[.val (.int p0), .val (.int p1), .val (.int p2), .val (.int p3), .val (.int p4), .val (.int p5), .val (.int (3 : Int32)), .val (.int (3 : Int32)), .val (.int x0), .val (.int x1), .val (.int x2), .val (.int y0), .val (.int y1), .val (.int y2), .val (.ref ar), .val (.ref ao), .val (.ref bt), .val (.ref bu), .val (.int (own_b (¬ y0 < x0 ∧ ¬ y1 < x1 ∧ ¬ y2 < x2)))]) rfl k) ?_
        show own_Go p e s below _ _ _ T250 (mkF m 216 #[.val (.int p0), .val (.int p1), .val (.int p2), .val (.int p3), .val (.int p4), .val (.int p5), .val (.int (3 : Int32)), .val (.int (3 : Int32)), .val (.int x0), .val (.int x1), .val (.int x2), .val (.int y0), .val (.int y1), .val (.int y2), .val (.ref ar), .val (.ref ao), .val (.ref bt), .val (.ref bu), .val (.int (own_b (¬ y0 < x0 ∧ ¬ y1 < x1 ∧ ¬ y2 < x2)))] [])
        refine own_st (fun _ k => XS.aload X250.here hx rfl (hb hby at_216) rfl rfl k) ?_
        show own_Go p e s below _ _ _ T250 (mkF m 218 #[.val (.int p0), .val (.int p1), .val (.int p2), .val (.int p3), .val (.int p4), .val (.int p5), .val (.int (3 : Int32)), .val (.int (3 : Int32)), .val (.int x0), .val (.int x1), .val (.int x2), .val (.int y0), .val (.int y1), .val (.int y2), .val (.ref ar), .val (.ref ao), .val (.ref bt), .val (.ref bu), .val (.int (own_b (¬ y0 < x0 ∧ ¬ y1 < x1 ∧ ¬ y2 < x2)))] [(.ref bt)])
        refine own_st (fun _ k => XS.aload X250.here hx rfl (hb hby at_218) rfl rfl k) ?_
        show own_Go p e s below _ _ _ T250 (mkF m 220 #[.val (.int p0), .val (.int p1), .val (.int p2), .val (.int p3), .val (.int p4), .val (.int p5), .val (.int (3 : Int32)), .val (.int (3 : Int32)), .val (.int x0), .val (.int x1), .val (.int x2), .val (.int y0), .val (.int y1), .val (.int y2), .val (.ref ar), .val (.ref ao), .val (.ref bt), .val (.ref bu), .val (.int (own_b (¬ y0 < x0 ∧ ¬ y1 < x1 ∧ ¬ y2 < x2)))] [(.ref bu), (.ref bt)])
        refine own_callV X250 hx hZ (y := (⟨"com/example/hush5/hush5/model/Transformation", "liesAtOrBelow", "(Lcom/example/hush5/hush5/model/Transformation;)Z"⟩ : MethodName)) hown (hw _ (List.mem_of_getElem? (i := 22) rfl)) (hw _ (List.mem_of_getElem? (i := 23) rfl)) (hw _ (List.mem_of_getElem? (i := 25) rfl)) (hw _ (List.mem_of_getElem? (i := 24) rfl)) (hw _ (List.mem_of_getElem? (i := 4) rfl)) (hw _ (List.mem_of_getElem? (i := 26) rfl)) (by decide) rfl (rm3_3_3 l Z a0 hw [] bt bu dt du k228 k236 x0 x1 x2 y0 y1 y2 T250.heap n0 Z251 F_levels_bt F_levels_bu V_dt V_du) 0 (by decide) (by decide) E_bt (g := (mkF m 220 #[.val (.int p0), .val (.int p1), .val (.int p2), .val (.int p3), .val (.int p4), .val (.int p5), .val (.int (3 : Int32)), .val (.int (3 : Int32)), .val (.int x0), .val (.int x1), .val (.int x2), .val (.int y0), .val (.int y1), .val (.int y2), .val (.ref ar), .val (.ref ao), .val (.ref bt), .val (.ref bu), .val (.int (own_b (¬ y0 < x0 ∧ ¬ y1 < x1 ∧ ¬ y2 < x2)))] [(.ref bu), (.ref bt)])) rfl (by rw [hml]; rfl) (argsL := [(.ref bu)]) (rest := []) pd1 rfl rfl rfl (by show 2 * 0 + _ ≤ _; exact Nat.le_of_eq rfl) (hb hby at_220) (by decide) (by decide) ?_
        intro T252 v252 L252 X252 hQ252
        obtain ⟨rfl, N252q, e252⟩ := hQ252
        have N252 := Fr.app N250 N252q
        show own_Go p e s below _ _ _ T252 (mkF m 223 #[.val (.int p0), .val (.int p1), .val (.int p2), .val (.int p3), .val (.int p4), .val (.int p5), .val (.int (3 : Int32)), .val (.int (3 : Int32)), .val (.int x0), .val (.int x1), .val (.int x2), .val (.int y0), .val (.int y1), .val (.int y2), .val (.ref ar), .val (.ref ao), .val (.ref bt), .val (.ref bu), .val (.int (own_b (¬ y0 < x0 ∧ ¬ y1 < x1 ∧ ¬ y2 < x2)))] [(.int (own_b (¬ y0 < x0 ∧ ¬ y1 < x1 ∧ ¬ y2 < x2)))])
        refine own_st (fun _ k => XS.iload X252.here hx rfl (hb hby at_223) rfl k) ?_
        show own_Go p e s below _ _ _ T252 (mkF m 225 #[.val (.int p0), .val (.int p1), .val (.int p2), .val (.int p3), .val (.int p4), .val (.int p5), .val (.int (3 : Int32)), .val (.int (3 : Int32)), .val (.int x0), .val (.int x1), .val (.int x2), .val (.int y0), .val (.int y1), .val (.int y2), .val (.ref ar), .val (.ref ao), .val (.ref bt), .val (.ref bu), .val (.int (own_b (¬ y0 < x0 ∧ ¬ y1 < x1 ∧ ¬ y2 < x2)))] [(.int (own_b (¬ y0 < x0 ∧ ¬ y1 < x1 ∧ ¬ y2 < x2))), (.int (own_b (¬ y0 < x0 ∧ ¬ y1 < x1 ∧ ¬ y2 < x2)))])
        refine own_st (fun _ k => XS.icmpNo X252.here hx rfl (hb hby at_225) rfl (teq (rfl : (own_b (¬ y0 < x0 ∧ ¬ y1 < x1 ∧ ¬ y2 < x2)) = (own_b (¬ y0 < x0 ∧ ¬ y1 < x1 ∧ ¬ y2 < x2)))).2 k) ?_
        show own_Go p e s below _ _ _ T252 (mkF m 228 #[.val (.int p0), .val (.int p1), .val (.int p2), .val (.int p3), .val (.int p4), .val (.int p5), .val (.int (3 : Int32)), .val (.int (3 : Int32)), .val (.int x0), .val (.int x1), .val (.int x2), .val (.int y0), .val (.int y1), .val (.int y2), .val (.ref ar), .val (.ref ao), .val (.ref bt), .val (.ref bu), .val (.int (own_b (¬ y0 < x0 ∧ ¬ y1 < x1 ∧ ¬ y2 < x2)))] [])
        refine own_st (fun _ k => XS.iconst X252.here hx rfl (hb hby at_228) k) ?_
        show own_Go p e s below _ _ _ T252 (mkF m 229 #[.val (.int p0), .val (.int p1), .val (.int p2), .val (.int p3), .val (.int p4), .val (.int p5), .val (.int (3 : Int32)), .val (.int (3 : Int32)), .val (.int x0), .val (.int x1), .val (.int x2), .val (.int y0), .val (.int y1), .val (.int y2), .val (.ref ar), .val (.ref ao), .val (.ref bt), .val (.ref bu), .val (.int (own_b (¬ y0 < x0 ∧ ¬ y1 < x1 ∧ ¬ y2 < x2)))] [(.int (1 : Int32))])
        refine own_st (fun _ k => XS.goto X252.here hx rfl (pc0 := 229) (pc' := 233) rfl (hb hby at_229) (by decide) (by decide) k) ?_
        show own_Go p e s below _ _ _ T252 (mkF m 233 #[.val (.int p0), .val (.int p1), .val (.int p2), .val (.int p3), .val (.int p4), .val (.int p5), .val (.int (3 : Int32)), .val (.int (3 : Int32)), .val (.int x0), .val (.int x1), .val (.int x2), .val (.int y0), .val (.int y1), .val (.int y2), .val (.ref ar), .val (.ref ao), .val (.ref bt), .val (.ref bu), .val (.int (own_b (¬ y0 < x0 ∧ ¬ y1 < x1 ∧ ¬ y2 < x2)))] [(.int (1 : Int32))])
        exact own_retN X252 hx hlk (t := .boolean) hret (by simp) (hb hby at_233) (z' := (1 : Int32)) rfl (by decide) (by decide) ⟨rfl, N252⟩
      refine own_st (fun _ k => XS.icmpNo X250.here hx rfl (hb hby at_173) rfl (by decide) k) ?_
      show own_Go p e s below _ _ _ T250 (mkF m 176 #[.val (.int p0), .val (.int p1), .val (.int p2), .val (.int p3), .val (.int p4), .val (.int p5), .val (.int (3 : Int32)), .val (.int (3 : Int32)), .val (.int x0), .val (.int x1), .val (.int x2), .val (.int y0), .val (.int y1), .val (.int y2), .val (.ref ar), .val (.ref ao), .val (.ref bt), .val (.ref bu), .unset] [])
      refine own_st (fun _ k => XS.iload X250.here hx rfl (hb hby at_176) rfl k) ?_
      show own_Go p e s below _ _ _ T250 (mkF m 178 #[.val (.int p0), .val (.int p1), .val (.int p2), .val (.int p3), .val (.int p4), .val (.int p5), .val (.int (3 : Int32)), .val (.int (3 : Int32)), .val (.int x0), .val (.int x1), .val (.int x2), .val (.int y0), .val (.int y1), .val (.int y2), .val (.ref ar), .val (.ref ao), .val (.ref bt), .val (.ref bu), .unset] [(.int x0)])
      refine own_st (fun _ k => XS.iload X250.here hx rfl (hb hby at_178) rfl k) ?_
      show own_Go p e s below _ _ _ T250 (mkF m 180 #[.val (.int p0), .val (.int p1), .val (.int p2), .val (.int p3), .val (.int p4), .val (.int p5), .val (.int (3 : Int32)), .val (.int (3 : Int32)), .val (.int x0), .val (.int x1), .val (.int x2), .val (.int y0), .val (.int y1), .val (.int y2), .val (.ref ar), .val (.ref ao), .val (.ref bt), .val (.ref bu), .unset] [(.int y0), (.int x0)])
      by_cases c180_253 : y0 < x0
      · refine own_st (fun _ k => XS.icmpYes X250.here hx rfl (pc0 := 180) (pc' := 213) rfl (hb hby at_180) rfl (tlt c180_253).2.2.1 (by decide) (by decide) k) ?_
        show own_Go p e s below _ _ _ T250 (mkF m 213 #[.val (.int p0), .val (.int p1), .val (.int p2), .val (.int p3), .val (.int p4), .val (.int p5), .val (.int (3 : Int32)), .val (.int (3 : Int32)), .val (.int x0), .val (.int x1), .val (.int x2), .val (.int y0), .val (.int y1), .val (.int y2), .val (.ref ar), .val (.ref ao), .val (.ref bt), .val (.ref bu), .unset] [])
        refine own_st (fun _ k => XS.iconst X250.here hx rfl (hb hby at_213) k) ?_
        show own_Go p e s below _ _ _ T250 (mkF m 214 #[.val (.int p0), .val (.int p1), .val (.int p2), .val (.int p3), .val (.int p4), .val (.int p5), .val (.int (3 : Int32)), .val (.int (3 : Int32)), .val (.int x0), .val (.int x1), .val (.int x2), .val (.int y0), .val (.int y1), .val (.int y2), .val (.ref ar), .val (.ref ao), .val (.ref bt), .val (.ref bu), .unset] [(.int (0 : Int32))])
        exact J214  _ (by rw [own_bf (P := (¬ y0 < x0 ∧ ¬ y1 < x1 ∧ ¬ y2 < x2)) (by simp [c17_199, c180_253])])
      · refine own_st (fun _ k => XS.icmpNo X250.here hx rfl (hb hby at_180) rfl (flt c180_253).2.2.1 k) ?_
        show own_Go p e s below _ _ _ T250 (mkF m 183 #[.val (.int p0), .val (.int p1), .val (.int p2), .val (.int p3), .val (.int p4), .val (.int p5), .val (.int (3 : Int32)), .val (.int (3 : Int32)), .val (.int x0), .val (.int x1), .val (.int x2), .val (.int y0), .val (.int y1), .val (.int y2), .val (.ref ar), .val (.ref ao), .val (.ref bt), .val (.ref bu), .unset] [])
        refine own_st (fun _ k => XS.iload X250.here hx rfl (hb hby at_183) rfl k) ?_
        show own_Go p e s below _ _ _ T250 (mkF m 185 #[.val (.int p0), .val (.int p1), .val (.int p2), .val (.int p3), .val (.int p4), .val (.int p5), .val (.int (3 : Int32)), .val (.int (3 : Int32)), .val (.int x0), .val (.int x1), .val (.int x2), .val (.int y0), .val (.int y1), .val (.int y2), .val (.ref ar), .val (.ref ao), .val (.ref bt), .val (.ref bu), .unset] [(.int (3 : Int32))])
        refine own_st (fun _ k => XS.iconst X250.here hx rfl (hb hby at_185) k) ?_
        show own_Go p e s below _ _ _ T250 (mkF m 186 #[.val (.int p0), .val (.int p1), .val (.int p2), .val (.int p3), .val (.int p4), .val (.int p5), .val (.int (3 : Int32)), .val (.int (3 : Int32)), .val (.int x0), .val (.int x1), .val (.int x2), .val (.int y0), .val (.int y1), .val (.int y2), .val (.ref ar), .val (.ref ao), .val (.ref bt), .val (.ref bu), .unset] [(.int (2 : Int32)), (.int (3 : Int32))])
        refine own_st (fun _ k => XS.icmpNo X250.here hx rfl (hb hby at_186) rfl (by decide) k) ?_
        show own_Go p e s below _ _ _ T250 (mkF m 189 #[.val (.int p0), .val (.int p1), .val (.int p2), .val (.int p3), .val (.int p4), .val (.int p5), .val (.int (3 : Int32)), .val (.int (3 : Int32)), .val (.int x0), .val (.int x1), .val (.int x2), .val (.int y0), .val (.int y1), .val (.int y2), .val (.ref ar), .val (.ref ao), .val (.ref bt), .val (.ref bu), .unset] [])
        refine own_st (fun _ k => XS.iload X250.here hx rfl (hb hby at_189) rfl k) ?_
        show own_Go p e s below _ _ _ T250 (mkF m 191 #[.val (.int p0), .val (.int p1), .val (.int p2), .val (.int p3), .val (.int p4), .val (.int p5), .val (.int (3 : Int32)), .val (.int (3 : Int32)), .val (.int x0), .val (.int x1), .val (.int x2), .val (.int y0), .val (.int y1), .val (.int y2), .val (.ref ar), .val (.ref ao), .val (.ref bt), .val (.ref bu), .unset] [(.int x1)])
        refine own_st (fun _ k => XS.iload X250.here hx rfl (hb hby at_191) rfl k) ?_
        show own_Go p e s below _ _ _ T250 (mkF m 193 #[.val (.int p0), .val (.int p1), .val (.int p2), .val (.int p3), .val (.int p4), .val (.int p5), .val (.int (3 : Int32)), .val (.int (3 : Int32)), .val (.int x0), .val (.int x1), .val (.int x2), .val (.int y0), .val (.int y1), .val (.int y2), .val (.ref ar), .val (.ref ao), .val (.ref bt), .val (.ref bu), .unset] [(.int y1), (.int x1)])
        by_cases c193_254 : y1 < x1
        · refine own_st (fun _ k => XS.icmpYes X250.here hx rfl (pc0 := 193) (pc' := 213) rfl (hb hby at_193) rfl (tlt c193_254).2.2.1 (by decide) (by decide) k) ?_
          show own_Go p e s below _ _ _ T250 (mkF m 213 #[.val (.int p0), .val (.int p1), .val (.int p2), .val (.int p3), .val (.int p4), .val (.int p5), .val (.int (3 : Int32)), .val (.int (3 : Int32)), .val (.int x0), .val (.int x1), .val (.int x2), .val (.int y0), .val (.int y1), .val (.int y2), .val (.ref ar), .val (.ref ao), .val (.ref bt), .val (.ref bu), .unset] [])
          refine own_st (fun _ k => XS.iconst X250.here hx rfl (hb hby at_213) k) ?_
          show own_Go p e s below _ _ _ T250 (mkF m 214 #[.val (.int p0), .val (.int p1), .val (.int p2), .val (.int p3), .val (.int p4), .val (.int p5), .val (.int (3 : Int32)), .val (.int (3 : Int32)), .val (.int x0), .val (.int x1), .val (.int x2), .val (.int y0), .val (.int y1), .val (.int y2), .val (.ref ar), .val (.ref ao), .val (.ref bt), .val (.ref bu), .unset] [(.int (0 : Int32))])
          exact J214  _ (by rw [own_bf (P := (¬ y0 < x0 ∧ ¬ y1 < x1 ∧ ¬ y2 < x2)) (by simp [c17_199, c180_253, c193_254])])
        · refine own_st (fun _ k => XS.icmpNo X250.here hx rfl (hb hby at_193) rfl (flt c193_254).2.2.1 k) ?_
          show own_Go p e s below _ _ _ T250 (mkF m 196 #[.val (.int p0), .val (.int p1), .val (.int p2), .val (.int p3), .val (.int p4), .val (.int p5), .val (.int (3 : Int32)), .val (.int (3 : Int32)), .val (.int x0), .val (.int x1), .val (.int x2), .val (.int y0), .val (.int y1), .val (.int y2), .val (.ref ar), .val (.ref ao), .val (.ref bt), .val (.ref bu), .unset] [])
          refine own_st (fun _ k => XS.iload X250.here hx rfl (hb hby at_196) rfl k) ?_
          show own_Go p e s below _ _ _ T250 (mkF m 198 #[.val (.int p0), .val (.int p1), .val (.int p2), .val (.int p3), .val (.int p4), .val (.int p5), .val (.int (3 : Int32)), .val (.int (3 : Int32)), .val (.int x0), .val (.int x1), .val (.int x2), .val (.int y0), .val (.int y1), .val (.int y2), .val (.ref ar), .val (.ref ao), .val (.ref bt), .val (.ref bu), .unset] [(.int (3 : Int32))])
          refine own_st (fun _ k => XS.iconst X250.here hx rfl (hb hby at_198) k) ?_
          show own_Go p e s below _ _ _ T250 (mkF m 199 #[.val (.int p0), .val (.int p1), .val (.int p2), .val (.int p3), .val (.int p4), .val (.int p5), .val (.int (3 : Int32)), .val (.int (3 : Int32)), .val (.int x0), .val (.int x1), .val (.int x2), .val (.int y0), .val (.int y1), .val (.int y2), .val (.ref ar), .val (.ref ao), .val (.ref bt), .val (.ref bu), .unset] [(.int (3 : Int32)), (.int (3 : Int32))])
          refine own_st (fun _ k => XS.icmpNo X250.here hx rfl (hb hby at_199) rfl (by decide) k) ?_
          show own_Go p e s below _ _ _ T250 (mkF m 202 #[.val (.int p0), .val (.int p1), .val (.int p2), .val (.int p3), .val (.int p4), .val (.int p5), .val (.int (3 : Int32)), .val (.int (3 : Int32)), .val (.int x0), .val (.int x1), .val (.int x2), .val (.int y0), .val (.int y1), .val (.int y2), .val (.ref ar), .val (.ref ao), .val (.ref bt), .val (.ref bu), .unset] [])
          refine own_st (fun _ k => XS.iload X250.here hx rfl (hb hby at_202) rfl k) ?_
          show own_Go p e s below _ _ _ T250 (mkF m 204 #[.val (.int p0), .val (.int p1), .val (.int p2), .val (.int p3), .val (.int p4), .val (.int p5), .val (.int (3 : Int32)), .val (.int (3 : Int32)), .val (.int x0), .val (.int x1), .val (.int x2), .val (.int y0), .val (.int y1), .val (.int y2), .val (.ref ar), .val (.ref ao), .val (.ref bt), .val (.ref bu), .unset] [(.int x2)])
          refine own_st (fun _ k => XS.iload X250.here hx rfl (hb hby at_204) rfl k) ?_
          show own_Go p e s below _ _ _ T250 (mkF m 206 #[.val (.int p0), .val (.int p1), .val (.int p2), .val (.int p3), .val (.int p4), .val (.int p5), .val (.int (3 : Int32)), .val (.int (3 : Int32)), .val (.int x0), .val (.int x1), .val (.int x2), .val (.int y0), .val (.int y1), .val (.int y2), .val (.ref ar), .val (.ref ao), .val (.ref bt), .val (.ref bu), .unset] [(.int y2), (.int x2)])
          by_cases c206_255 : y2 < x2
          · refine own_st (fun _ k => XS.icmpYes X250.here hx rfl (pc0 := 206) (pc' := 213) rfl (hb hby at_206) rfl (tlt c206_255).2.2.1 (by decide) (by decide) k) ?_
            show own_Go p e s below _ _ _ T250 (mkF m 213 #[.val (.int p0), .val (.int p1), .val (.int p2), .val (.int p3), .val (.int p4), .val (.int p5), .val (.int (3 : Int32)), .val (.int (3 : Int32)), .val (.int x0), .val (.int x1), .val (.int x2), .val (.int y0), .val (.int y1), .val (.int y2), .val (.ref ar), .val (.ref ao), .val (.ref bt), .val (.ref bu), .unset] [])
            refine own_st (fun _ k => XS.iconst X250.here hx rfl (hb hby at_213) k) ?_
            show own_Go p e s below _ _ _ T250 (mkF m 214 #[.val (.int p0), .val (.int p1), .val (.int p2), .val (.int p3), .val (.int p4), .val (.int p5), .val (.int (3 : Int32)), .val (.int (3 : Int32)), .val (.int x0), .val (.int x1), .val (.int x2), .val (.int y0), .val (.int y1), .val (.int y2), .val (.ref ar), .val (.ref ao), .val (.ref bt), .val (.ref bu), .unset] [(.int (0 : Int32))])
            exact J214  _ (by rw [own_bf (P := (¬ y0 < x0 ∧ ¬ y1 < x1 ∧ ¬ y2 < x2)) (by simp [c180_253, c193_254, c206_255])])
          · refine own_st (fun _ k => XS.icmpNo X250.here hx rfl (hb hby at_206) rfl (flt c206_255).2.2.1 k) ?_
            show own_Go p e s below _ _ _ T250 (mkF m 209 #[.val (.int p0), .val (.int p1), .val (.int p2), .val (.int p3), .val (.int p4), .val (.int p5), .val (.int (3 : Int32)), .val (.int (3 : Int32)), .val (.int x0), .val (.int x1), .val (.int x2), .val (.int y0), .val (.int y1), .val (.int y2), .val (.ref ar), .val (.ref ao), .val (.ref bt), .val (.ref bu), .unset] [])
            refine own_st (fun _ k => XS.iconst X250.here hx rfl (hb hby at_209) k) ?_
            show own_Go p e s below _ _ _ T250 (mkF m 210 #[.val (.int p0), .val (.int p1), .val (.int p2), .val (.int p3), .val (.int p4), .val (.int p5), .val (.int (3 : Int32)), .val (.int (3 : Int32)), .val (.int x0), .val (.int x1), .val (.int x2), .val (.int y0), .val (.int y1), .val (.int y2), .val (.ref ar), .val (.ref ao), .val (.ref bt), .val (.ref bu), .unset] [(.int (1 : Int32))])
            refine own_st (fun _ k => XS.goto X250.here hx rfl (pc0 := 210) (pc' := 214) rfl (hb hby at_210) (by decide) (by decide) k) ?_
            show own_Go p e s below _ _ _ T250 (mkF m 214 #[.val (.int p0), .val (.int p1), .val (.int p2), .val (.int p3), .val (.int p4), .val (.int p5), .val (.int (3 : Int32)), .val (.int (3 : Int32)), .val (.int x0), .val (.int x1), .val (.int x2), .val (.int y0), .val (.int y1), .val (.int y2), .val (.ref ar), .val (.ref ao), .val (.ref bt), .val (.ref bu), .unset] [(.int (1 : Int32))])
            exact J214  _ (by rw [own_bt (P := (¬ y0 < x0 ∧ ¬ y1 < x1 ∧ ¬ y2 < x2)) (by simp [c180_253, c193_254, c206_255])])
set_option maxRecDepth 65536 in
set_option maxHeartbeats 40000000 in
theorem comes_1 {Post : Tables → Env → Array Value → State → Outcome → State → Prop} (hpost : ∀ tb e args s v u, (limb_1_1.after args s (.returned v) u = true ∧ limb_1_2.after args s (.returned v) u = true ∧ True) → FrameEnd s (.returned v) u (Jvm.fieldLocs frame_1_writes args s ++ Jvm.arrayLocs frame_1_arrays args s ++ Jvm.staticLocs frame_1_statics s) 24 128 → Post tb e args s (.returned v) u) :
    ArmFor flags0 classFile x code maxLocals ret World_1 tables_1 room_1 Calls_1 rest_1 Pre_1 Post := by
  intro l hfl _ _ p e ha hc hk s m args below hf hA hF happ hP
  obtain ⟨hcalls, hrest, hpre⟩ := hP
  obtain ⟨-, -, -, hnamed, -, -, -, hat⟩ := (Spec.applies_iff hf).mp happ
  obtain ⟨hg, hn⟩ := and_e (Cond.before_iff.mp (show (Jvm.Cond.and given_1 narrow_1).before args s = true from hpre))
  obtain ⟨h1, hr0⟩ := and_e hg
  obtain ⟨w0, w1, w2, w3, w4, w5, rfl⟩ : ∃ w0 w1 w2 w3 w4 w5 : Value, args = #[w0, w1, w2, w3, w4, w5] := by
    have hs : args.size = 6 := by simpa [Cond.value, given_1] using h1
    obtain ⟨L⟩ := args
    match L, hs with
    | [w0, w1, w2, w3, w4, w5], _ => exact ⟨w0, w1, w2, w3, w4, w5, rfl⟩
  have hw := fun d (hd : d ∈ tables_1) => atoms_spec (ws := Jvm.Cond.code x code maxLocals ret :: tables_1) hat d (List.mem_cons_of_mem _ hd)
  obtain ⟨ha0, hr1⟩ := and_e hr0
  obtain ⟨i0, e0⟩ := is_v ha0
  obtain rfl : w0 = (.int i0) := Option.some.inj e0
  obtain ⟨ha1, hr2⟩ := and_e hr1
  obtain ⟨i1, e1⟩ := is_v ha1
  obtain rfl : w1 = (.int i1) := Option.some.inj e1
  obtain ⟨ha2, hr3⟩ := and_e hr2
  obtain ⟨i2, e2⟩ := is_v ha2
  obtain rfl : w2 = (.int i2) := Option.some.inj e2
  obtain ⟨ha3, hr4⟩ := and_e hr3
  obtain ⟨i3, e3⟩ := is_v ha3
  obtain rfl : w3 = (.int i3) := Option.some.inj e3
  obtain ⟨ha4, hr5⟩ := and_e hr4
  obtain ⟨i4, e4⟩ := is_v ha4
  obtain rfl : w4 = (.int i4) := Option.some.inj e4
  obtain ⟨i5, e5⟩ := is_v hr5
  obtain rfl : w5 = (.int i5) := Option.some.inj e5
  obtain ⟨n, o, h1, h2, h3, _, L, rfl, ⟨rfl, N⟩, hq⟩ := rm0 l s _ hw tables_1 i0 i1 i2 i3 i4 i5 s.heap s.heap.size (Nat.le_refl _) p e ha hc hk s m _ below hf ((Spec.applies_iff_loose hf).mp happ).1 ⟨rfl, State.Warmed39.refl s, rfl⟩ trivial
  refine ⟨n, _, h1, h2, h3, hpost _ _ _ _ _ _ ⟨Cond.after_iff.mpr rfl, Cond.after_iff.mpr (eq_i res_at (Term.int_eval (1)) rfl), trivial⟩ ⟨hq.1, hq.2.1, (hq.2.2.sift fun y hy => Or.inr (N y hy)).mono (by decide) (by decide)⟩⟩
theorem main_1_1 : Claimed_1_1 := comes_1 fun _ _ _ _ _ _ h hF => ⟨h.1, hF⟩
theorem main_1_2 : Claimed_1_2 := comes_1 fun _ _ _ _ _ _ h hF => ⟨h.2.1, hF⟩
end Jvm.Pilot.@@N@@
namespace Jvm.Pilot.@@N@@
open Jvm Jvm.ClassFile Sem Op Lib Jvm.Free Jvm.Stand Jvm.Pilot.@@N@@.Jvm.D
/-! MADE BY PROGRAM (witnessworld.py) out of the Statement's table words and the real class files: 9 classes; the members and pool entries that the words name. The judged class is class 1, her method 1. -/
namespace start1
open Jvm.ClassFile
def u (s : String) : CpInfo := .utf8 (stringToUtf16 s)
/-- a pool by its gaps: so many unusable entries, then the entry; so many at the end -/
def gap : Nat → List CpInfo → List CpInfo
  | 0, r => r
  | n + 1, r => .unusable :: gap n r
def poolList (es : List (Nat × CpInfo)) (last : Nat) : List CpInfo := es.foldr (fun e r => gap e.1 (e.2 :: r)) (gap last [])
def pool (es : List (Nat × CpInfo)) (last : Nat) : Array CpInfo := ⟨poolList es last⟩
def fileOf (pool : Array CpInfo) (this : Nat) (attrs : Array Attribute := #[]) (ms : Array MethodInfo := #[]) (fl : Nat := 33) (sup : Nat := 0) (ifs : Array Nat := #[]) (fds : Array FieldInfo := #[]) : ClassFile where
  minorVersion := 0
  majorVersion := 65
  constantPool := pool
  accessFlags := fl
  thisClass := this
  superClass := sup
  interfaces := ifs
  fields := fds
  methods := ms
  attributes := attrs
def plain (name : String) (sup : Option ClassId) : Class where
  name := name
  kind := .ordinary
  loader := none
  accessFlags := 33
  super := sup
  interfaces := #[]
  cf := none
  fields := #[]
  methods := #[]
  instanceTypes := #[]
  staticTypes := #[]
  resolved := #[]
  callSites := []
  init := .initialized
  statics := none
  mirror := none

def pool0 : Array CpInfo := pool [(5, u "<init>"), (0, u "()V"), (1, .class_ 10), (1, u "java/lang/Object"), (85, u "clone"), (0, u "()Ljava/lang/Object;")] 26

def k0c0 : Code := { maxStack := 0, maxLocals := 1, code := object_method_1_code, exceptionTable := #[], attributes := #[] }
def k0m0 : Method := { name := "<init>", desc := "()V", sig := { parameters := [], returnType := none }, accessFlags := 1, code := some k0c0 }
def k0m1 : Method := { name := "clone", desc := "()Ljava/lang/Object;", sig := { parameters := [], returnType := some (.object "java/lang/Object") }, accessFlags := 260, code := none }
/-- java/lang/Object -/
def k0 : Class := { plain "java/lang/Object" none with
  accessFlags := 33
  interfaces := #[]
  cf := some (fileOf pool0 8 #[] #[{ accessFlags := 1, nameIndex := 5, descriptorIndex := 6, attributes := #[] }, { accessFlags := 260, nameIndex := 96, descriptorIndex := 97, attributes := #[] }] 33 0 #[] #[])
  fields := #[]
  methods := #[k0m0, k0m1]
  instanceTypes := #[]
  staticTypes := #[]
  resolved := Array.replicate 124 none
  statics := none }

def pool1 : Array CpInfo := pool [(2, .class_ 4), (1, u "java/lang/Object"), (0, u "<init>"), (0, u "()V"), (0, .integer 2147483647), (0, .class_ 9), (0, u "com/example/hush5/hush5/model/Transformation"), (0, .methodref 8 11), (0, .nameAndType 5 12), (0, u "([I)V"), (0, .methodref 8 14), (0, .nameAndType 15 16), (0, u "liesAtOrBelow"), (0, u "(Lcom/example/hush5/hush5/model/Transformation;)Z"), (0, .class_ 18), (0, u "com/example/hush5/hush5/model/TransformationLiesAtOrBelowPinLaw"), (2, u "law"), (0, u "(IIIIII)Z")] 5

def k1m0 : Method := { name := "<init>", desc := "()V", sig := { parameters := [], returnType := none }, accessFlags := 1, code := none }
def k1c1 : Code := { maxStack := 3, maxLocals := 19, code := code, exceptionTable := #[], attributes := #[] }
def k1m1 : Method := { name := "law", desc := "(IIIIII)Z", sig := { parameters := [.int, .int, .int, .int, .int, .int], returnType := some .boolean }, accessFlags := 9, code := some k1c1 }
/-- com/example/hush5/hush5/model/TransformationLiesAtOrBelowPinLaw -/
def k1 : Class := { plain "com/example/hush5/hush5/model/TransformationLiesAtOrBelowPinLaw" (some 0) with
  accessFlags := 49
  interfaces := #[]
  cf := some (fileOf pool1 17 #[] #[{ accessFlags := 1, nameIndex := 5, descriptorIndex := 6, attributes := #[] }, { accessFlags := 9, nameIndex := 21, descriptorIndex := 22, attributes := #[] }] 49 2 #[] #[])
  fields := #[]
  methods := #[k1m0, k1m1]
  instanceTypes := #[]
  staticTypes := #[]
  resolved := Array.replicate 28 none
  statics := none }

def pool2 : Array CpInfo := pool [(1, .methodref 2 3), (0, .class_ 4), (0, .nameAndType 5 6), (0, u "java/lang/Object"), (0, u "<init>"), (0, u "()V"), (9, .methodref 17 18), (0, .class_ 19), (0, .nameAndType 20 21), (0, u "[I"), (0, u "clone"), (0, u "()Ljava/lang/Object;"), (0, .fieldref 23 24), (0, .class_ 25), (0, .nameAndType 26 19), (0, u "com/example/hush5/hush5/model/Transformation"), (0, u "levels"), (8, u "([I)V"), (22, u "liesAtOrBelow"), (0, u "(Lcom/example/hush5/hush5/model/Transformation;)Z")] 21

def k2c0 : Code := { maxStack := 3, maxLocals := 6, code := prog_36_method_1_code, exceptionTable := #[], attributes := #[] }
def k2m0 : Method := { name := "<init>", desc := "([I)V", sig := { parameters := [(.array .int)], returnType := none }, accessFlags := 129, code := some k2c0 }
def k2c1 : Code := { maxStack := 3, maxLocals := 3, code := prog_36_method_5_code, exceptionTable := #[], attributes := #[] }
def k2m1 : Method := { name := "liesAtOrBelow", desc := "(Lcom/example/hush5/hush5/model/Transformation;)Z", sig := { parameters := [(.object "com/example/hush5/hush5/model/Transformation")], returnType := some .boolean }, accessFlags := 1, code := some k2c1 }
/-- com/example/hush5/hush5/model/Transformation -/
def k2 : Class := { plain "com/example/hush5/hush5/model/Transformation" (some 0) with
  accessFlags := 33
  interfaces := #[]
  cf := some (fileOf pool2 23 #[] #[{ accessFlags := 129, nameIndex := 5, descriptorIndex := 35, attributes := #[] }, { accessFlags := 1, nameIndex := 58, descriptorIndex := 59, attributes := #[] }] 33 2 #[] #[{ accessFlags := 18, nameIndex := 26, descriptorIndex := 19, attributes := #[] }])
  fields := #[{ name := "levels", type := (.array .int), accessFlags := 18, slot := 0, constantValue := 0 }]
  methods := #[k2m0, k2m1]
  instanceTypes := #[(.array .int)]
  staticTypes := #[]
  resolved := Array.replicate 81 none
  statics := none }

def pool3 : Array CpInfo := pool [(1, .class_ 2), (0, u "java/lang/Cloneable"), (0, .class_ 4), (0, u "java/lang/Object")] 2

/-- java/lang/Cloneable -/
def k3 : Class := { plain "java/lang/Cloneable" (some 0) with
  accessFlags := 1537
  interfaces := #[]
  cf := some (fileOf pool3 1 #[] #[] 1537 3 #[] #[])
  fields := #[]
  methods := #[]
  instanceTypes := #[]
  staticTypes := #[]
  resolved := Array.replicate 7 none
  statics := none }

def pool4 : Array CpInfo := pool [(1, u "java/io/Serializable"), (0, .class_ 1), (0, u "java/lang/Object"), (0, .class_ 3)] 3

/-- java/io/Serializable -/
def k4 : Class := { plain "java/io/Serializable" (some 0) with
  accessFlags := 1537
  interfaces := #[]
  cf := some (fileOf pool4 2 #[] #[] 1537 4 #[] #[])
  fields := #[]
  methods := #[]
  instanceTypes := #[]
  staticTypes := #[]
  resolved := Array.replicate 8 none
  statics := none }

/-- the primitive byte -/
def k5 : Class := { plain "byte" none with kind := .primitive 'B', accessFlags := 0x411 }
/-- [B -/
def k6 : Class := { plain "[B" (some 0) with kind := .array 5 .byte, interfaces := #[3, 4], accessFlags := 1041 }

/-- the primitive int -/
def k7 : Class := { plain "int" none with kind := .primitive 'I', accessFlags := 0x411 }
/-- [I -/
def k8 : Class := { plain "[I" (some 0) with kind := .array 7 .int, interfaces := #[3, 4], accessFlags := 1041 }

def heap : Heap := #[]
def classes : Array Class := #[k0, k1, k2, k3, k4, k5, k6, k7, k8]
def interned : List (Array UInt16 × Addr) := []
def slotsUsed : Nat := 0
def theMethod : MethodId := ⟨1, 1⟩
def args0 : Array Value := #[.int 5, .int 5, .int 5, .int 5, .int 5, .int 5]
def aboutOver (below : List Frame) : State where
  vm := { classes := classes, interned := interned.toArray }
  heap := heap
  slotsUsed := slotsUsed
  threads := #[{ frames := .invoking theMethod args0 :: below }]
def below0 : List Frame := [.native { method := ⟨0, 0⟩, args := #[] }]
def about1 : State := aboutOver below0
def p0 : Program := .bare "" "" ""
def e0 : Env := launch0.env 0 0 0
theorem w_frames : about1.frames = Frame.invoking theMethod args0 :: below0 := rfl
set_option maxRecDepth 65536 in
theorem w_args : argsFit about1.vm theMethod args0 = true := by decide +kernel
set_option maxRecDepth 65536 in
theorem w_heap : heapFits about1 = true := by decide +kernel
set_option maxRecDepth 65536 in
theorem w_runnable : about1.curStatus? = some .runnable := by decide +kernel
set_option maxRecDepth 65536 in
theorem w_alone : about1.alone = true := by decide +kernel
set_option maxRecDepth 65536 in
theorem w_named : about1.methodNamed? x = some theMethod := by decide +kernel
set_option maxRecDepth 65536 in
theorem w_hears : about1.hears theMethod below0 = true := by decide +kernel
set_option maxRecDepth 65536 in
theorem w_ripe : about1.ripe theMethod args0 below0 = true := by decide +kernel
theorem w_running : about1.status = .running := rfl
set_option maxRecDepth 65536 in
theorem w_room : about1.hasRoom e0.platform room_1 = true :=
  launch0.hasRoom_least _ room_1 (by decide +kernel) (by decide +kernel) (by decide +kernel) (by decide +kernel) (by decide +kernel) (by decide +kernel)
theorem allAtoms_all (ts : List Jvm.Cond) (a : Array Jvm.Value) (st : Jvm.State) : (allAtoms ts).before a st = ts.all (fun c => c.before a st) := by
  induction ts with
  | nil => rfl
  | cons c t ih =>
    show (Jvm.Cond.and c (allAtoms t)).before a st = _
    rw [Jvm.Cond.before_and, ih, List.all_cons]
def words1 : List Jvm.Cond := Jvm.Cond.code x code maxLocals ret :: tables_1
/-- a 'code' word, met by the world's own term for the bytes: nothing is compared byte by byte -/
theorem code_word {y : MethodName} {bytes : ByteArray} {mx : Nat} {rt : Option FieldType} {a : Array Value} {s : State} {m : MethodId} {meth : Method} {c : Code} (h1 : s.methodNamed? y = some m) (h2 : s.vm.method? m = some meth) (h3 : meth.code = some c) (h4 : c.code = bytes)
    (h5 : (c.maxLocals == mx && c.exceptionTable.isEmpty && decide (c.maxStack ≤ mostOperands) && decide (meth.sig.returnType = rt) && !meth.locks && decide (parseMethodDescriptor y.desc = some meth.sig)) = true) : (Jvm.Cond.code y bytes mx rt).before a s = true := by
  simp only [Bool.and_eq_true, beq_iff_eq, Bool.not_eq_true', decide_eq_true_eq] at h5
  obtain ⟨⟨⟨⟨⟨g1, g2⟩, g3⟩, g4⟩, g5⟩, g6⟩ := h5
  simp [Cond.before, Cond.holds, Cond.value, h1, h2, h3, h4, g1, g2, g3, g4, g5, g6]
def isCode : Jvm.Cond → Bool
  | .code _ _ _ _ => true
  | _ => false
theorem all_split {L : List Jvm.Cond} {P : Jvm.Cond → Bool} (h1 : L.all (fun c => isCode c || P c) = true) (h2 : ∀ c ∈ L.filter isCode, P c = true) : L.all P = true := by
  refine List.all_eq_true.mpr fun c hc => ?_
  have h := List.all_eq_true.mp h1 c hc
  rcases Bool.eq_false_or_eq_true (isCode c) with hi | hi
  · exact h2 c (List.mem_filter.mpr ⟨hc, hi⟩)
  · simpa [hi] using h
set_option maxRecDepth 65536 in
theorem w_c0 : (Jvm.Cond.code x code maxLocals ret).before args0 about1 = true := code_word (m := ⟨1, 1⟩) (meth := k1m1) (c := k1c1) (by decide +kernel) rfl rfl rfl (by decide +kernel)
set_option maxRecDepth 65536 in
theorem w_c1 : (Jvm.Cond.code ({ cls := "com/example/hush5/hush5/model/Transformation", name := "<init>", desc := "([I)V" } : Jvm.MethodName) prog_36_method_1_code (6 : Nat) (Option.none : Option Jvm.ClassFile.FieldType)).before args0 about1 = true := code_word (m := ⟨2, 0⟩) (meth := k2m0) (c := k2c0) (by decide +kernel) rfl rfl rfl (by decide +kernel)
set_option maxRecDepth 65536 in
theorem w_c2 : (Jvm.Cond.code ({ cls := "java/lang/Object", name := "<init>", desc := "()V" } : Jvm.MethodName) object_method_1_code (1 : Nat) (Option.none : Option Jvm.ClassFile.FieldType)).before args0 about1 = true := code_word (m := ⟨0, 0⟩) (meth := k0m0) (c := k0c0) (by decide +kernel) rfl rfl rfl (by decide +kernel)
set_option maxRecDepth 65536 in
theorem w_c3 : (Jvm.Cond.code ({ cls := "com/example/hush5/hush5/model/Transformation", name := "liesAtOrBelow", desc := "(Lcom/example/hush5/hush5/model/Transformation;)Z" } : Jvm.MethodName) prog_36_method_5_code (3 : Nat) (Option.some Jvm.ClassFile.FieldType.boolean)).before args0 about1 = true := code_word (m := ⟨2, 1⟩) (meth := k2m1) (c := k2c1) (by decide +kernel) rfl rfl rfl (by decide +kernel)
def codes1 : List Jvm.Cond := [Jvm.Cond.code x code maxLocals ret, Jvm.Cond.code ({ cls := "com/example/hush5/hush5/model/Transformation", name := "<init>", desc := "([I)V" } : Jvm.MethodName) prog_36_method_1_code (6 : Nat) (Option.none : Option Jvm.ClassFile.FieldType), Jvm.Cond.code ({ cls := "java/lang/Object", name := "<init>", desc := "()V" } : Jvm.MethodName) object_method_1_code (1 : Nat) (Option.none : Option Jvm.ClassFile.FieldType), Jvm.Cond.code ({ cls := "com/example/hush5/hush5/model/Transformation", name := "liesAtOrBelow", desc := "(Lcom/example/hush5/hush5/model/Transformation;)Z" } : Jvm.MethodName) prog_36_method_5_code (3 : Nat) (Option.some Jvm.ClassFile.FieldType.boolean)]
set_option maxRecDepth 65536 in
theorem codes_eq : words1.filter isCode = codes1 := rfl
theorem w_codes : ∀ c ∈ words1.filter isCode, c.before args0 about1 = true := by
  rw [codes_eq]
  intro c hc
  simp only [codes1, List.mem_cons, List.not_mem_nil, or_false] at hc
  rcases hc with rfl | rfl | rfl | rfl
  · exact w_c0
  · exact w_c1
  · exact w_c2
  · exact w_c3
set_option maxRecDepth 65536 in
theorem w_t1 : (words1.take 24).all (fun c => isCode c || c.before args0 about1) = true := by decide +kernel
set_option maxRecDepth 65536 in
theorem w_t2 : (words1.drop 24).all (fun c => isCode c || c.before args0 about1) = true := by decide +kernel
theorem w_tables : (allAtoms (Jvm.Cond.code x code maxLocals ret :: tables_1)).before args0 about1 = true := by
  rw [allAtoms_all]
  show words1.all (fun c => c.before args0 about1) = true
  refine all_split ?_ w_codes
  rw [← List.take_append_drop 24 words1, List.all_append, w_t1, w_t2]
  rfl
set_option maxRecDepth 65536 in
theorem w_case : (Jvm.Cond.and given_1 narrow_1).before args0 about1 = true := by decide +kernel
theorem w_applies : (headSpec (Jvm.Cond.code x code maxLocals ret :: tables_1) room_1).applies x e0.platform about1 = true :=
  (Spec.applies_iff w_frames).mpr ⟨w_running, w_runnable, w_alone, w_named, w_hears, w_ripe, w_room, w_tables⟩
theorem atStart : AtStart classFile x code maxLocals ret World_1 tables_1 room_1 Calls_1 rest_1 Pre_1 launch0 p0 e0 about1 theMethod args0 below0 :=
  ⟨lists_1, trivial, launch0.admits_env _ _ _, launch0.least_env, fairChoices_fair.cas, fairChoices_fair.clock, w_frames, w_args, w_heap, w_applies, trivial, trivial, w_case⟩
end start1
theorem witness_1 : WitnessClaimed_1 := ⟨start1.p0, start1.e0, start1.about1, start1.theMethod, start1.args0, start1.below0, start1.atStart⟩
end Jvm.Pilot.@@N@@
