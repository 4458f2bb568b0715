import JvmDerived
import JvmDerived.Pilot.@@N@@Statement
import JvmDerived.Pilot.@@N@@Code
set_option linter.unusedVariables false
set_option linter.unusedSimpArgs false
@@BLOCK:HandJ.lean.txt@@
@@BLOCK:NumsL.lean.txt@@
@@BLOCK:SymMore.lean.txt@@
namespace Jvm.Pilot.@@N@@
open Jvm Jvm.ClassFile Sem Op Lib Jvm.Free Jvm.Stand Jvm.LawKit Jvm.RoadKit Bundle Jvm.Pilot.@@N@@.Jvm.D
/-! ## own_..: a layer of continuations over the library's laws: a walk that may branch -/
/-- from T with the frame g on top the run comes to an end of which P holds -/
def own_Fin (p : Program) (e : Env) (below : List Frame) (P : Outcome → State → Prop) (T : State) (g : JFrame) : Prop :=
  ∃ s₂ o, Steps p.tables e below (T.setTop g) s₂ ∧ s₂.status = .running ∧ Ended s₂ below o ∧ P o s₂
/-- what is known of the method that is walked -/
def own_Ctx (p : Program) (Z s : State) (m : MethodId) (meth : Method) (c : Code) (cls : String) (bytes : ByteArray) (maxL : Nat) (ret : Option FieldType) (nm : String) : Prop :=
  p.tables.exec = Jvm.exec ∧ Z.Warmed39 s.vm ∧ c.code = bytes ∧ c.maxLocals = maxL ∧ s.vm.findClass cls = some m.cls ∧ meth.sig.returnType = ret ∧ meth.locks = false ∧ meth.name = nm
/-- the walk's end: it returns v, Q says what it leaves -/
def own_P (s : State) (rm : Room) (Q : Option Value → Heap → List Loc → Prop) : Outcome → State → Prop :=
  fun o t => ∃ v L, o = .returned v ∧ Q v t.heap L ∧ FrameEnd s o t L rm.cells rm.slots
/-- a method's contract at one heap and one list of arguments -/
def own_Met (l : Launch) (Z : State) (y : MethodName) (bytes : ByteArray) (maxL : Nat) (ret : Option FieldType) (rm : Room) (as' : Array Value) (h : Heap) (Q : Option Value → Heap → List Loc → Prop) : Prop :=
  ∀ ws, MetFree l y (head1 (Jvm.Cond.code y bytes maxL ret :: ws) rm) (fun a U => a = as' ∧ Z.Warmed39 U.vm ∧ U.heap = h) (fun _ _ _ _ _ => True) (fun _ U o U' => ∃ v L, o = .returned v ∧ Q v U'.heap L ∧ FrameEnd U o U' L rm.cells rm.slots)
theorem own_enter {l : Launch} {Z : State} {y : MethodName} {bytes : ByteArray} {maxL : Nat} {ret : Option FieldType} {rm : Room} {as' : Array Value} {h : Heap} {Q : Option Value → Heap → List Loc → Prop} {Ls : Array Slot}
    (hpl : plainFor y = true) (hef : ∀ m, entryFrame m as' maxL = mkF m 0 Ls [])
    (body : ∀ (p : Program) (e : Env) (s : State) (m : MethodId) (below : List Frame) (meth : Method) (c : Code) (T : State), own_Ctx p Z s m meth c y.cls bytes maxL ret y.name → Stand p l e rm s m as' below meth c T [] 0 0 → T.heap = h → own_Fin p e below (own_P s rm Q) T (mkF m 0 Ls [])) :
    own_Met l Z y bytes maxL ret rm as' h Q := by
  intro ws
  refine MetFree.of_bodySF hpl hisR ?_
  intro p e s m args below meth c s₁ Bd hml0 hP hK
  obtain ⟨rfl, hZ, hh⟩ := hP
  have q := body p e s m below meth c s₁ ⟨Bd.exec, hZ, Bd.bytes, hml0, findClass_of_methodNamed Bd.named, Bd.returns, BodyLoose.notSynchronized Bd, (name_of_methodNamed Bd.named Bd.method).1⟩ (Stand.of_body Bd) (by rw [← hh, Bd.state]; rfl)
  rw [← hef m] at q
  exact q
/-- what a method leaves that writes nothing: the value, and the heap as it was -/
def own_QI (r : Int32) (h0 : Heap) (n0 : Nat) (v : Option Value) (h : Heap) (L : List Loc) : Prop := v = some (.int r) ∧ Fr n0 L ∧ h = h0
def own_QJ (r : Int64) (h0 : Heap) (n0 : Nat) (v : Option Value) (h : Heap) (L : List Loc) : Prop := v = some (.long r) ∧ Fr n0 L ∧ h = h0
def own_QR (r : Value) (h0 : Heap) (n0 : Nat) (v : Option Value) (h : Heap) (L : List Loc) : Prop := v = some r ∧ Fr n0 L ∧ h = h0
def own_QV (h0 : Heap) (n0 : Nat) (v : Option Value) (h : Heap) (L : List Loc) : Prop := v = none ∧ Fr n0 L ∧ h = h0
/-- what a law leaves: true -/
def own_Q1 (n0 : Nat) (v : Option Value) (h : Heap) (L : List Loc) : Prop := v = some (.int 1) ∧ Fr n0 L
theorem own_lrem_eq (x y : Int64) : x - (x / y) * y = x % y := Int64.toInt_inj.mp ((Jvm.Kit.i64_rem x y).trans (Int64.toInt_mod x y).symm)
theorem own_lrem {tb : Tables} [Ours tb] {e : Env} {below : List Frame} {T target : State} {m : MethodId} {c : Code} {g : JFrame} (h : At T m c below) (hx : tb.exec = Jvm.exec) (hg : g.method = m) {x y : Int64} {rest : List Value} (hd : decode c.code g.pc = .ok (.lrem, 1)) (hs : g.stack = .long y :: .long x :: rest) (hy : y ≠ 0)
    (hr : Steps tb e below (T.setTop { g with pc := g.pc + 1, stack := .long (x % y) :: rest }) target) : Steps tb e below (T.setTop g) target :=
  XS.lrem h hx hg hd hs hy (by rw [own_lrem_eq]; exact hr)
section Own
variable {p : Program} {l : Launch} {e : Env} {R : Room} {s : State} {m : MethodId} {args : Array Value} {below : List Frame} {meth : Method} {c : Code} {T : State} {locs : List Loc} {cells slots : Nat} {Z : State} {a0 : Array Value} {h : Heap}
  {P : Outcome → State → Prop} {cls : String} {bytes : ByteArray} {maxL : Nat} {ret : Option FieldType} {nm : String} {Q : Option Value → Heap → List Loc → Prop}
theorem own_seg {T' : State} {g g' : JFrame} (st : ∀ t, Steps p.tables e below (T'.setTop g') t → Steps p.tables e below (T.setTop g) t) (k : own_Fin p e below P T' g') : own_Fin p e below P T g := by
  obtain ⟨s₂, o, h1, h2⟩ := k
  exact ⟨s₂, o, st _ h1, h2⟩
theorem own_mono (X : Stand p l e R s m args below meth c T locs cells slots) {cells' slots' : Nat} (h1 : cells ≤ cells') (h2 : slots ≤ slots') : Stand p l e R s m args below meth c T locs cells' slots' :=
  ⟨X.admits, X.cas, X.clock, X.frames, X.room, X.hears, X.method, X.code, X.here, X.tail, X.warmed, X.limits, X.bytes, X.same.mono h1 h2⟩
/-- the end of a walk -/
theorem own_out (K : own_Ctx p Z s m meth c cls bytes maxL ret nm) (X : Stand p l e R s m args below meth c T locs cells slots) {v : Option Value} (hv : ret = none → v = none) {g : JFrame}
    (st : ∀ fs, (∀ (f : JFrame) (acts : List Action), f.method = m → f.locked = none → f.entered = [] → (doReturn e (T.setTop f) acts v).1 = T.setFrames fs) → Steps p.tables e below (T.setTop g) (T.setFrames fs))
    (hQ : Q v T.heap locs) (hc : cells ≤ R.cells) (hs : slots ≤ R.slots) : own_Fin p e below (own_P s R Q) T g := by
  obtain ⟨hx, hZ, hby, hml, hown, hret, hlk, hnm⟩ := K
  obtain ⟨fs, hr, hrun, hended, hW, hsame⟩ := X.leave (v := v) (fun q => hv (hret ▸ q)) hlk
  exact ⟨_, _, st fs hr, hrun, hended, _, _, rfl, hQ, ⟨_, rfl⟩, hW, hsame.mono hc hs⟩
theorem own_retV (K : own_Ctx p Z s m meth c cls bytes maxL none nm) (X : Stand p l e R s m args below meth c T locs cells slots) {pc : Nat} {Ls : Array Slot} (hd : decode bytes pc = .ok (.return_, 1))
    (hQ : Q none T.heap locs) (hc : cells ≤ R.cells) (hs : slots ≤ R.slots) : own_Fin p e below (own_P s R Q) T (mkF m pc Ls []) :=
  own_out K X (fun _ => rfl) (fun fs hr => X.returnOut K.1 K.2.2.2.2.2.1 (hb K.2.2.1 hd) hr) hQ hc hs
theorem own_retO {t : FieldType} (K : own_Ctx p Z s m meth c cls bytes maxL (some t) nm) (X : Stand p l e R s m args below meth c T locs cells slots) {pc : Nat} {Ls : Array Slot} {w : Value} {i : Instr} {rest : List Value} (hn : narrow t w = w)
    (hi : (i = .ireturn ∧ (t = .int ∨ t = .boolean ∨ t = .byte ∨ t = .char ∨ t = .short) ∧ ∃ z, w = .int z) ∨ (i = .lreturn ∧ t = .long ∧ ∃ z, w = .long z) ∨ (i = .dreturn ∧ t = .double ∧ ∃ z, w = .double z) ∨ (i = .freturn ∧ t = .float ∧ ∃ z, w = .float z) ∨ (i = .areturn ∧ t.isReference = true ∧ w.isRef = true))
    (hd : decode bytes pc = .ok (i, 1)) (hQ : Q (some w) T.heap locs) (hc : cells ≤ R.cells) (hs : slots ≤ R.slots) : own_Fin p e below (own_P s R Q) T (mkF m pc Ls (w :: rest)) :=
  own_out K X (fun q => nomatch q) (fun fs hr => retOut X K.1 K.2.2.2.2.2.1 hn hi (hb K.2.2.1 hd) hr) hQ hc hs
theorem own_retI (K : own_Ctx p Z s m meth c cls bytes maxL (some .int) nm) (X : Stand p l e R s m args below meth c T locs cells slots) {pc : Nat} {Ls : Array Slot} {z : Int32} {rest : List Value}
    (hd : decode bytes pc = .ok (.ireturn, 1)) (hQ : Q (some (.int z)) T.heap locs) (hc : cells ≤ R.cells) (hs : slots ≤ R.slots) : own_Fin p e below (own_P s R Q) T (mkF m pc Ls (.int z :: rest)) :=
  own_retO K X rfl (Or.inl ⟨rfl, Or.inl rfl, z, rfl⟩) hd hQ hc hs
theorem own_retJ (K : own_Ctx p Z s m meth c cls bytes maxL (some .long) nm) (X : Stand p l e R s m args below meth c T locs cells slots) {pc : Nat} {Ls : Array Slot} {z : Int64} {rest : List Value}
    (hd : decode bytes pc = .ok (.lreturn, 1)) (hQ : Q (some (.long z)) T.heap locs) (hc : cells ≤ R.cells) (hs : slots ≤ R.slots) : own_Fin p e below (own_P s R Q) T (mkF m pc Ls (.long z :: rest)) :=
  own_retO K X rfl (Or.inr (Or.inl ⟨rfl, rfl, z, rfl⟩)) hd hQ hc hs
theorem own_retA {t : FieldType} (K : own_Ctx p Z s m meth c cls bytes maxL (some t) nm) (ht : t.isReference = true) (X : Stand p l e R s m args below meth c T locs cells slots) {pc : Nat} {Ls : Array Slot} {w : Value} {rest : List Value} (hw : w.isRef = true)
    (hd : decode bytes pc = .ok (.areturn, 1)) (hQ : Q (some w) T.heap locs) (hc : cells ≤ R.cells) (hs : slots ≤ R.slots) : own_Fin p e below (own_P s R Q) T (mkF m pc Ls (w :: rest)) :=
  own_retO K X (by cases t <;> first | rfl | (cases ht; done) | (rcases ref_cases hw with rfl | ⟨a, rfl⟩ <;> rfl)) (Or.inr (Or.inr (Or.inr (Or.inr ⟨rfl, ht, hw⟩)))) hd hQ hc hs
theorem own_retN {t : FieldType} (K : own_Ctx p Z s m meth c cls bytes maxL (some t) nm) (ht : t = .boolean ∨ t = .byte ∨ t = .char ∨ t = .short) (X : Stand p l e R s m args below meth c T locs cells slots) {pc : Nat} {Ls : Array Slot} {z : Int32} {rest : List Value}
    (hd : decode bytes pc = .ok (.ireturn, 1)) (hQ : Q (some (.int (nar t z))) T.heap locs) (hc : cells ≤ R.cells) (hs : slots ≤ R.slots) : own_Fin p e below (own_P s R Q) T (mkF m pc Ls (.int z :: rest)) :=
  own_out K X (fun q => nomatch q) (fun fs hr => retN X K.1 K.2.2.2.2.2.1 ht (hb K.2.2.1 hd) hr) hQ hc hs
/-! calls -/
theorem own_callS (K : own_Ctx p Z s m meth c cls bytes maxL ret nm) (X : Stand p l e R s m args below meth c T locs cells slots) (eT : T.heap = h) {y : MethodName} {yb : ByteArray} {yl : Nat} {yr : Option FieldType} {rm : Room} {as' : Array Value} {Q' : Option Value → Heap → List Loc → Prop}
    (M : own_Met l Z y yb yl yr rm as' h Q') {index : Nat} (w1 : (Jvm.Cond.methodLink cls index y).before a0 Z = true) (w2 : (Jvm.Cond.static y).before a0 Z = true) (w3 : (Jvm.Cond.initialized y.cls).before a0 Z = true) (w4 : (Jvm.Cond.code y yb yl yr).before a0 Z = true)
    (hy : y.cls ≠ "java/lang/invoke/MethodHandle" ∧ y.cls ≠ "java/lang/invoke/VarHandle") (argsL rest : List Value) {ps : List FieldType} {r : Option FieldType} (hpd : parseMethodDescriptor y.desc = some ⟨ps, r⟩) (hlen : argsL.length = ps.length) {pc : Nat} {Ls : Array Slot} {stk : List Value}
    (hstk : stk = argsL.reverse ++ rest) (has : argsL.toArray = as') (hsize : Ls.size = maxL) (hd : decode bytes pc = .ok (.invokestatic index, 3)) (hf : rm.frames + 1 ≤ R.frames) (hl : (rest.map fun v => v.category).sum + (yl + 11) + rm.locals ≤ R.locals) (hc : cells + rm.cells ≤ R.cells) (hs : slots + rm.slots ≤ R.slots)
    (k : ∀ (T' : State) (L : List Loc) (v : Option Value), Stand p l e R s m args below meth c T' (locs ++ L) (cells + rm.cells) (slots + rm.slots) → Q' v T'.heap L → own_Fin p e below P T' (mkF m (pc + 3) Ls (v.toList ++ rest))) :
    own_Fin p e below P T (mkF m pc Ls stk) := by
  obtain ⟨hx, hZ, hby, hml, hown, hret, hlk, hnm⟩ := K
  obtain ⟨v, _, ⟨T', L', k', n'⟩, -, X', ⟨L, hQ, l1, l2, l3⟩, st⟩ := Jvm.LawKit.callS X hx (y := y) hown (mvT hZ w1) (mvT hZ w2) (mvT hZ w3) (mvT hZ w4) hy (backOf (W := (rest.map fun v => v.category).sum) (M []) hZ w4 w3 hf hl) (g := mkF m pc Ls stk) rfl (hsize.trans hml.symm) (argsL := argsL) (rest := rest) (lenOf hpd hlen) hstk (by show 2 * 0 + _ ≤ _; omega) (hb hby hd) (fun _ _ => ⟨has, eT, hc, hs⟩)
  dsimp only [Pt.U, Pt.locs, Pt.cells, Pt.slots] at X' l1 l2 l3 st hQ
  subst l1 l2 l3
  exact own_seg st (k T' L v X' hQ)
theorem own_callI (K : own_Ctx p Z s m meth c cls bytes maxL ret nm) (X : Stand p l e R s m args below meth c T locs cells slots) (eT : T.heap = h) {y : MethodName} {yb : ByteArray} {yl : Nat} {rm : Room} {as' : Array Value} {Q' : Option Value → Heap → List Loc → Prop}
    (M : own_Met l Z y yb yl none rm as' h Q') (hy1 : y.name = "<init>") {index : Nat} (w1 : (Jvm.Cond.methodLink cls index y).before a0 Z = true) (w2 : (Jvm.Cond.instanceMethod y).before a0 Z = true) (w3 : (Jvm.Cond.initialized y.cls).before a0 Z = true) (w4 : (Jvm.Cond.code y yb yl none).before a0 Z = true)
    (hy : y.cls ≠ "java/lang/invoke/MethodHandle" ∧ y.cls ≠ "java/lang/invoke/VarHandle") (a : Addr) (argsL rest : List Value) {ps : List FieldType} {r : Option FieldType} (hpd : parseMethodDescriptor y.desc = some ⟨ps, r⟩) (hlen : argsL.length = ps.length) {pc : Nat} {Ls : Array Slot} {stk : List Value}
    (hstk : stk = argsL.reverse ++ .ref a :: rest) (has : (.ref a :: argsL).toArray = as') (hsize : Ls.size = maxL) (hd : decode bytes pc = .ok (.invokespecial index, 3)) (hf : rm.frames + 1 ≤ R.frames) (hl : (rest.map fun v => v.category).sum + (yl + 11) + rm.locals ≤ R.locals) (hc : cells + rm.cells ≤ R.cells) (hs : slots + rm.slots ≤ R.slots)
    (k : ∀ (T' : State) (L : List Loc) (v : Option Value), Stand p l e R s m args below meth c T' (locs ++ L) (cells + rm.cells) (slots + rm.slots) → Q' v T'.heap L → own_Fin p e below P T' (mkF m (pc + 3) Ls (v.toList ++ rest))) :
    own_Fin p e below P T (mkF m pc Ls stk) := by
  obtain ⟨hx, hZ, hby, hml, hown, hret, hlk, hnm⟩ := K
  obtain ⟨v, _, ⟨T', L', k', n'⟩, -, X', ⟨L, hQ, l1, l2, l3⟩, st⟩ := X.specialBack hx (y := y) hy1 hown (mvT hZ w1) (mvT hZ w2) (mvT hZ w4) hy (backOf (W := (rest.map fun v => v.category).sum) (M []) hZ w4 w3 hf hl) (g := mkF m pc Ls stk) rfl (hsize.trans hml.symm) (Steps.refl _) (a := a) (argsL := argsL) (rest := rest) (lenOf hpd hlen) hstk (by show 2 * 0 + _ ≤ _; omega) (hb hby hd) (fun _ _ => ⟨has, eT, hc, hs⟩)
  dsimp only [Pt.U, Pt.locs, Pt.cells, Pt.slots] at X' l1 l2 l3 st hQ
  subst l1 l2 l3
  exact own_seg (fun t q => st.trans q) (k T' L v X' hQ)
theorem own_callV (K : own_Ctx p Z s m meth c cls bytes maxL ret nm) (X : Stand p l e R s m args below meth c T locs cells slots) (eT : T.heap = h) {y z : MethodName} {yb : ByteArray} {yl : Nat} {yr : Option FieldType} {rm : Room} {as' : Array Value} {Q' : Option Value → Heap → List Loc → Prop}
    (M : own_Met l Z z yb yl yr rm as' h Q') {index : Nat} {C : String} (w1 : (Jvm.Cond.methodLink cls index y).before a0 Z = true) (w2 : (Jvm.Cond.declares y).before a0 Z = true) (nf : ∀ args, (Jvm.Cond.selects C y z).before args s = true → NotFace s y) (w5 : (Jvm.Cond.selects C y z).before a0 Z = true) (w6 : (Jvm.Cond.instanceMethod z).before a0 Z = true) (w3 : (Jvm.Cond.initialized z.cls).before a0 Z = true) (w4 : (Jvm.Cond.code z yb yl yr).before a0 Z = true)
    (hy : y.cls ≠ "java/lang/invoke/MethodHandle" ∧ y.cls ≠ "java/lang/invoke/VarHandle") (a : Addr) (E : Exa Z h a C) (argsL rest : List Value) {ps : List FieldType} {r : Option FieldType} (hpd : parseMethodDescriptor y.desc = some ⟨ps, r⟩) (hlen : argsL.length = ps.length) {pc : Nat} {Ls : Array Slot} {stk : List Value}
    (hstk : stk = argsL.reverse ++ .ref a :: rest) (has : (.ref a :: argsL).toArray = as') (hsize : Ls.size = maxL) (hd : decode bytes pc = .ok (.invokevirtual index, 3)) (hf : rm.frames + 1 ≤ R.frames) (hl : (rest.map fun v => v.category).sum + (yl + 11) + rm.locals ≤ R.locals) (hc : cells + rm.cells ≤ R.cells) (hs : slots + rm.slots ≤ R.slots)
    (k : ∀ (T' : State) (L : List Loc) (v : Option Value), Stand p l e R s m args below meth c T' (locs ++ L) (cells + rm.cells) (slots + rm.slots) → Q' v T'.heap L → own_Fin p e below P T' (mkF m (pc + 3) Ls (v.toList ++ rest))) :
    own_Fin p e below P T (mkF m pc Ls stk) := by
  obtain ⟨hx, hZ, hby, hml, hown, hret, hlk, hnm⟩ := K
  obtain ⟨cq, kq, qa, qb, qc⟩ := isOf hZ eT E
  obtain ⟨v, _, ⟨T', L', k', n'⟩, -, X', ⟨L, hQ, l1, l2, l3⟩, st⟩ := X.virtualBack hx (y := y) (z := z) hown (mvT hZ w1) (mvT hZ w2) (nf #[] (mvT hZ w5)) (mvT hZ w5) (mvT hZ w6) hy (backOf (W := (rest.map fun v => v.category).sum) (M []) hZ w4 w3 hf hl) qa qc (g := mkF m pc Ls stk) rfl (hsize.trans hml.symm) (Steps.refl _) (argsL := argsL) (rest := rest) (lenOf hpd hlen) hstk (by show 2 * 0 + _ ≤ _; omega) (hb hby hd) (fun _ _ => ⟨has, eT, hc, hs⟩)
  dsimp only [Pt.U, Pt.locs, Pt.cells, Pt.slots] at X' l1 l2 l3 st hQ
  subst l1 l2 l3
  exact own_seg (fun t q => st.trans q) (k T' L v X' hQ)
theorem own_callP (K : own_Ctx p Z s m meth c cls bytes maxL ret nm) (X : Stand p l e R s m args below meth c T locs cells slots) (eT : T.heap = h) {y : MethodName} {yb : ByteArray} {yl : Nat} {yr : Option FieldType} {rm : Room} {as' : Array Value} {Q' : Option Value → Heap → List Loc → Prop}
    (M : own_Met l Z y yb yl yr rm as' h Q') {index kk : Nat} (w1 : (Jvm.Cond.methodLink cls index y).before a0 Z = true) (w2 : (Jvm.Cond.instanceMethod y).before a0 Z = true) (w7 : (Jvm.Cond.instantiable y.cls kk).before a0 Z = true) (w6 : (Jvm.Cond.privateMethod y).before a0 Z = true) (w3 : (Jvm.Cond.initialized y.cls).before a0 Z = true) (w4 : (Jvm.Cond.code y yb yl yr).before a0 Z = true)
    (hy : y.cls ≠ "java/lang/invoke/MethodHandle" ∧ y.cls ≠ "java/lang/invoke/VarHandle") (a : Addr) (E : Exa Z h a y.cls) (argsL rest : List Value) {ps : List FieldType} {r : Option FieldType} (hpd : parseMethodDescriptor y.desc = some ⟨ps, r⟩) (hlen : argsL.length = ps.length) {pc : Nat} {Ls : Array Slot} {stk : List Value}
    (hstk : stk = argsL.reverse ++ .ref a :: rest) (has : (.ref a :: argsL).toArray = as') (hsize : Ls.size = maxL) (hd : decode bytes pc = .ok (.invokevirtual index, 3)) (hf : rm.frames + 1 ≤ R.frames) (hl : (rest.map fun v => v.category).sum + (yl + 11) + rm.locals ≤ R.locals) (hc : cells + rm.cells ≤ R.cells) (hs : slots + rm.slots ≤ R.slots)
    (k : ∀ (T' : State) (L : List Loc) (v : Option Value), Stand p l e R s m args below meth c T' (locs ++ L) (cells + rm.cells) (slots + rm.slots) → Q' v T'.heap L → own_Fin p e below P T' (mkF m (pc + 3) Ls (v.toList ++ rest))) :
    own_Fin p e below P T (mkF m pc Ls stk) := by
  obtain ⟨hx, hZ, hby, hml, hown, hret, hlk, hnm⟩ := K
  obtain ⟨cq, q1, q2⟩ := E.cell
  obtain ⟨v, _, ⟨T', L', k', n'⟩, -, X', ⟨L, hQ, l1, l2, l3⟩, st⟩ := X.privateBack hx (y := y) hown (mvT hZ w1) (mvT hZ w2) (Jvm.Kit.selects_private hy (mvT hZ w7) (mvP hZ w6) (mvT hZ w2)) (Cond.privateMethod_at (mvP hZ w6 (args := #[]))) (mvT hZ w4) hy (backOf (W := (rest.map fun v => v.category).sum) (M []) hZ w4 w3 hf hl) (g := mkF m pc Ls stk) rfl (hsize.trans hml.symm) (Steps.refl _) (a := a) (by rw [eT]; exact q1) q2 (argsL := argsL) (rest := rest) (lenOf hpd hlen) hstk (by show 2 * 0 + _ ≤ _; omega) (hb hby hd) (fun _ _ => ⟨has, eT, hc, hs⟩)
  dsimp only [Pt.U, Pt.locs, Pt.cells, Pt.slots] at X' l1 l2 l3 st hQ
  subst l1 l2 l3
  exact own_seg (fun t q => st.trans q) (k T' L v X' hQ)
theorem own_callF (K : own_Ctx p Z s m meth c cls bytes maxL ret nm) (X : Stand p l e R s m args below meth c T locs cells slots) (eT : T.heap = h) {xi y : MethodName} {yb : ByteArray} {yl : Nat} {yr : Option FieldType} {rm : Room} {as' : Array Value} {Q' : Option Value → Heap → List Loc → Prop}
    (M : own_Met l Z y yb yl yr rm as' h Q') {index count : Nat} {C : String} (w1 : (Jvm.Cond.methodLink cls index xi).before a0 Z = true) (w2 : (Jvm.Cond.declares xi).before a0 Z = true) (w8 : (Jvm.Cond.interfaceMethod xi.cls xi.cls xi.name xi.desc).before a0 Z = true) (w8f : ((Jvm.Cond.interfaceMethod xi.cls xi.cls xi.name xi.desc).onTables && (Jvm.Cond.interfaceMethod xi.cls xi.cls xi.name xi.desc).keepsFace) = true) (w5 : (Jvm.Cond.selects C xi y).before a0 Z = true) (w6 : (Jvm.Cond.instanceMethod y).before a0 Z = true) (w9 : (Jvm.Cond.publicMethod y).before a0 Z = true) (w10 : (Jvm.Cond.unhidden C xi.name xi.desc).before a0 Z = true) (w11 : (Jvm.Cond.castable C xi.cls).before a0 Z = true) (w3 : (Jvm.Cond.initialized y.cls).before a0 Z = true) (w4 : (Jvm.Cond.code y yb yl yr).before a0 Z = true)
    (hy : xi.cls ≠ "java/lang/invoke/MethodHandle" ∧ xi.cls ≠ "java/lang/invoke/VarHandle") (a : Addr) (E : Exa Z h a C) (argsL rest : List Value) {ps : List FieldType} {r : Option FieldType} (hpd : parseMethodDescriptor xi.desc = some ⟨ps, r⟩) (hlen : argsL.length = ps.length) {pc : Nat} {Ls : Array Slot} {stk : List Value}
    (hstk : stk = argsL.reverse ++ .ref a :: rest) (has : (.ref a :: argsL).toArray = as') (hsize : Ls.size = maxL) (hd : decode bytes pc = .ok (.invokeinterface index count, 5)) (hf : rm.frames + 1 ≤ R.frames) (hl : (rest.map fun v => v.category).sum + (yl + 11) + rm.locals ≤ R.locals) (hc : cells + rm.cells ≤ R.cells) (hs : slots + rm.slots ≤ R.slots)
    (k : ∀ (T' : State) (L : List Loc) (v : Option Value), Stand p l e R s m args below meth c T' (locs ++ L) (cells + rm.cells) (slots + rm.slots) → Q' v T'.heap L → own_Fin p e below P T' (mkF m (pc + 5) Ls (v.toList ++ rest))) :
    own_Fin p e below P T (mkF m pc Ls stk) := by
  obtain ⟨hx, hZ, hby, hml, hown, hret, hlk, hnm⟩ := K
  obtain ⟨cq, kq, qa, qb, qc⟩ := isOf hZ eT E
  obtain ⟨v, _, ⟨T', L', k', n'⟩, -, X', ⟨L, hQ, l1, l2, l3⟩, st⟩ := X.interfaceBack hx (xi := xi) (y := y) hown (mvT hZ w1) (mvT hZ w2) (mvT hZ w8 w8f) (mvT hZ w5) (mvT hZ w6) (mvT hZ w9) (mvT hZ w10) (mvT hZ w11) hy (backOf (W := (rest.map fun v => v.category).sum) (M []) hZ w4 w3 hf hl) qa qb qc (g := mkF m pc Ls stk) rfl (hsize.trans hml.symm) (Steps.refl _) (argsL := argsL) (rest := rest) (lenOf hpd hlen) hstk (by show 2 * 0 + _ ≤ _; omega) (hb hby hd) (fun _ _ => ⟨has, eT, hc, hs⟩)
  dsimp only [Pt.U, Pt.locs, Pt.cells, Pt.slots] at X' l1 l2 l3 st hQ
  subst l1 l2 l3
  exact own_seg (fun t q => st.trans q) (k T' L v X' hQ)
/-! fields, objects -/
theorem own_getF (K : own_Ctx p Z s m meth c cls bytes maxL ret nm) (X : Stand p l e R s m args below meth c T locs cells slots) (eT : T.heap = h) {index : Nat} {R0 O n d host : String} {a : Addr} {v : Value} (w : (Jvm.Cond.fieldLink cls index R0 n d).before a0 Z = true ∨ (Jvm.Cond.fieldLinkNest cls index R0 n d host).before a0 Z = true) (via : Via Z R0 O n d) (F : Fld Z h a O n d v)
    {pc : Nat} {Ls : Array Slot} {rest : List Value} (hd : decode bytes pc = .ok (.getfield index, 3)) (k : ∀ T', Stand p l e R s m args below meth c T' locs cells slots → T'.heap = h → own_Fin p e below P T' (mkF m (pc + 3) Ls (v :: rest))) : own_Fin p e below P T (mkF m pc Ls (.ref a :: rest)) := by
  obtain ⟨hx, hZ, hby, hml, hown, hret, hlk, hnm⟩ := K
  obtain ⟨T', X', e', st⟩ := getF X hx hZ hown w via eT F (g := mkF m pc Ls (.ref a :: rest)) rfl rfl (hb hby hd)
  exact own_seg st (k T' X' e')
theorem own_putF (K : own_Ctx p Z s m meth c cls bytes maxL ret nm) (X : Stand p l e R s m args below meth c T locs cells slots) (eT : T.heap = h) {index kk : Nat} {R0 O n d host C : String} {a : Addr} {v old : Value} {ty : FieldType} (w : (Jvm.Cond.fieldLink cls index R0 n d).before a0 Z = true ∨ (Jvm.Cond.fieldLinkNest cls index R0 n d host).before a0 Z = true) (via : Via Z R0 O n d) (F : Fld Z h a O n d old) (E : Exa Z h a C)
    (L : (Jvm.Cond.lays C O n d).before a0 Z = true ∨ ((Jvm.Cond.laysFinal C O n d).before a0 Z = true ∧ cls = O ∧ nm = "<init>")) (wi : (Jvm.Cond.instantiable C kk).before a0 Z = true) (hty : parseFieldDescriptor d = some ty) (hn : narrow ty v = v) (hf : fits ty v = true)
    {pc : Nat} {Ls : Array Slot} {rest : List Value} (hd : decode bytes pc = .ok (.putfield index, 3)) (k : ∀ T' h', Stand p l e R s m args below meth c T' (locs ++ [⟨a, Jvm.RoadKit.slotOf Z O n d⟩]) cells slots → T'.heap = h' → Wr h h' a (Jvm.RoadKit.slotOf Z O n d) v → own_Fin p e below P T' (mkF m (pc + 3) Ls rest)) : own_Fin p e below P T (mkF m pc Ls (v :: .ref a :: rest)) := by
  obtain ⟨hx, hZ, hby, hml, hown, hret, hlk, hnm⟩ := K
  obtain ⟨T', h', X', e', W, st⟩ := putF X hx hZ hown w via eT F E (L.imp id fun q => ⟨q.1, q.2.1, hnm.trans q.2.2⟩) wi hty hn hf (g := mkF m pc Ls (v :: .ref a :: rest)) rfl rfl (hb hby hd)
  exact own_seg st (k T' h' X' e' W)
theorem own_newO (K : own_Ctx p Z s m meth c cls bytes maxL ret nm) (X : Stand p l e R s m args below meth c T locs cells slots) (eT : T.heap = h) {C : String} {index n : Nat} (w : (Jvm.Cond.classLink cls index C).before a0 Z = true) (wi : (Jvm.Cond.instantiable C n).before a0 Z = true) (wz : (Jvm.Cond.initialized C).before a0 Z = true)
    {pc : Nat} {Ls : Array Slot} {stk : List Value} (hd : decode bytes pc = .ok (.new index, 3)) (hc : cells + 1 ≤ R.cells) (hl : slots + n ≤ R.slots)
    (k : ∀ T' h' a, a = h.size → Stand p l e R s m args below meth c T' locs (cells + 1) (slots + n) → T'.heap = h' → Ext h h' → Exa Z h' a C → (∀ {O nm d : String} {ty : FieldType}, Laid Z a0 C O nm d → parseFieldDescriptor d = some ty → Fld Z h' a O nm d (defaultValue ty)) → own_Fin p e below P T' (mkF m (pc + 3) Ls (.ref a :: stk))) : own_Fin p e below P T (mkF m pc Ls stk) := by
  obtain ⟨hx, hZ, hby, hml, hown, hret, hlk, hnm⟩ := K
  obtain ⟨T', h', X', e', E, A, D, -, st⟩ := newO X hx hZ hown w wi wz eT (g := mkF m pc Ls stk) rfl (hb hby hd) hc hl
  exact own_seg st (k T' h' _ rfl X' e' E A D)
theorem own_initO (K : own_Ctx p Z s m meth c cls bytes maxL ret nm) (X : Stand p l e R s m args below meth c T locs cells slots) (eT : T.heap = h) {index : Nat} (w1 : (Jvm.Cond.methodLink cls index Lib.objectInit).before a0 Z = true) (w2 : (Jvm.Cond.instanceMethod Lib.objectInit).before a0 Z = true) (w3 : (Jvm.Cond.code Lib.objectInit ⟨#[0xb1]⟩ 1 none).before a0 Z = true)
    {pc : Nat} {Ls : Array Slot} {a : Addr} {rest : List Value} (hsize : Ls.size = maxL) (hd : decode bytes pc = .ok (.invokespecial index, 3)) (hf : 1 ≤ R.frames) (hl : (rest.map fun v => v.category).sum + 12 ≤ R.locals)
    (k : ∀ T', Stand p l e R s m args below meth c T' locs cells slots → T'.heap = h → own_Fin p e below P T' (mkF m (pc + 3) Ls rest)) : own_Fin p e below P T (mkF m pc Ls (.ref a :: rest)) := by
  obtain ⟨hx, hZ, hby, hml, hown, hret, hlk, hnm⟩ := K
  obtain ⟨T', X', e', st⟩ := initO X hx hZ hown w1 w2 w3 eT (g := mkF m pc Ls (.ref a :: rest)) rfl (hsize.trans hml.symm) rfl (hb hby hd) hf (W := (rest.map fun v => v.category).sum) (by show 2 * 0 + _ ≤ _; omega) hl
  exact own_seg st (k T' X' e')
theorem own_getS (K : own_Ctx p Z s m meth c cls bytes maxL ret nm) (X : Stand p l e R s m args below meth c T locs cells slots) (eT : T.heap = h) {index : Nat} {R0 O n d host : String} {v : Value} (w : (Jvm.Cond.fieldLink cls index R0 n d).before a0 Z = true ∨ (Jvm.Cond.fieldLinkNest cls index R0 n d host).before a0 Z = true) (via : Via Z R0 O n d) (F : Sta Z h O n d v)
    {pc : Nat} {Ls : Array Slot} {stk : List Value} (hd : decode bytes pc = .ok (.getstatic index, 3)) (k : ∀ T', Stand p l e R s m args below meth c T' locs cells slots → T'.heap = h → own_Fin p e below P T' (mkF m (pc + 3) Ls (v :: stk))) : own_Fin p e below P T (mkF m pc Ls stk) := by
  obtain ⟨hx, hZ, hby, hml, hown, hret, hlk, hnm⟩ := K
  obtain ⟨T', X', e', st⟩ := getS2 X hx hZ hown w via eT F (g := mkF m pc Ls stk) rfl (hb hby hd)
  exact own_seg st (k T' X' e')
end Own
/-! ## what an object's fields hold, all at once -/
def own_Obj (Z : State) (h : Heap) (a : Addr) (C : String) (fs : List (String × String × String × Value)) : Prop := Exa Z h a C ∧ ∀ q ∈ fs, Fld Z h a q.1 q.2.1 q.2.2.1 q.2.2.2
def own_Lay (Z : State) (a0 : Array Value) (C : String) (fs : List (String × String × String)) : Prop := ∀ q ∈ fs, Laid Z a0 C q.1 q.2.1 q.2.2 ∧ ∃ t, parseFieldDescriptor q.2.2 = some t
section Obj
variable {Z : State} {a0 : Array Value} {h h' : Heap} {a b : Addr} {C : String} {fs : List (String × String × String × Value)} {ws : List Addr} {sl : Nat} {v : Value}
theorem own_Obj.exa (O : own_Obj Z h a C fs) : Exa Z h a C := O.1
theorem own_Obj.lt (O : own_Obj Z h a C fs) : a < h.size := O.1.lt
theorem own_Obj.get (O : own_Obj Z h a C fs) (i : Nat) {q : String × String × String × Value} (hi : fs[i]? = some q) : Fld Z h a q.1 q.2.1 q.2.2.1 q.2.2.2 := O.2 q (List.mem_of_getElem? hi)
theorem own_Obj.ext (O : own_Obj Z h a C fs) (E : Ext h h') : own_Obj Z h' a C fs := ⟨O.1.ext E, fun q hq => (O.2 q hq).ext E⟩
theorem own_Obj.keep (O : own_Obj Z h a C fs) (K : Keep h h' ws) (n : a ∉ ws) : own_Obj Z h' a C fs := ⟨O.1.keep K, fun q hq => (O.2 q hq).keep K n⟩
theorem own_Obj.other (O : own_Obj Z h b C fs) (W : Wr h h' a sl v) (n : b ≠ a) : own_Obj Z h' b C fs := ⟨O.1.wr W, fun q hq => (O.2 q hq).other W (Or.inl n)⟩
theorem own_Obj.put (O : own_Obj Z h a C fs) {ls : List (String × String × String)} (Y : own_Lay Z a0 C ls) (hls : fs.map (fun q => (q.1, q.2.1, q.2.2.1)) = ls) (hnd : (ls.map (fun q => q.2.1)).Nodup) (i : Nat) {O' n d : String} {old : Value} (hi : fs[i]? = some (O', n, d, old)) (W : Wr h h' a (Jvm.RoadKit.slotOf Z O' n d) v) : own_Obj Z h' a C (fs.set i (O', n, d, v)) := by
  subst hls
  refine ⟨O.1.wr W, fun q hq => ?_⟩
  obtain ⟨j, hj⟩ := List.mem_iff_getElem?.mp hq
  by_cases e : i = j
  · subst e
    have hlt : i < fs.length := (List.getElem?_eq_some_iff.mp hi).1
    rw [List.getElem?_set_self hlt] at hj
    cases hj
    exact (O.get i hi).same W
  · rw [List.getElem?_set_ne e] at hj
    refine (O.get j hj).other W (Or.inr ?_)
    obtain ⟨L1, t1, p1⟩ := Y (q.1, q.2.1, q.2.2.1) (List.mem_map.mpr ⟨q, List.mem_of_getElem? hj, rfl⟩)
    obtain ⟨L2, t2, p2⟩ := Y (O', n, d) (List.mem_map.mpr ⟨(O', n, d, old), List.mem_of_getElem? hi, rfl⟩)
    refine slot_ne L1 L2 ?_ p1 p2
    intro en
    apply e
    rw [List.map_map] at hnd
    have k1 : (fs.map ((fun q : String × String × String => q.2.1) ∘ fun q : String × String × String × Value => (q.1, q.2.1, q.2.2.1)))[i]? = some n := by rw [List.getElem?_map, hi]; rfl
    have k2 : (fs.map ((fun q : String × String × String => q.2.1) ∘ fun q : String × String × String × Value => (q.1, q.2.1, q.2.2.1)))[j]? = some n := by rw [List.getElem?_map, hj, ← en]; rfl
    exact (List.getElem?_inj (List.getElem?_eq_some_iff.mp k1).1 hnd).mp (k1.trans k2.symm)
end Obj
/-! ## an array by the list of all that it holds -/
def own_Arr (Z : State) (h : Heap) (a : Addr) (ty : FieldType) (vs : List Value) : Prop := ∃ cl : Cell, Arr Z h a cl ty ∧ cl.slots.toList = vs
section Arrs
variable {p : Program} {l : Launch} {e : Env} {R : Room} {s : State} {m : MethodId} {args : Array Value} {below : List Frame} {meth : Method} {c : Code} {T : State} {locs : List Loc} {cells slots : Nat} {Z : State} {a0 : Array Value} {h h' : Heap}
  {P : Outcome → State → Prop} {cls : String} {bytes : ByteArray} {maxL : Nat} {ret : Option FieldType} {nm : String} {a b : Addr} {ty : FieldType} {vs : List Value} {ws : List Addr} {sl : Nat} {v : Value}
theorem own_Arr.lt (A : own_Arr Z h a ty vs) : a < h.size := by obtain ⟨cl, A, -⟩ := A; exact A.lt
theorem own_Arr.ext (A : own_Arr Z h a ty vs) (E : Ext h h') : own_Arr Z h' a ty vs := by obtain ⟨cl, A, q⟩ := A; exact ⟨cl, A.ext E, q⟩
theorem own_Arr.other (A : own_Arr Z h b ty vs) (W : Wr h h' a sl v) (n : b ≠ a) : own_Arr Z h' b ty vs := by obtain ⟨cl, A, q⟩ := A; exact ⟨cl, A.other W n, q⟩
theorem own_Arr.keep (A : own_Arr Z h a ty vs) (K : Keep h h' ws) (n : a ∉ ws) : own_Arr Z h' a ty vs := by obtain ⟨cl, A, q⟩ := A; exact ⟨cl, ⟨K.2.1 a cl A.1 n, A.2⟩, q⟩
theorem own_Arr.set (A : own_Arr Z h a ty vs) (W : Wr h h' a sl v) : own_Arr Z h' a ty (vs.set sl v) := by
  obtain ⟨cl, A, q⟩ := A
  exact ⟨_, A.same W, by simp [Cell.setSlot, q]⟩
theorem own_Arr.new {cA : ClassId} {n : Int32} (A : Arr Z h a (newA cA ty n) ty) : own_Arr Z h a ty (List.replicate n.toNatClampNeg (defaultValue ty)) := ⟨_, A, by simp [newA]⟩
theorem own_at {cl : Cell} (q : cl.slots.toList = vs) {i : Nat} (hv : vs[i]? = some v) : cl.slots[i]? = some v := by rw [← hv, ← q, Array.getElem?_toList]
theorem own_in {cl : Cell} (q : cl.slots.toList = vs) {j : Int32} (hj : ¬ j < 0) (hv : vs[j.toNatClampNeg]? = some v) : ¬ (j < 0 ∨ cl.slots.size ≤ j.toNatClampNeg) := by
  rintro (r | r)
  · exact hj r
  · have := (Array.getElem?_eq_some_iff.mp (own_at q hv)).1; omega
theorem own_iaload (K : own_Ctx p Z s m meth c cls bytes maxL ret nm) (X : Stand p l e R s m args below meth c T locs cells slots) (eT : T.heap = h) (A : own_Arr Z h a .int vs) {j : Int32} (hj : ¬ j < 0) (hv : vs[j.toNatClampNeg]? = some v)
    {pc : Nat} {Ls : Array Slot} {rest : List Value} (hd : decode bytes pc = .ok (.iaload, 1)) (k : own_Fin p e below P T (mkF m (pc + 1) Ls (v :: rest))) : own_Fin p e below P T (mkF m pc Ls (.int j :: .ref a :: rest)) := by
  obtain ⟨hx, hZ, hby, -⟩ := K
  obtain ⟨cl, A, q⟩ := A
  exact own_seg (fun t u => X.iaload hx (j := j) (v := v) (by rw [eT]; exact A.1) (State.isArrayOf_alike hZ.alike A.2.1) A.2.2 (own_in q hj hv) (own_at q hv) (g := mkF m pc Ls (.int j :: .ref a :: rest)) rfl rfl (hb hby hd) t u) k
theorem own_laload (K : own_Ctx p Z s m meth c cls bytes maxL ret nm) (X : Stand p l e R s m args below meth c T locs cells slots) (eT : T.heap = h) (A : own_Arr Z h a .long vs) {j : Int32} (hj : ¬ j < 0) (hv : vs[j.toNatClampNeg]? = some v)
    {pc : Nat} {Ls : Array Slot} {rest : List Value} (hd : decode bytes pc = .ok (.laload, 1)) (k : own_Fin p e below P T (mkF m (pc + 1) Ls (v :: rest))) : own_Fin p e below P T (mkF m pc Ls (.int j :: .ref a :: rest)) := by
  obtain ⟨hx, hZ, hby, -⟩ := K
  obtain ⟨cl, A, q⟩ := A
  exact own_seg (fun t u => X.laload hx (j := j) (v := v) (by rw [eT]; exact A.1) (State.isArrayOf_alike hZ.alike A.2.1) A.2.2 (own_in q hj hv) (own_at q hv) (g := mkF m pc Ls (.int j :: .ref a :: rest)) rfl rfl (hb hby hd) t u) k
theorem own_alen (K : own_Ctx p Z s m meth c cls bytes maxL ret nm) (X : Stand p l e R s m args below meth c T locs cells slots) (eT : T.heap = h) (A : own_Arr Z h a ty vs) {n : Int32} (hn : vs.length.toInt32 = n)
    {pc : Nat} {Ls : Array Slot} {rest : List Value} (hd : decode bytes pc = .ok (.arraylength, 1)) (k : own_Fin p e below P T (mkF m (pc + 1) Ls (.int n :: rest))) : own_Fin p e below P T (mkF m pc Ls (.ref a :: rest)) := by
  obtain ⟨hx, hZ, hby, -⟩ := K
  obtain ⟨cl, A, q⟩ := A
  subst q hn
  rw [Array.length_toList] at k
  exact own_seg (fun t u => X.arraylength hx (by rw [eT]; exact A.1) (State.isArrayOf_alike hZ.alike A.2.1) (g := mkF m pc Ls (.ref a :: rest)) rfl rfl (hb hby hd) t u) k
theorem own_iastore (K : own_Ctx p Z s m meth c cls bytes maxL ret nm) (X : Stand p l e R s m args below meth c T locs cells slots) (eT : T.heap = h) (A : own_Arr Z h a .int vs) {j x : Int32} (hj : ¬ j < 0) (hv : j.toNatClampNeg < vs.length)
    {pc : Nat} {Ls : Array Slot} {rest : List Value} (hd : decode bytes pc = .ok (.iastore, 1)) (k : ∀ T' h', Stand p l e R s m args below meth c T' (locs ++ [⟨a, j.toNatClampNeg⟩]) cells slots → T'.heap = h' → Wr h h' a j.toNatClampNeg (.int x) → own_Fin p e below P T' (mkF m (pc + 1) Ls rest)) : own_Fin p e below P T (mkF m pc Ls (.int x :: .int j :: .ref a :: rest)) := by
  obtain ⟨hx, hZ, hby, -⟩ := K
  obtain ⟨cl, A, q⟩ := A
  obtain ⟨T', h', X', e', W, st⟩ := stI X hx hZ eT A (j := j) (x := x) (own_in q hj (List.getElem?_eq_getElem hv)) (g := mkF m pc Ls (.int x :: .int j :: .ref a :: rest)) rfl rfl (hb hby hd)
  exact own_seg st (k T' h' X' e' W)
theorem own_lastore (K : own_Ctx p Z s m meth c cls bytes maxL ret nm) (X : Stand p l e R s m args below meth c T locs cells slots) (eT : T.heap = h) (A : own_Arr Z h a .long vs) {j : Int32} {x : Int64} (hj : ¬ j < 0) (hv : j.toNatClampNeg < vs.length)
    {pc : Nat} {Ls : Array Slot} {rest : List Value} (hd : decode bytes pc = .ok (.lastore, 1)) (k : ∀ T' h', Stand p l e R s m args below meth c T' (locs ++ [⟨a, j.toNatClampNeg⟩]) cells slots → T'.heap = h' → Wr h h' a j.toNatClampNeg (.long x) → own_Fin p e below P T' (mkF m (pc + 1) Ls rest)) : own_Fin p e below P T (mkF m pc Ls (.long x :: .int j :: .ref a :: rest)) := by
  obtain ⟨hx, hZ, hby, -⟩ := K
  obtain ⟨cl, A, q⟩ := A
  obtain ⟨T', h', X', e', W, st⟩ := stJ X hx hZ eT A (j := j) (x := x) (own_in q hj (List.getElem?_eq_getElem hv)) (g := mkF m pc Ls (.long x :: .int j :: .ref a :: rest)) rfl rfl (hb hby hd)
  exact own_seg st (k T' h' X' e' W)
theorem own_newP (K : own_Ctx p Z s m meth c cls bytes maxL ret nm) (X : Stand p l e R s m args below meth c T locs cells slots) (eT : T.heap = h) {aty : ArrayType} (w : (Jvm.Cond.arrayClass (newarray.typeOf aty)).before a0 Z = true) {n : Int32} (hn : ¬ n < 0) (cap : Nat) (hcap : n.toNatClampNeg ≤ cap) (hcb : cap * 8 ≤ 536870912)
    {pc : Nat} {Ls : Array Slot} {rest : List Value} (hd : decode bytes pc = .ok (.newarray aty, 2)) (hc : cells + 1 ≤ R.cells) (hl : slots + cap ≤ R.slots)
    (k : ∀ T' h' a, a = h.size → Stand p l e R s m args below meth c T' locs (cells + 1) (slots + cap) → T'.heap = h' → Ext h h' → own_Arr Z h' a (newarray.typeOf aty) (List.replicate n.toNatClampNeg (defaultValue (newarray.typeOf aty))) → own_Fin p e below P T' (mkF m (pc + 2) Ls (.ref a :: rest))) : own_Fin p e below P T (mkF m pc Ls (.int n :: rest)) := by
  obtain ⟨hx, hZ, hby, -⟩ := K
  obtain ⟨T', h', cA, X', e', E, A, st⟩ := newP X hx hZ w eT (g := mkF m pc Ls (.int n :: rest)) rfl (hb hby hd) rfl hn hcap hcb hc hl
  exact own_seg st (k T' h' _ rfl X' e' E (own_Arr.new A))
end Arrs
/-! ## an array of references, of which only the class and the length are told; a list of ints by a function -/
def own_RArr (Z : State) (h : Heap) (a : Addr) (C : String) (n : Nat) : Prop := ∃ cl : Cell, Arr Z h a cl (.object C) ∧ cl.slots.size = n ∧ Ovr Z cl.cls C
section RArrs
variable {p : Program} {l : Launch} {e : Env} {R : Room} {s : State} {m : MethodId} {args : Array Value} {below : List Frame} {meth : Method} {c : Code} {T : State} {locs : List Loc} {cells slots : Nat} {Z : State} {a0 : Array Value} {h h' : Heap}
  {P : Outcome → State → Prop} {cls : String} {bytes : ByteArray} {maxL : Nat} {ret : Option FieldType} {nm : String} {a b : Addr} {C : String} {n : Nat} {ws : List Addr} {sl : Nat} {v : Value}
theorem own_RArr.lt (A : own_RArr Z h a C n) : a < h.size := by obtain ⟨cl, A, -⟩ := A; exact A.lt
theorem own_RArr.ext (A : own_RArr Z h a C n) (E : Ext h h') : own_RArr Z h' a C n := by obtain ⟨cl, A, q⟩ := A; exact ⟨cl, A.ext E, q⟩
theorem own_RArr.other (A : own_RArr Z h b C n) (W : Wr h h' a sl v) (q : b ≠ a) : own_RArr Z h' b C n := by obtain ⟨cl, A, r⟩ := A; exact ⟨cl, A.other W q, r⟩
theorem own_RArr.keep (A : own_RArr Z h a C n) (K : Keep h h' ws) (q : a ∉ ws) : own_RArr Z h' a C n := by obtain ⟨cl, A, r⟩ := A; exact ⟨cl, ⟨K.2.1 a cl A.1 q, A.2⟩, r⟩
theorem own_RArr.set (A : own_RArr Z h a C n) (W : Wr h h' a sl v) : own_RArr Z h' a C n := by obtain ⟨cl, A, r1, r2⟩ := A; exact ⟨_, A.same W, by rw [sz_set]; exact r1, r2⟩
theorem own_aastore (K : own_Ctx p Z s m meth c cls bytes maxL ret nm) (X : Stand p l e R s m args below meth c T locs cells slots) (eT : T.heap = h) (A : own_RArr Z h a C n) {j : Int32} (hj : ¬ j < 0) (hv : j.toNatClampNeg < n) (F : v = .null ∨ ∃ y, v = .ref y ∧ Ins Z h y C true)
    {pc : Nat} {Ls : Array Slot} {rest : List Value} (hd : decode bytes pc = .ok (.aastore, 1)) (k : ∀ T' h', Stand p l e R s m args below meth c T' (locs ++ [⟨a, j.toNatClampNeg⟩]) cells slots → T'.heap = h' → Wr h h' a j.toNatClampNeg v → own_Fin p e below P T' (mkF m (pc + 1) Ls rest)) : own_Fin p e below P T (mkF m pc Ls (v :: .int j :: .ref a :: rest)) := by
  obtain ⟨hx, hZ, hby, -⟩ := K
  obtain ⟨cl, A, r1, r2⟩ := A
  have S : Sto Z h a v := by
    rcases F with rfl | ⟨y, rfl, I⟩
    · exact Or.inl rfl
    · exact Sto.of A r2 I
  obtain ⟨T', h', X', e', W, st⟩ := stR X hx hZ eT A (j := j) (v := v) (fun q => q.elim hj (fun q => by omega)) rfl S (g := mkF m pc Ls (v :: .int j :: .ref a :: rest)) rfl rfl (hb hby hd)
  exact own_seg st (k T' h' X' e' W)
theorem own_newR (K : own_Ctx p Z s m meth c cls bytes maxL ret nm) (X : Stand p l e R s m args below meth c T locs cells slots) (eT : T.heap = h) {index : Nat} (w1 : (Jvm.Cond.classLink cls index C).before a0 Z = true) (w2 : (Jvm.Cond.arrayOver (.object C)).before a0 Z = true) {z : Int32} (hn : ¬ z < 0) (cap : Nat) (hcap : z.toNatClampNeg = cap) (hcb : cap * 8 ≤ 536870912)
    {pc : Nat} {Ls : Array Slot} {rest : List Value} (hd : decode bytes pc = .ok (.anewarray index, 3)) (hc : cells + 1 ≤ R.cells) (hl : slots + cap ≤ R.slots)
    (k : ∀ T' h' a, a = h.size → Stand p l e R s m args below meth c T' locs (cells + 1) (slots + cap) → T'.heap = h' → Ext h h' → own_RArr Z h' a C cap → own_Fin p e below P T' (mkF m (pc + 3) Ls (.ref a :: rest))) : own_Fin p e below P T (mkF m pc Ls (.int z :: rest)) := by
  obtain ⟨hx, hZ, hby, hml, hown, -⟩ := K
  obtain ⟨T', h', cA, X', e', E, A, O, st⟩ := newR X hx hZ hown w1 w2 eT (g := mkF m pc Ls (.int z :: rest)) rfl (hb hby hd) rfl hn (Nat.le_of_eq hcap) hcb hc hl
  exact own_seg st (k T' h' _ rfl X' e' E ⟨_, A, by rw [sz_new]; exact hcap, O⟩)
end RArrs
def own_L (n : Nat) (f : Nat → Int32) : List Value := (List.range n).map fun i => Value.int (f i)
theorem own_L_len (n : Nat) (f : Nat → Int32) : (own_L n f).length = n := by simp [own_L]
theorem own_L_at {n : Nat} {f : Nat → Int32} {i : Nat} (h : i < n) : (own_L n f)[i]? = some (.int (f i)) := by simp [own_L, h]
theorem own_L_set {n : Nat} {f : Nat → Int32} {i : Nat} {v : Int32} (h : i < n) : (own_L n f).set i (.int v) = own_L n (fun j => if j = i then v else f j) := by
  apply List.ext_getElem?
  intro j
  by_cases e : i = j
  · subst e
    rw [List.getElem?_set_self (by rw [own_L_len]; exact h), own_L_at h, if_pos rfl]
  · rw [List.getElem?_set_ne e]
    by_cases q : j < n
    · rw [own_L_at q, own_L_at q, if_neg (Ne.symm e)]
    · rw [List.getElem?_eq_none (by rw [own_L_len]; omega), List.getElem?_eq_none (by rw [own_L_len]; omega)]
theorem own_L_rep (n : Nat) : List.replicate n (Value.int 0) = own_L n (fun _ => 0) := by
  apply List.ext_getElem?
  intro j
  by_cases q : j < n
  · rw [own_L_at q, List.getElem?_replicate, if_pos q]
  · rw [List.getElem?_replicate, if_neg q, List.getElem?_eq_none (by rw [own_L_len]; omega)]
def Q1 (Z : State) (a1 : Addr) (h0 : Heap) (n0 : Nat) (v : Option Value) (h : Heap) (L : List Loc) : Prop := v = none ∧ Fr n0 L ∧ Keep h0 h [a1] ∧ own_Obj Z h a1 "com/example/hapax/hapax/core/Tally$Span" [("com/example/hapax/hapax/core/Tally$Span", "workNanosMin", "J", (.long (9223372036854775807 : Int64))), ("com/example/hapax/hapax/core/Tally$Span", "executedStored", "J", (.long (0 : Int64))), ("com/example/hapax/hapax/core/Tally$Span", "executedReleased", "J", (.long (0 : Int64))), ("com/example/hapax/hapax/core/Tally$Span", "replayed", "J", (.long (0 : Int64))), ("com/example/hapax/hapax/core/Tally$Span", "inFlight", "J", (.long (0 : Int64))), ("com/example/hapax/hapax/core/Tally$Span", "keyReused", "J", (.long (0 : Int64))), ("com/example/hapax/hapax/core/Tally$Span", "leaseLost", "J", (.long (0 : Int64))), ("com/example/hapax/hapax/core/Tally$Span", "storeFailures", "J", (.long (0 : Int64))), ("com/example/hapax/hapax/core/Tally$Span", "worksTimed", "J", (.long (0 : Int64))), ("com/example/hapax/hapax/core/Tally$Span", "workNanosTotal", "J", (.long (0 : Int64))), ("com/example/hapax/hapax/core/Tally$Span", "workNanosMax", "J", (.long (0 : Int64)))]
theorem own_pn1 : plainName "com/example/hapax/hapax/core/Tally$Span" = true := by first | (simp [plainName, overriddenIn]; done) | decide +kernel
theorem d1_0 : decode prog_34_method_1_code 0 = .ok (.aload_n 0, 1) := by decide +kernel
theorem d1_1 : decode prog_34_method_1_code 1 = .ok (.invokespecial 1, 3) := by decide +kernel
theorem d1_4 : decode prog_34_method_1_code 4 = .ok (.aload_n 0, 1) := by decide +kernel
theorem d1_5 : decode prog_34_method_1_code 5 = .ok (.ldc2_w 9, 3) := by decide +kernel
theorem d1_8 : decode prog_34_method_1_code 8 = .ok (.putfield 11, 3) := by decide +kernel
theorem own_lay_Tally_Span {Z : State} {a0 : Array Value} (hw : ∀ d ∈ tables_1, d.before a0 Z = true) : own_Lay Z a0 "com/example/hapax/hapax/core/Tally$Span" [("com/example/hapax/hapax/core/Tally$Span", "workNanosMin", "J"), ("com/example/hapax/hapax/core/Tally$Span", "executedStored", "J"), ("com/example/hapax/hapax/core/Tally$Span", "executedReleased", "J"), ("com/example/hapax/hapax/core/Tally$Span", "replayed", "J"), ("com/example/hapax/hapax/core/Tally$Span", "inFlight", "J"), ("com/example/hapax/hapax/core/Tally$Span", "keyReused", "J"), ("com/example/hapax/hapax/core/Tally$Span", "leaseLost", "J"), ("com/example/hapax/hapax/core/Tally$Span", "storeFailures", "J"), ("com/example/hapax/hapax/core/Tally$Span", "worksTimed", "J"), ("com/example/hapax/hapax/core/Tally$Span", "workNanosTotal", "J"), ("com/example/hapax/hapax/core/Tally$Span", "workNanosMax", "J")] := by
  intro q hq
  simp only [List.mem_cons, List.not_mem_nil, or_false] at hq
  rcases hq with rfl | rfl | rfl | rfl | rfl | rfl | rfl | rfl | rfl | rfl | rfl
  · exact ⟨Or.inl (hw _ (List.mem_of_getElem? (i := 11) rfl)), _, (by decide : parseFieldDescriptor "J" = some .long)⟩
  · exact ⟨Or.inl (hw _ (List.mem_of_getElem? (i := 13) rfl)), _, (by decide : parseFieldDescriptor "J" = some .long)⟩
  · exact ⟨Or.inl (hw _ (List.mem_of_getElem? (i := 15) rfl)), _, (by decide : parseFieldDescriptor "J" = some .long)⟩
  · exact ⟨Or.inl (hw _ (List.mem_of_getElem? (i := 17) rfl)), _, (by decide : parseFieldDescriptor "J" = some .long)⟩
  · exact ⟨Or.inl (hw _ (List.mem_of_getElem? (i := 19) rfl)), _, (by decide : parseFieldDescriptor "J" = some .long)⟩
  · exact ⟨Or.inl (hw _ (List.mem_of_getElem? (i := 21) rfl)), _, (by decide : parseFieldDescriptor "J" = some .long)⟩
  · exact ⟨Or.inl (hw _ (List.mem_of_getElem? (i := 23) rfl)), _, (by decide : parseFieldDescriptor "J" = some .long)⟩
  · exact ⟨Or.inl (hw _ (List.mem_of_getElem? (i := 25) rfl)), _, (by decide : parseFieldDescriptor "J" = some .long)⟩
  · exact ⟨Or.inl (hw _ (List.mem_of_getElem? (i := 27) rfl)), _, (by decide : parseFieldDescriptor "J" = some .long)⟩
  · exact ⟨Or.inl (hw _ (List.mem_of_getElem? (i := 29) rfl)), _, (by decide : parseFieldDescriptor "J" = some .long)⟩
  · exact ⟨Or.inl (hw _ (List.mem_of_getElem? (i := 32) rfl)), _, (by decide : parseFieldDescriptor "J" = some .long)⟩
theorem own_nd_Tally_Span : ((([("com/example/hapax/hapax/core/Tally$Span", "workNanosMin", "J"), ("com/example/hapax/hapax/core/Tally$Span", "executedStored", "J"), ("com/example/hapax/hapax/core/Tally$Span", "executedReleased", "J"), ("com/example/hapax/hapax/core/Tally$Span", "replayed", "J"), ("com/example/hapax/hapax/core/Tally$Span", "inFlight", "J"), ("com/example/hapax/hapax/core/Tally$Span", "keyReused", "J"), ("com/example/hapax/hapax/core/Tally$Span", "leaseLost", "J"), ("com/example/hapax/hapax/core/Tally$Span", "storeFailures", "J"), ("com/example/hapax/hapax/core/Tally$Span", "worksTimed", "J"), ("com/example/hapax/hapax/core/Tally$Span", "workNanosTotal", "J"), ("com/example/hapax/hapax/core/Tally$Span", "workNanosMax", "J")] : List (String × String × String))).map (fun q => q.2.1)).Nodup := by decide +kernel
theorem d1_11 : decode prog_34_method_1_code 11 = .ok (.return_, 1) := by decide +kernel
set_option maxRecDepth 65536 in
set_option maxHeartbeats 40000000 in
theorem rm1 (l : Launch) (Z : State) (a0 : Array Value) (hw : ∀ d ∈ tables_1, d.before a0 Z = true) (a1 : Addr) (h0 : Heap) (n0 : Nat) (Z0 : n0 ≤ h0.size) (f_a1 : n0 ≤ a1) (O_a1 : own_Obj Z h0 a1 "com/example/hapax/hapax/core/Tally$Span" [("com/example/hapax/hapax/core/Tally$Span", "workNanosMin", "J", (.long (0 : Int64))), ("com/example/hapax/hapax/core/Tally$Span", "executedStored", "J", (.long (0 : Int64))), ("com/example/hapax/hapax/core/Tally$Span", "executedReleased", "J", (.long (0 : Int64))), ("com/example/hapax/hapax/core/Tally$Span", "replayed", "J", (.long (0 : Int64))), ("com/example/hapax/hapax/core/Tally$Span", "inFlight", "J", (.long (0 : Int64))), ("com/example/hapax/hapax/core/Tally$Span", "keyReused", "J", (.long (0 : Int64))), ("com/example/hapax/hapax/core/Tally$Span", "leaseLost", "J", (.long (0 : Int64))), ("com/example/hapax/hapax/core/Tally$Span", "storeFailures", "J", (.long (0 : Int64))), ("com/example/hapax/hapax/core/Tally$Span", "worksTimed", "J", (.long (0 : Int64))), ("com/example/hapax/hapax/core/Tally$Span", "workNanosTotal", "J", (.long (0 : Int64))), ("com/example/hapax/hapax/core/Tally$Span", "workNanosMax", "J", (.long (0 : Int64)))]) :
    own_Met l Z (⟨"com/example/hapax/hapax/core/Tally$Span", "<init>", "()V"⟩ : MethodName) prog_34_method_1_code 1 none ({ frames := 1, cells := 0, slots := 0, locals := 12 } : Room) #[(.ref a1)] h0 (Q1 Z a1 h0 n0) := by
  refine own_enter (plainFor_of_name own_pn1) (fun m => by first | (simp [entryFrame, mkF, argsToLocals, Value.category, maxLocals]; done) | rfl) (Ls := #[.val (.ref a1)]) ?_
  intro p e s m below meth c T0 K X0 e0
  have hx := K.1
  have hZ := K.2.1
  have hby := K.2.2.1
  have hown := K.2.2.2.2.1
  have N0 := Fr.nil n0
  have K0 : Keep h0 h0 [a1] := Keep.refl _ _
  show own_Fin p e below _ T0 (mkF m 0 #[.val (.ref a1)] [])
  refine own_seg (T' := T0) (g' := (mkF m 1 #[.val (.ref a1)] [(.ref a1)])) (fun tg kt => ?_) ?_
  · show Steps p.tables e below (T0.setTop (mkF m 0 #[.val (.ref a1)] [])) tg
    refine XS.aloadN X0.here hx rfl (hb hby d1_0) rfl rfl ?_
    exact kt
  refine own_initO K X0 e0 (hw _ (List.mem_of_getElem? (i := 6) rfl)) (hw _ (List.mem_of_getElem? (i := 7) rfl)) (hw _ (List.mem_of_getElem? (i := 8) rfl)) rfl d1_1 (by decide) (Nat.le_of_ble_eq_true rfl) ?_
  intro T1 X1 e1
  show own_Fin p e below _ T1 (mkF m 4 #[.val (.ref a1)] [])
  refine own_seg (T' := T1) (g' := (mkF m 8 #[.val (.ref a1)] [(.long (9223372036854775807 : Int64)), (.ref a1)])) (fun tg kt => ?_) ?_
  · show Steps p.tables e below (T1.setTop (mkF m 4 #[.val (.ref a1)] [])) tg
    refine XS.aloadN X1.here hx rfl (hb hby d1_4) rfl rfl ?_
    show Steps p.tables e below (T1.setTop (mkF m 5 #[.val (.ref a1)] [(.ref a1)])) tg
    refine X1.ldc2Long hx hown (mvT hZ (hw _ (List.mem_of_getElem? (i := 9) rfl))) (g := (mkF m 5 #[.val (.ref a1)] [(.ref a1)])) rfl (hb hby d1_5) _ ?_
    exact kt
  refine own_putF K X1 e1 (host := "") (Or.inl (hw _ (List.mem_of_getElem? (i := 10) rfl))) Via.refl (O_a1.get 0 rfl) O_a1.exa (Or.inl (hw _ (List.mem_of_getElem? (i := 11) rfl))) (hw _ (List.mem_of_getElem? (i := 1) rfl)) (ty := .long) (by decide) rfl rfl d1_8 ?_
  intro T2 h2 X2 e2 W2
  have O_a1_2 : own_Obj Z h2 a1 "com/example/hapax/hapax/core/Tally$Span" [("com/example/hapax/hapax/core/Tally$Span", "workNanosMin", "J", (.long (9223372036854775807 : Int64))), ("com/example/hapax/hapax/core/Tally$Span", "executedStored", "J", (.long (0 : Int64))), ("com/example/hapax/hapax/core/Tally$Span", "executedReleased", "J", (.long (0 : Int64))), ("com/example/hapax/hapax/core/Tally$Span", "replayed", "J", (.long (0 : Int64))), ("com/example/hapax/hapax/core/Tally$Span", "inFlight", "J", (.long (0 : Int64))), ("com/example/hapax/hapax/core/Tally$Span", "keyReused", "J", (.long (0 : Int64))), ("com/example/hapax/hapax/core/Tally$Span", "leaseLost", "J", (.long (0 : Int64))), ("com/example/hapax/hapax/core/Tally$Span", "storeFailures", "J", (.long (0 : Int64))), ("com/example/hapax/hapax/core/Tally$Span", "worksTimed", "J", (.long (0 : Int64))), ("com/example/hapax/hapax/core/Tally$Span", "workNanosTotal", "J", (.long (0 : Int64))), ("com/example/hapax/hapax/core/Tally$Span", "workNanosMax", "J", (.long (0 : Int64)))] := O_a1.put (own_lay_Tally_Span hw) rfl own_nd_Tally_Span 0 rfl W2
  have Z2 : n0 ≤ h2.size := by rw [Wr.size W2]; exact Z0
  have N2 := Fr.snoc X2 N0 f_a1
  have K2 := K0.wr W2 (Or.inl (List.mem_of_getElem? (i := 0) rfl))
  show own_Fin p e below _ T2 (mkF m 11 #[.val (.ref a1)] [])
  exact own_retV K X2 d1_11 (by rw [e2]; exact ⟨rfl, N2, K2, O_a1_2⟩) (by decide) (by decide)
def Q3 (Z : State) (a1 a2 : Addr) (q3 x0 x1 x2 x3 x4 x5 x6 x7 x8 x9 x10 : Int64) (h0 : Heap) (n0 : Nat) (v : Option Value) (h : Heap) (L : List Loc) : Prop := v = none ∧ Fr n0 L ∧ Keep h0 h [a1] ∧ own_Obj Z h a1 "com/example/hapax/hapax/core/Counts" [("com/example/hapax/hapax/core/Counts", "executedStored", "J", (.long x1)), ("com/example/hapax/hapax/core/Counts", "executedReleased", "J", (.long x2)), ("com/example/hapax/hapax/core/Counts", "replayed", "J", (.long x3)), ("com/example/hapax/hapax/core/Counts", "inFlight", "J", (.long x4)), ("com/example/hapax/hapax/core/Counts", "keyReused", "J", (.long x5)), ("com/example/hapax/hapax/core/Counts", "leaseLost", "J", (.long x6)), ("com/example/hapax/hapax/core/Counts", "storeFailures", "J", (.long x7)), ("com/example/hapax/hapax/core/Counts", "worksRunning", "J", (.long q3)), ("com/example/hapax/hapax/core/Counts", "worksTimed", "J", (.long x8)), ("com/example/hapax/hapax/core/Counts", "workNanosTotal", "J", (.long x9)), ("com/example/hapax/hapax/core/Counts", "workNanosMin", "J", (.long (if x8 = 0 then 0 else x0))), ("com/example/hapax/hapax/core/Counts", "workNanosMax", "J", (.long x10))]
theorem own_pn3 : plainName "com/example/hapax/hapax/core/Counts" = true := by first | (simp [plainName, overriddenIn]; done) | decide +kernel
theorem d3_0 : decode prog_9_method_1_code 0 = .ok (.aload_n 0, 1) := by decide +kernel
theorem d3_1 : decode prog_9_method_1_code 1 = .ok (.invokespecial 1, 3) := by decide +kernel
theorem d3_4 : decode prog_9_method_1_code 4 = .ok (.aload_n 0, 1) := by decide +kernel
theorem d3_5 : decode prog_9_method_1_code 5 = .ok (.aload_n 1, 1) := by decide +kernel
theorem d3_6 : decode prog_9_method_1_code 6 = .ok (.getfield 7, 3) := by decide +kernel
theorem d3_9 : decode prog_9_method_1_code 9 = .ok (.putfield 13, 3) := by decide +kernel
theorem own_lay_Counts {Z : State} {a0 : Array Value} (hw : ∀ d ∈ tables_1, d.before a0 Z = true) : own_Lay Z a0 "com/example/hapax/hapax/core/Counts" [("com/example/hapax/hapax/core/Counts", "executedStored", "J"), ("com/example/hapax/hapax/core/Counts", "executedReleased", "J"), ("com/example/hapax/hapax/core/Counts", "replayed", "J"), ("com/example/hapax/hapax/core/Counts", "inFlight", "J"), ("com/example/hapax/hapax/core/Counts", "keyReused", "J"), ("com/example/hapax/hapax/core/Counts", "leaseLost", "J"), ("com/example/hapax/hapax/core/Counts", "storeFailures", "J"), ("com/example/hapax/hapax/core/Counts", "worksRunning", "J"), ("com/example/hapax/hapax/core/Counts", "worksTimed", "J"), ("com/example/hapax/hapax/core/Counts", "workNanosTotal", "J"), ("com/example/hapax/hapax/core/Counts", "workNanosMin", "J"), ("com/example/hapax/hapax/core/Counts", "workNanosMax", "J")] := by
  intro q hq
  simp only [List.mem_cons, List.not_mem_nil, or_false] at hq
  rcases hq with rfl | rfl | rfl | rfl | rfl | rfl | rfl | rfl | rfl | rfl | rfl | rfl
  · exact ⟨Or.inr (hw _ (List.mem_of_getElem? (i := 42) rfl)), _, (by decide : parseFieldDescriptor "J" = some .long)⟩
  · exact ⟨Or.inr (hw _ (List.mem_of_getElem? (i := 45) rfl)), _, (by decide : parseFieldDescriptor "J" = some .long)⟩
  · exact ⟨Or.inr (hw _ (List.mem_of_getElem? (i := 48) rfl)), _, (by decide : parseFieldDescriptor "J" = some .long)⟩
  · exact ⟨Or.inr (hw _ (List.mem_of_getElem? (i := 51) rfl)), _, (by decide : parseFieldDescriptor "J" = some .long)⟩
  · exact ⟨Or.inr (hw _ (List.mem_of_getElem? (i := 54) rfl)), _, (by decide : parseFieldDescriptor "J" = some .long)⟩
  · exact ⟨Or.inr (hw _ (List.mem_of_getElem? (i := 57) rfl)), _, (by decide : parseFieldDescriptor "J" = some .long)⟩
  · exact ⟨Or.inr (hw _ (List.mem_of_getElem? (i := 60) rfl)), _, (by decide : parseFieldDescriptor "J" = some .long)⟩
  · exact ⟨Or.inr (hw _ (List.mem_of_getElem? (i := 62) rfl)), _, (by decide : parseFieldDescriptor "J" = some .long)⟩
  · exact ⟨Or.inr (hw _ (List.mem_of_getElem? (i := 65) rfl)), _, (by decide : parseFieldDescriptor "J" = some .long)⟩
  · exact ⟨Or.inr (hw _ (List.mem_of_getElem? (i := 68) rfl)), _, (by decide : parseFieldDescriptor "J" = some .long)⟩
  · exact ⟨Or.inr (hw _ (List.mem_of_getElem? (i := 71) rfl)), _, (by decide : parseFieldDescriptor "J" = some .long)⟩
  · exact ⟨Or.inr (hw _ (List.mem_of_getElem? (i := 74) rfl)), _, (by decide : parseFieldDescriptor "J" = some .long)⟩
theorem own_nd_Counts : ((([("com/example/hapax/hapax/core/Counts", "executedStored", "J"), ("com/example/hapax/hapax/core/Counts", "executedReleased", "J"), ("com/example/hapax/hapax/core/Counts", "replayed", "J"), ("com/example/hapax/hapax/core/Counts", "inFlight", "J"), ("com/example/hapax/hapax/core/Counts", "keyReused", "J"), ("com/example/hapax/hapax/core/Counts", "leaseLost", "J"), ("com/example/hapax/hapax/core/Counts", "storeFailures", "J"), ("com/example/hapax/hapax/core/Counts", "worksRunning", "J"), ("com/example/hapax/hapax/core/Counts", "worksTimed", "J"), ("com/example/hapax/hapax/core/Counts", "workNanosTotal", "J"), ("com/example/hapax/hapax/core/Counts", "workNanosMin", "J"), ("com/example/hapax/hapax/core/Counts", "workNanosMax", "J")] : List (String × String × String))).map (fun q => q.2.1)).Nodup := by decide +kernel
theorem d3_12 : decode prog_9_method_1_code 12 = .ok (.aload_n 0, 1) := by decide +kernel
theorem d3_13 : decode prog_9_method_1_code 13 = .ok (.aload_n 1, 1) := by decide +kernel
theorem d3_14 : decode prog_9_method_1_code 14 = .ok (.getfield 16, 3) := by decide +kernel
theorem d3_17 : decode prog_9_method_1_code 17 = .ok (.putfield 19, 3) := by decide +kernel
theorem d3_20 : decode prog_9_method_1_code 20 = .ok (.aload_n 0, 1) := by decide +kernel
theorem d3_21 : decode prog_9_method_1_code 21 = .ok (.aload_n 1, 1) := by decide +kernel
theorem d3_22 : decode prog_9_method_1_code 22 = .ok (.getfield 20, 3) := by decide +kernel
theorem d3_25 : decode prog_9_method_1_code 25 = .ok (.putfield 23, 3) := by decide +kernel
theorem d3_28 : decode prog_9_method_1_code 28 = .ok (.aload_n 0, 1) := by decide +kernel
theorem d3_29 : decode prog_9_method_1_code 29 = .ok (.aload_n 1, 1) := by decide +kernel
theorem d3_30 : decode prog_9_method_1_code 30 = .ok (.getfield 24, 3) := by decide +kernel
theorem d3_33 : decode prog_9_method_1_code 33 = .ok (.putfield 27, 3) := by decide +kernel
theorem d3_36 : decode prog_9_method_1_code 36 = .ok (.aload_n 0, 1) := by decide +kernel
theorem d3_37 : decode prog_9_method_1_code 37 = .ok (.aload_n 1, 1) := by decide +kernel
theorem d3_38 : decode prog_9_method_1_code 38 = .ok (.getfield 28, 3) := by decide +kernel
theorem d3_41 : decode prog_9_method_1_code 41 = .ok (.putfield 31, 3) := by decide +kernel
theorem d3_44 : decode prog_9_method_1_code 44 = .ok (.aload_n 0, 1) := by decide +kernel
theorem d3_45 : decode prog_9_method_1_code 45 = .ok (.aload_n 1, 1) := by decide +kernel
theorem d3_46 : decode prog_9_method_1_code 46 = .ok (.getfield 32, 3) := by decide +kernel
theorem d3_49 : decode prog_9_method_1_code 49 = .ok (.putfield 35, 3) := by decide +kernel
theorem d3_52 : decode prog_9_method_1_code 52 = .ok (.aload_n 0, 1) := by decide +kernel
theorem d3_53 : decode prog_9_method_1_code 53 = .ok (.aload_n 1, 1) := by decide +kernel
theorem d3_54 : decode prog_9_method_1_code 54 = .ok (.getfield 36, 3) := by decide +kernel
theorem d3_57 : decode prog_9_method_1_code 57 = .ok (.putfield 39, 3) := by decide +kernel
theorem d3_60 : decode prog_9_method_1_code 60 = .ok (.aload_n 0, 1) := by decide +kernel
theorem d3_61 : decode prog_9_method_1_code 61 = .ok (.lload_n 2, 1) := by decide +kernel
theorem d3_62 : decode prog_9_method_1_code 62 = .ok (.putfield 40, 3) := by decide +kernel
theorem d3_65 : decode prog_9_method_1_code 65 = .ok (.aload_n 0, 1) := by decide +kernel
theorem d3_66 : decode prog_9_method_1_code 66 = .ok (.aload_n 1, 1) := by decide +kernel
theorem d3_67 : decode prog_9_method_1_code 67 = .ok (.getfield 43, 3) := by decide +kernel
theorem d3_70 : decode prog_9_method_1_code 70 = .ok (.putfield 46, 3) := by decide +kernel
theorem d3_73 : decode prog_9_method_1_code 73 = .ok (.aload_n 0, 1) := by decide +kernel
theorem d3_74 : decode prog_9_method_1_code 74 = .ok (.aload_n 1, 1) := by decide +kernel
theorem d3_75 : decode prog_9_method_1_code 75 = .ok (.getfield 47, 3) := by decide +kernel
theorem d3_78 : decode prog_9_method_1_code 78 = .ok (.putfield 50, 3) := by decide +kernel
theorem d3_81 : decode prog_9_method_1_code 81 = .ok (.aload_n 0, 1) := by decide +kernel
theorem d3_82 : decode prog_9_method_1_code 82 = .ok (.aload_n 1, 1) := by decide +kernel
theorem d3_83 : decode prog_9_method_1_code 83 = .ok (.getfield 43, 3) := by decide +kernel
theorem d3_86 : decode prog_9_method_1_code 86 = .ok (.lconst 0, 1) := by decide +kernel
theorem d3_87 : decode prog_9_method_1_code 87 = .ok (.lcmp, 1) := by decide +kernel
theorem d3_88 : decode prog_9_method_1_code 88 = .ok (.ifCond .ne 7, 3) := by decide +kernel
theorem d3_91 : decode prog_9_method_1_code 91 = .ok (.lconst 0, 1) := by decide +kernel
theorem d3_92 : decode prog_9_method_1_code 92 = .ok (.goto 7, 3) := by decide +kernel
theorem d3_99 : decode prog_9_method_1_code 99 = .ok (.putfield 54, 3) := by decide +kernel
theorem d3_102 : decode prog_9_method_1_code 102 = .ok (.aload_n 0, 1) := by decide +kernel
theorem d3_103 : decode prog_9_method_1_code 103 = .ok (.aload_n 1, 1) := by decide +kernel
theorem d3_104 : decode prog_9_method_1_code 104 = .ok (.getfield 55, 3) := by decide +kernel
theorem d3_107 : decode prog_9_method_1_code 107 = .ok (.putfield 58, 3) := by decide +kernel
theorem d3_110 : decode prog_9_method_1_code 110 = .ok (.return_, 1) := by decide +kernel
theorem d3_95 : decode prog_9_method_1_code 95 = .ok (.aload_n 1, 1) := by decide +kernel
theorem d3_96 : decode prog_9_method_1_code 96 = .ok (.getfield 51, 3) := by decide +kernel
set_option maxRecDepth 65536 in
set_option maxHeartbeats 40000000 in
theorem rm3 (l : Launch) (Z : State) (a0 : Array Value) (hw : ∀ d ∈ tables_1, d.before a0 Z = true) (a1 a2 : Addr) (q3 x0 x1 x2 x3 x4 x5 x6 x7 x8 x9 x10 : Int64) (h0 : Heap) (n0 : Nat) (Z0 : n0 ≤ h0.size) (f_a1 : n0 ≤ a1) (ne_a2_a1 : a2 ≠ a1) (O_a1 : own_Obj Z h0 a1 "com/example/hapax/hapax/core/Counts" [("com/example/hapax/hapax/core/Counts", "executedStored", "J", (.long (0 : Int64))), ("com/example/hapax/hapax/core/Counts", "executedReleased", "J", (.long (0 : Int64))), ("com/example/hapax/hapax/core/Counts", "replayed", "J", (.long (0 : Int64))), ("com/example/hapax/hapax/core/Counts", "inFlight", "J", (.long (0 : Int64))), ("com/example/hapax/hapax/core/Counts", "keyReused", "J", (.long (0 : Int64))), ("com/example/hapax/hapax/core/Counts", "leaseLost", "J", (.long (0 : Int64))), ("com/example/hapax/hapax/core/Counts", "storeFailures", "J", (.long (0 : Int64))), ("com/example/hapax/hapax/core/Counts", "worksRunning", "J", (.long (0 : Int64))), ("com/example/hapax/hapax/core/Counts", "worksTimed", "J", (.long (0 : Int64))), ("com/example/hapax/hapax/core/Counts", "workNanosTotal", "J", (.long (0 : Int64))), ("com/example/hapax/hapax/core/Counts", "workNanosMin", "J", (.long (0 : Int64))), ("com/example/hapax/hapax/core/Counts", "workNanosMax", "J", (.long (0 : Int64)))]) (O_a2 : own_Obj Z h0 a2 "com/example/hapax/hapax/core/Tally$Span" [("com/example/hapax/hapax/core/Tally$Span", "workNanosMin", "J", (.long x0)), ("com/example/hapax/hapax/core/Tally$Span", "executedStored", "J", (.long x1)), ("com/example/hapax/hapax/core/Tally$Span", "executedReleased", "J", (.long x2)), ("com/example/hapax/hapax/core/Tally$Span", "replayed", "J", (.long x3)), ("com/example/hapax/hapax/core/Tally$Span", "inFlight", "J", (.long x4)), ("com/example/hapax/hapax/core/Tally$Span", "keyReused", "J", (.long x5)), ("com/example/hapax/hapax/core/Tally$Span", "leaseLost", "J", (.long x6)), ("com/example/hapax/hapax/core/Tally$Span", "storeFailures", "J", (.long x7)), ("com/example/hapax/hapax/core/Tally$Span", "worksTimed", "J", (.long x8)), ("com/example/hapax/hapax/core/Tally$Span", "workNanosTotal", "J", (.long x9)), ("com/example/hapax/hapax/core/Tally$Span", "workNanosMax", "J", (.long x10))]) :
    own_Met l Z (⟨"com/example/hapax/hapax/core/Counts", "<init>", "(Lcom/example/hapax/hapax/core/Tally$Span;J)V"⟩ : MethodName) prog_9_method_1_code 4 none ({ frames := 1, cells := 0, slots := 0, locals := 12 } : Room) #[(.ref a1), (.ref a2), (.long q3)] h0 (Q3 Z a1 a2 q3 x0 x1 x2 x3 x4 x5 x6 x7 x8 x9 x10 h0 n0) := by
  refine own_enter (plainFor_of_name own_pn3) (fun m => by first | (simp [entryFrame, mkF, argsToLocals, Value.category, maxLocals]; done) | rfl) (Ls := #[.val (.ref a1), .val (.ref a2), .val (.long q3), .second]) ?_
  intro p e s m below meth c T0 K X0 e0
  have hx := K.1
  have hZ := K.2.1
  have hby := K.2.2.1
  have hown := K.2.2.2.2.1
  have N0 := Fr.nil n0
  have K0 : Keep h0 h0 [a1] := Keep.refl _ _
  show own_Fin p e below _ T0 (mkF m 0 #[.val (.ref a1), .val (.ref a2), .val (.long q3), .second] [])
  refine own_seg (T' := T0) (g' := (mkF m 1 #[.val (.ref a1), .val (.ref a2), .val (.long q3), .second] [(.ref a1)])) (fun tg kt => ?_) ?_
  · show Steps p.tables e below (T0.setTop (mkF m 0 #[.val (.ref a1), .val (.ref a2), .val (.long q3), .second] [])) tg
    refine XS.aloadN X0.here hx rfl (hb hby d3_0) rfl rfl ?_
    exact kt
  refine own_initO K X0 e0 (hw _ (List.mem_of_getElem? (i := 39) rfl)) (hw _ (List.mem_of_getElem? (i := 7) rfl)) (hw _ (List.mem_of_getElem? (i := 8) rfl)) rfl d3_1 (by decide) (Nat.le_of_ble_eq_true rfl) ?_
  intro T1 X1 e1
  show own_Fin p e below _ T1 (mkF m 4 #[.val (.ref a1), .val (.ref a2), .val (.long q3), .second] [])
  refine own_seg (T' := T1) (g' := (mkF m 6 #[.val (.ref a1), .val (.ref a2), .val (.long q3), .second] [(.ref a2), (.ref a1)])) (fun tg kt => ?_) ?_
  · show Steps p.tables e below (T1.setTop (mkF m 4 #[.val (.ref a1), .val (.ref a2), .val (.long q3), .second] [])) tg
    refine XS.aloadN X1.here hx rfl (hb hby d3_4) rfl rfl ?_
    show Steps p.tables e below (T1.setTop (mkF m 5 #[.val (.ref a1), .val (.ref a2), .val (.long q3), .second] [(.ref a1)])) tg
    refine XS.aloadN X1.here hx rfl (hb hby d3_5) rfl rfl ?_
    exact kt
  refine own_getF K X1 e1 (host := "") (Or.inl (hw _ (List.mem_of_getElem? (i := 40) rfl))) Via.refl (O_a2.get 1 rfl) d3_6 ?_
  intro T2 X2 e2
  show own_Fin p e below _ T2 (mkF m 9 #[.val (.ref a1), .val (.ref a2), .val (.long q3), .second] [(.long x1), (.ref a1)])
  refine own_putF K X2 e2 (host := "") (Or.inl (hw _ (List.mem_of_getElem? (i := 41) rfl))) Via.refl (O_a1.get 0 rfl) O_a1.exa (Or.inr ⟨(hw _ (List.mem_of_getElem? (i := 42) rfl)), rfl, rfl⟩) (hw _ (List.mem_of_getElem? (i := 34) rfl)) (ty := .long) (by decide) rfl rfl d3_9 ?_
  intro T3 h3 X3 e3 W3
  have O_a2_3 : own_Obj Z h3 a2 "com/example/hapax/hapax/core/Tally$Span" [("com/example/hapax/hapax/core/Tally$Span", "workNanosMin", "J", (.long x0)), ("com/example/hapax/hapax/core/Tally$Span", "executedStored", "J", (.long x1)), ("com/example/hapax/hapax/core/Tally$Span", "executedReleased", "J", (.long x2)), ("com/example/hapax/hapax/core/Tally$Span", "replayed", "J", (.long x3)), ("com/example/hapax/hapax/core/Tally$Span", "inFlight", "J", (.long x4)), ("com/example/hapax/hapax/core/Tally$Span", "keyReused", "J", (.long x5)), ("com/example/hapax/hapax/core/Tally$Span", "leaseLost", "J", (.long x6)), ("com/example/hapax/hapax/core/Tally$Span", "storeFailures", "J", (.long x7)), ("com/example/hapax/hapax/core/Tally$Span", "worksTimed", "J", (.long x8)), ("com/example/hapax/hapax/core/Tally$Span", "workNanosTotal", "J", (.long x9)), ("com/example/hapax/hapax/core/Tally$Span", "workNanosMax", "J", (.long x10))] := O_a2.other W3 ne_a2_a1
  have O_a1_3 : own_Obj Z h3 a1 "com/example/hapax/hapax/core/Counts" [("com/example/hapax/hapax/core/Counts", "executedStored", "J", (.long x1)), ("com/example/hapax/hapax/core/Counts", "executedReleased", "J", (.long (0 : Int64))), ("com/example/hapax/hapax/core/Counts", "replayed", "J", (.long (0 : Int64))), ("com/example/hapax/hapax/core/Counts", "inFlight", "J", (.long (0 : Int64))), ("com/example/hapax/hapax/core/Counts", "keyReused", "J", (.long (0 : Int64))), ("com/example/hapax/hapax/core/Counts", "leaseLost", "J", (.long (0 : Int64))), ("com/example/hapax/hapax/core/Counts", "storeFailures", "J", (.long (0 : Int64))), ("com/example/hapax/hapax/core/Counts", "worksRunning", "J", (.long (0 : Int64))), ("com/example/hapax/hapax/core/Counts", "worksTimed", "J", (.long (0 : Int64))), ("com/example/hapax/hapax/core/Counts", "workNanosTotal", "J", (.long (0 : Int64))), ("com/example/hapax/hapax/core/Counts", "workNanosMin", "J", (.long (0 : Int64))), ("com/example/hapax/hapax/core/Counts", "workNanosMax", "J", (.long (0 : Int64)))] := O_a1.put (own_lay_Counts hw) rfl own_nd_Counts 0 rfl W3
  have Z3 : n0 ≤ h3.size := by rw [Wr.size W3]; exact Z0
  have N3 := Fr.snoc X3 N0 f_a1
  have K3 := K0.wr W3 (Or.inl (List.mem_of_getElem? (i := 0) rfl))
  show own_Fin p e below _ T3 (mkF m 12 #[.val (.ref a1), .val (.ref a2), .val (.long q3), .second] [])
  refine own_seg (T' := T3) (g' := (mkF m 14 #[.val (.ref a1), .val (.ref a2), .val (.long q3), .second] [(.ref a2), (.ref a1)])) (fun tg kt => ?_) ?_
  · show Steps p.tables e below (T3.setTop (mkF m 12 #[.val (.ref a1), .val (.ref a2), .val (.long q3), .second] [])) tg
    refine XS.aloadN X3.here hx rfl (hb hby d3_12) rfl rfl ?_
    show Steps p.tables e below (T3.setTop (mkF m 13 #[.val (.ref a1), .val (.ref a2), .val (.long q3), .second] [(.ref a1)])) tg
    refine XS.aloadN X3.here hx rfl (hb hby d3_13) rfl rfl ?_
    exact kt
  refine own_getF K X3 e3 (host := "") (Or.inl (hw _ (List.mem_of_getElem? (i := 43) rfl))) Via.refl (O_a2_3.get 2 rfl) d3_14 ?_
  intro T4 X4 e4
  show own_Fin p e below _ T4 (mkF m 17 #[.val (.ref a1), .val (.ref a2), .val (.long q3), .second] [(.long x2), (.ref a1)])
  refine own_putF K X4 e4 (host := "") (Or.inl (hw _ (List.mem_of_getElem? (i := 44) rfl))) Via.refl (O_a1_3.get 1 rfl) O_a1_3.exa (Or.inr ⟨(hw _ (List.mem_of_getElem? (i := 45) rfl)), rfl, rfl⟩) (hw _ (List.mem_of_getElem? (i := 34) rfl)) (ty := .long) (by decide) rfl rfl d3_17 ?_
  intro T5 h5 X5 e5 W5
  have O_a2_5 : own_Obj Z h5 a2 "com/example/hapax/hapax/core/Tally$Span" [("com/example/hapax/hapax/core/Tally$Span", "workNanosMin", "J", (.long x0)), ("com/example/hapax/hapax/core/Tally$Span", "executedStored", "J", (.long x1)), ("com/example/hapax/hapax/core/Tally$Span", "executedReleased", "J", (.long x2)), ("com/example/hapax/hapax/core/Tally$Span", "replayed", "J", (.long x3)), ("com/example/hapax/hapax/core/Tally$Span", "inFlight", "J", (.long x4)), ("com/example/hapax/hapax/core/Tally$Span", "keyReused", "J", (.long x5)), ("com/example/hapax/hapax/core/Tally$Span", "leaseLost", "J", (.long x6)), ("com/example/hapax/hapax/core/Tally$Span", "storeFailures", "J", (.long x7)), ("com/example/hapax/hapax/core/Tally$Span", "worksTimed", "J", (.long x8)), ("com/example/hapax/hapax/core/Tally$Span", "workNanosTotal", "J", (.long x9)), ("com/example/hapax/hapax/core/Tally$Span", "workNanosMax", "J", (.long x10))] := O_a2_3.other W5 ne_a2_a1
  have O_a1_5 : own_Obj Z h5 a1 "com/example/hapax/hapax/core/Counts" [("com/example/hapax/hapax/core/Counts", "executedStored", "J", (.long x1)), ("com/example/hapax/hapax/core/Counts", "executedReleased", "J", (.long x2)), ("com/example/hapax/hapax/core/Counts", "replayed", "J", (.long (0 : Int64))), ("com/example/hapax/hapax/core/Counts", "inFlight", "J", (.long (0 : Int64))), ("com/example/hapax/hapax/core/Counts", "keyReused", "J", (.long (0 : Int64))), ("com/example/hapax/hapax/core/Counts", "leaseLost", "J", (.long (0 : Int64))), ("com/example/hapax/hapax/core/Counts", "storeFailures", "J", (.long (0 : Int64))), ("com/example/hapax/hapax/core/Counts", "worksRunning", "J", (.long (0 : Int64))), ("com/example/hapax/hapax/core/Counts", "worksTimed", "J", (.long (0 : Int64))), ("com/example/hapax/hapax/core/Counts", "workNanosTotal", "J", (.long (0 : Int64))), ("com/example/hapax/hapax/core/Counts", "workNanosMin", "J", (.long (0 : Int64))), ("com/example/hapax/hapax/core/Counts", "workNanosMax", "J", (.long (0 : Int64)))] := O_a1_3.put (own_lay_Counts hw) rfl own_nd_Counts 1 rfl W5
  have Z5 : n0 ≤ h5.size := by rw [Wr.size W5]; exact Z3
  have N5 := Fr.snoc X5 N3 f_a1
  have K5 := K3.wr W5 (Or.inl (List.mem_of_getElem? (i := 0) rfl))
  show own_Fin p e below _ T5 (mkF m 20 #[.val (.ref a1), .val (.ref a2), .val (.long q3), .second] [])
  refine own_seg (T' := T5) (g' := (mkF m 22 #[.val (.ref a1), .val (.ref a2), .val (.long q3), .second] [(.ref a2), (.ref a1)])) (fun tg kt => ?_) ?_
  · show Steps p.tables e below (T5.setTop (mkF m 20 #[.val (.ref a1), .val (.ref a2), .val (.long q3), .second] [])) tg
    refine XS.aloadN X5.here hx rfl (hb hby d3_20) rfl rfl ?_
    show Steps p.tables e below (T5.setTop (mkF m 21 #[.val (.ref a1), .val (.ref a2), .val (.long q3), .second] [(.ref a1)])) tg
    refine XS.aloadN X5.here hx rfl (hb hby d3_21) rfl rfl ?_
    exact kt
  refine own_getF K X5 e5 (host := "") (Or.inl (hw _ (List.mem_of_getElem? (i := 46) rfl))) Via.refl (O_a2_5.get 3 rfl) d3_22 ?_
  intro T6 X6 e6
  show own_Fin p e below _ T6 (mkF m 25 #[.val (.ref a1), .val (.ref a2), .val (.long q3), .second] [(.long x3), (.ref a1)])
  refine own_putF K X6 e6 (host := "") (Or.inl (hw _ (List.mem_of_getElem? (i := 47) rfl))) Via.refl (O_a1_5.get 2 rfl) O_a1_5.exa (Or.inr ⟨(hw _ (List.mem_of_getElem? (i := 48) rfl)), rfl, rfl⟩) (hw _ (List.mem_of_getElem? (i := 34) rfl)) (ty := .long) (by decide) rfl rfl d3_25 ?_
  intro T7 h7 X7 e7 W7
  have O_a2_7 : own_Obj Z h7 a2 "com/example/hapax/hapax/core/Tally$Span" [("com/example/hapax/hapax/core/Tally$Span", "workNanosMin", "J", (.long x0)), ("com/example/hapax/hapax/core/Tally$Span", "executedStored", "J", (.long x1)), ("com/example/hapax/hapax/core/Tally$Span", "executedReleased", "J", (.long x2)), ("com/example/hapax/hapax/core/Tally$Span", "replayed", "J", (.long x3)), ("com/example/hapax/hapax/core/Tally$Span", "inFlight", "J", (.long x4)), ("com/example/hapax/hapax/core/Tally$Span", "keyReused", "J", (.long x5)), ("com/example/hapax/hapax/core/Tally$Span", "leaseLost", "J", (.long x6)), ("com/example/hapax/hapax/core/Tally$Span", "storeFailures", "J", (.long x7)), ("com/example/hapax/hapax/core/Tally$Span", "worksTimed", "J", (.long x8)), ("com/example/hapax/hapax/core/Tally$Span", "workNanosTotal", "J", (.long x9)), ("com/example/hapax/hapax/core/Tally$Span", "workNanosMax", "J", (.long x10))] := O_a2_5.other W7 ne_a2_a1
  have O_a1_7 : own_Obj Z h7 a1 "com/example/hapax/hapax/core/Counts" [("com/example/hapax/hapax/core/Counts", "executedStored", "J", (.long x1)), ("com/example/hapax/hapax/core/Counts", "executedReleased", "J", (.long x2)), ("com/example/hapax/hapax/core/Counts", "replayed", "J", (.long x3)), ("com/example/hapax/hapax/core/Counts", "inFlight", "J", (.long (0 : Int64))), ("com/example/hapax/hapax/core/Counts", "keyReused", "J", (.long (0 : Int64))), ("com/example/hapax/hapax/core/Counts", "leaseLost", "J", (.long (0 : Int64))), ("com/example/hapax/hapax/core/Counts", "storeFailures", "J", (.long (0 : Int64))), ("com/example/hapax/hapax/core/Counts", "worksRunning", "J", (.long (0 : Int64))), ("com/example/hapax/hapax/core/Counts", "worksTimed", "J", (.long (0 : Int64))), ("com/example/hapax/hapax/core/Counts", "workNanosTotal", "J", (.long (0 : Int64))), ("com/example/hapax/hapax/core/Counts", "workNanosMin", "J", (.long (0 : Int64))), ("com/example/hapax/hapax/core/Counts", "workNanosMax", "J", (.long (0 : Int64)))] := O_a1_5.put (own_lay_Counts hw) rfl own_nd_Counts 2 rfl W7
  have Z7 : n0 ≤ h7.size := by rw [Wr.size W7]; exact Z5
  have N7 := Fr.snoc X7 N5 f_a1
  have K7 := K5.wr W7 (Or.inl (List.mem_of_getElem? (i := 0) rfl))
  show own_Fin p e below _ T7 (mkF m 28 #[.val (.ref a1), .val (.ref a2), .val (.long q3), .second] [])
  refine own_seg (T' := T7) (g' := (mkF m 30 #[.val (.ref a1), .val (.ref a2), .val (.long q3), .second] [(.ref a2), (.ref a1)])) (fun tg kt => ?_) ?_
  · show Steps p.tables e below (T7.setTop (mkF m 28 #[.val (.ref a1), .val (.ref a2), .val (.long q3), .second] [])) tg
    refine XS.aloadN X7.here hx rfl (hb hby d3_28) rfl rfl ?_
    show Steps p.tables e below (T7.setTop (mkF m 29 #[.val (.ref a1), .val (.ref a2), .val (.long q3), .second] [(.ref a1)])) tg
    refine XS.aloadN X7.here hx rfl (hb hby d3_29) rfl rfl ?_
    exact kt
  refine own_getF K X7 e7 (host := "") (Or.inl (hw _ (List.mem_of_getElem? (i := 49) rfl))) Via.refl (O_a2_7.get 4 rfl) d3_30 ?_
  intro T8 X8 e8
  show own_Fin p e below _ T8 (mkF m 33 #[.val (.ref a1), .val (.ref a2), .val (.long q3), .second] [(.long x4), (.ref a1)])
  refine own_putF K X8 e8 (host := "") (Or.inl (hw _ (List.mem_of_getElem? (i := 50) rfl))) Via.refl (O_a1_7.get 3 rfl) O_a1_7.exa (Or.inr ⟨(hw _ (List.mem_of_getElem? (i := 51) rfl)), rfl, rfl⟩) (hw _ (List.mem_of_getElem? (i := 34) rfl)) (ty := .long) (by decide) rfl rfl d3_33 ?_
  intro T9 h9 X9 e9 W9
  have O_a2_9 : own_Obj Z h9 a2 "com/example/hapax/hapax/core/Tally$Span" [("com/example/hapax/hapax/core/Tally$Span", "workNanosMin", "J", (.long x0)), ("com/example/hapax/hapax/core/Tally$Span", "executedStored", "J", (.long x1)), ("com/example/hapax/hapax/core/Tally$Span", "executedReleased", "J", (.long x2)), ("com/example/hapax/hapax/core/Tally$Span", "replayed", "J", (.long x3)), ("com/example/hapax/hapax/core/Tally$Span", "inFlight", "J", (.long x4)), ("com/example/hapax/hapax/core/Tally$Span", "keyReused", "J", (.long x5)), ("com/example/hapax/hapax/core/Tally$Span", "leaseLost", "J", (.long x6)), ("com/example/hapax/hapax/core/Tally$Span", "storeFailures", "J", (.long x7)), ("com/example/hapax/hapax/core/Tally$Span", "worksTimed", "J", (.long x8)), ("com/example/hapax/hapax/core/Tally$Span", "workNanosTotal", "J", (.long x9)), ("com/example/hapax/hapax/core/Tally$Span", "workNanosMax", "J", (.long x10))] := O_a2_7.other W9 ne_a2_a1
  have O_a1_9 : own_Obj Z h9 a1 "com/example/hapax/hapax/core/Counts" [("com/example/hapax/hapax/core/Counts", "executedStored", "J", (.long x1)), ("com/example/hapax/hapax/core/Counts", "executedReleased", "J", (.long x2)), ("com/example/hapax/hapax/core/Counts", "replayed", "J", (.long x3)), ("com/example/hapax/hapax/core/Counts", "inFlight", "J", (.long x4)), ("com/example/hapax/hapax/core/Counts", "keyReused", "J", (.long (0 : Int64))), ("com/example/hapax/hapax/core/Counts", "leaseLost", "J", (.long (0 : Int64))), ("com/example/hapax/hapax/core/Counts", "storeFailures", "J", (.long (0 : Int64))), ("com/example/hapax/hapax/core/Counts", "worksRunning", "J", (.long (0 : Int64))), ("com/example/hapax/hapax/core/Counts", "worksTimed", "J", (.long (0 : Int64))), ("com/example/hapax/hapax/core/Counts", "workNanosTotal", "J", (.long (0 : Int64))), ("com/example/hapax/hapax/core/Counts", "workNanosMin", "J", (.long (0 : Int64))), ("com/example/hapax/hapax/core/Counts", "workNanosMax", "J", (.long (0 : Int64)))] := O_a1_7.put (own_lay_Counts hw) rfl own_nd_Counts 3 rfl W9
  have Z9 : n0 ≤ h9.size := by rw [Wr.size W9]; exact Z7
  have N9 := Fr.snoc X9 N7 f_a1
  have K9 := K7.wr W9 (Or.inl (List.mem_of_getElem? (i := 0) rfl))
  show own_Fin p e below _ T9 (mkF m 36 #[.val (.ref a1), .val (.ref a2), .val (.long q3), .second] [])
  refine own_seg (T' := T9) (g' := (mkF m 38 #[.val (.ref a1), .val (.ref a2), .val (.long q3), .second] [(.ref a2), (.ref a1)])) (fun tg kt => ?_) ?_
  · show Steps p.tables e below (T9.setTop (mkF m 36 #[.val (.ref a1), .val (.ref a2), .val (.long q3), .second] [])) tg
    refine XS.aloadN X9.here hx rfl (hb hby d3_36) rfl rfl ?_
    show Steps p.tables e below (T9.setTop (mkF m 37 #[.val (.ref a1), .val (.ref a2), .val (.long q3), .second] [(.ref a1)])) tg
    refine XS.aloadN X9.here hx rfl (hb hby d3_37) rfl rfl ?_
    exact kt
  refine own_getF K X9 e9 (host := "") (Or.inl (hw _ (List.mem_of_getElem? (i := 52) rfl))) Via.refl (O_a2_9.get 5 rfl) d3_38 ?_
  intro T10 X10 e10
  show own_Fin p e below _ T10 (mkF m 41 #[.val (.ref a1), .val (.ref a2), .val (.long q3), .second] [(.long x5), (.ref a1)])
  refine own_putF K X10 e10 (host := "") (Or.inl (hw _ (List.mem_of_getElem? (i := 53) rfl))) Via.refl (O_a1_9.get 4 rfl) O_a1_9.exa (Or.inr ⟨(hw _ (List.mem_of_getElem? (i := 54) rfl)), rfl, rfl⟩) (hw _ (List.mem_of_getElem? (i := 34) rfl)) (ty := .long) (by decide) rfl rfl d3_41 ?_
  intro T11 h11 X11 e11 W11
  have O_a2_11 : own_Obj Z h11 a2 "com/example/hapax/hapax/core/Tally$Span" [("com/example/hapax/hapax/core/Tally$Span", "workNanosMin", "J", (.long x0)), ("com/example/hapax/hapax/core/Tally$Span", "executedStored", "J", (.long x1)), ("com/example/hapax/hapax/core/Tally$Span", "executedReleased", "J", (.long x2)), ("com/example/hapax/hapax/core/Tally$Span", "replayed", "J", (.long x3)), ("com/example/hapax/hapax/core/Tally$Span", "inFlight", "J", (.long x4)), ("com/example/hapax/hapax/core/Tally$Span", "keyReused", "J", (.long x5)), ("com/example/hapax/hapax/core/Tally$Span", "leaseLost", "J", (.long x6)), ("com/example/hapax/hapax/core/Tally$Span", "storeFailures", "J", (.long x7)), ("com/example/hapax/hapax/core/Tally$Span", "worksTimed", "J", (.long x8)), ("com/example/hapax/hapax/core/Tally$Span", "workNanosTotal", "J", (.long x9)), ("com/example/hapax/hapax/core/Tally$Span", "workNanosMax", "J", (.long x10))] := O_a2_9.other W11 ne_a2_a1
  have O_a1_11 : own_Obj Z h11 a1 "com/example/hapax/hapax/core/Counts" [("com/example/hapax/hapax/core/Counts", "executedStored", "J", (.long x1)), ("com/example/hapax/hapax/core/Counts", "executedReleased", "J", (.long x2)), ("com/example/hapax/hapax/core/Counts", "replayed", "J", (.long x3)), ("com/example/hapax/hapax/core/Counts", "inFlight", "J", (.long x4)), ("com/example/hapax/hapax/core/Counts", "keyReused", "J", (.long x5)), ("com/example/hapax/hapax/core/Counts", "leaseLost", "J", (.long (0 : Int64))), ("com/example/hapax/hapax/core/Counts", "storeFailures", "J", (.long (0 : Int64))), ("com/example/hapax/hapax/core/Counts", "worksRunning", "J", (.long (0 : Int64))), ("com/example/hapax/hapax/core/Counts", "worksTimed", "J", (.long (0 : Int64))), ("com/example/hapax/hapax/core/Counts", "workNanosTotal", "J", (.long (0 : Int64))), ("com/example/hapax/hapax/core/Counts", "workNanosMin", "J", (.long (0 : Int64))), ("com/example/hapax/hapax/core/Counts", "workNanosMax", "J", (.long (0 : Int64)))] := O_a1_9.put (own_lay_Counts hw) rfl own_nd_Counts 4 rfl W11
  have Z11 : n0 ≤ h11.size := by rw [Wr.size W11]; exact Z9
  have N11 := Fr.snoc X11 N9 f_a1
  have K11 := K9.wr W11 (Or.inl (List.mem_of_getElem? (i := 0) rfl))
  show own_Fin p e below _ T11 (mkF m 44 #[.val (.ref a1), .val (.ref a2), .val (.long q3), .second] [])
  refine own_seg (T' := T11) (g' := (mkF m 46 #[.val (.ref a1), .val (.ref a2), .val (.long q3), .second] [(.ref a2), (.ref a1)])) (fun tg kt => ?_) ?_
  · show Steps p.tables e below (T11.setTop (mkF m 44 #[.val (.ref a1), .val (.ref a2), .val (.long q3), .second] [])) tg
    refine XS.aloadN X11.here hx rfl (hb hby d3_44) rfl rfl ?_
    show Steps p.tables e below (T11.setTop (mkF m 45 #[.val (.ref a1), .val (.ref a2), .val (.long q3), .second] [(.ref a1)])) tg
    refine XS.aloadN X11.here hx rfl (hb hby d3_45) rfl rfl ?_
    exact kt
  refine own_getF K X11 e11 (host := "") (Or.inl (hw _ (List.mem_of_getElem? (i := 55) rfl))) Via.refl (O_a2_11.get 6 rfl) d3_46 ?_
  intro T12 X12 e12
  show own_Fin p e below _ T12 (mkF m 49 #[.val (.ref a1), .val (.ref a2), .val (.long q3), .second] [(.long x6), (.ref a1)])
  refine own_putF K X12 e12 (host := "") (Or.inl (hw _ (List.mem_of_getElem? (i := 56) rfl))) Via.refl (O_a1_11.get 5 rfl) O_a1_11.exa (Or.inr ⟨(hw _ (List.mem_of_getElem? (i := 57) rfl)), rfl, rfl⟩) (hw _ (List.mem_of_getElem? (i := 34) rfl)) (ty := .long) (by decide) rfl rfl d3_49 ?_
  intro T13 h13 X13 e13 W13
  have O_a2_13 : own_Obj Z h13 a2 "com/example/hapax/hapax/core/Tally$Span" [("com/example/hapax/hapax/core/Tally$Span", "workNanosMin", "J", (.long x0)), ("com/example/hapax/hapax/core/Tally$Span", "executedStored", "J", (.long x1)), ("com/example/hapax/hapax/core/Tally$Span", "executedReleased", "J", (.long x2)), ("com/example/hapax/hapax/core/Tally$Span", "replayed", "J", (.long x3)), ("com/example/hapax/hapax/core/Tally$Span", "inFlight", "J", (.long x4)), ("com/example/hapax/hapax/core/Tally$Span", "keyReused", "J", (.long x5)), ("com/example/hapax/hapax/core/Tally$Span", "leaseLost", "J", (.long x6)), ("com/example/hapax/hapax/core/Tally$Span", "storeFailures", "J", (.long x7)), ("com/example/hapax/hapax/core/Tally$Span", "worksTimed", "J", (.long x8)), ("com/example/hapax/hapax/core/Tally$Span", "workNanosTotal", "J", (.long x9)), ("com/example/hapax/hapax/core/Tally$Span", "workNanosMax", "J", (.long x10))] := O_a2_11.other W13 ne_a2_a1
  have O_a1_13 : own_Obj Z h13 a1 "com/example/hapax/hapax/core/Counts" [("com/example/hapax/hapax/core/Counts", "executedStored", "J", (.long x1)), ("com/example/hapax/hapax/core/Counts", "executedReleased", "J", (.long x2)), ("com/example/hapax/hapax/core/Counts", "replayed", "J", (.long x3)), ("com/example/hapax/hapax/core/Counts", "inFlight", "J", (.long x4)), ("com/example/hapax/hapax/core/Counts", "keyReused", "J", (.long x5)), ("com/example/hapax/hapax/core/Counts", "leaseLost", "J", (.long x6)), ("com/example/hapax/hapax/core/Counts", "storeFailures", "J", (.long (0 : Int64))), ("com/example/hapax/hapax/core/Counts", "worksRunning", "J", (.long (0 : Int64))), ("com/example/hapax/hapax/core/Counts", "worksTimed", "J", (.long (0 : Int64))), ("com/example/hapax/hapax/core/Counts", "workNanosTotal", "J", (.long (0 : Int64))), ("com/example/hapax/hapax/core/Counts", "workNanosMin", "J", (.long (0 : Int64))), ("com/example/hapax/hapax/core/Counts", "workNanosMax", "J", (.long (0 : Int64)))] := O_a1_11.put (own_lay_Counts hw) rfl own_nd_Counts 5 rfl W13
  have Z13 : n0 ≤ h13.size := by rw [Wr.size W13]; exact Z11
  have N13 := Fr.snoc X13 N11 f_a1
  have K13 := K11.wr W13 (Or.inl (List.mem_of_getElem? (i := 0) rfl))
  show own_Fin p e below _ T13 (mkF m 52 #[.val (.ref a1), .val (.ref a2), .val (.long q3), .second] [])
  refine own_seg (T' := T13) (g' := (mkF m 54 #[.val (.ref a1), .val (.ref a2), .val (.long q3), .second] [(.ref a2), (.ref a1)])) (fun tg kt => ?_) ?_
  · show Steps p.tables e below (T13.setTop (mkF m 52 #[.val (.ref a1), .val (.ref a2), .val (.long q3), .second] [])) tg
    refine XS.aloadN X13.here hx rfl (hb hby d3_52) rfl rfl ?_
    show Steps p.tables e below (T13.setTop (mkF m 53 #[.val (.ref a1), .val (.ref a2), .val (.long q3), .second] [(.ref a1)])) tg
    refine XS.aloadN X13.here hx rfl (hb hby d3_53) rfl rfl ?_
    exact kt
  refine own_getF K X13 e13 (host := "") (Or.inl (hw _ (List.mem_of_getElem? (i := 58) rfl))) Via.refl (O_a2_13.get 7 rfl) d3_54 ?_
  intro T14 X14 e14
  show own_Fin p e below _ T14 (mkF m 57 #[.val (.ref a1), .val (.ref a2), .val (.long q3), .second] [(.long x7), (.ref a1)])
  refine own_putF K X14 e14 (host := "") (Or.inl (hw _ (List.mem_of_getElem? (i := 59) rfl))) Via.refl (O_a1_13.get 6 rfl) O_a1_13.exa (Or.inr ⟨(hw _ (List.mem_of_getElem? (i := 60) rfl)), rfl, rfl⟩) (hw _ (List.mem_of_getElem? (i := 34) rfl)) (ty := .long) (by decide) rfl rfl d3_57 ?_
  intro T15 h15 X15 e15 W15
  have O_a2_15 : own_Obj Z h15 a2 "com/example/hapax/hapax/core/Tally$Span" [("com/example/hapax/hapax/core/Tally$Span", "workNanosMin", "J", (.long x0)), ("com/example/hapax/hapax/core/Tally$Span", "executedStored", "J", (.long x1)), ("com/example/hapax/hapax/core/Tally$Span", "executedReleased", "J", (.long x2)), ("com/example/hapax/hapax/core/Tally$Span", "replayed", "J", (.long x3)), ("com/example/hapax/hapax/core/Tally$Span", "inFlight", "J", (.long x4)), ("com/example/hapax/hapax/core/Tally$Span", "keyReused", "J", (.long x5)), ("com/example/hapax/hapax/core/Tally$Span", "leaseLost", "J", (.long x6)), ("com/example/hapax/hapax/core/Tally$Span", "storeFailures", "J", (.long x7)), ("com/example/hapax/hapax/core/Tally$Span", "worksTimed", "J", (.long x8)), ("com/example/hapax/hapax/core/Tally$Span", "workNanosTotal", "J", (.long x9)), ("com/example/hapax/hapax/core/Tally$Span", "workNanosMax", "J", (.long x10))] := O_a2_13.other W15 ne_a2_a1
  have O_a1_15 : own_Obj Z h15 a1 "com/example/hapax/hapax/core/Counts" [("com/example/hapax/hapax/core/Counts", "executedStored", "J", (.long x1)), ("com/example/hapax/hapax/core/Counts", "executedReleased", "J", (.long x2)), ("com/example/hapax/hapax/core/Counts", "replayed", "J", (.long x3)), ("com/example/hapax/hapax/core/Counts", "inFlight", "J", (.long x4)), ("com/example/hapax/hapax/core/Counts", "keyReused", "J", (.long x5)), ("com/example/hapax/hapax/core/Counts", "leaseLost", "J", (.long x6)), ("com/example/hapax/hapax/core/Counts", "storeFailures", "J", (.long x7)), ("com/example/hapax/hapax/core/Counts", "worksRunning", "J", (.long (0 : Int64))), ("com/example/hapax/hapax/core/Counts", "worksTimed", "J", (.long (0 : Int64))), ("com/example/hapax/hapax/core/Counts", "workNanosTotal", "J", (.long (0 : Int64))), ("com/example/hapax/hapax/core/Counts", "workNanosMin", "J", (.long (0 : Int64))), ("com/example/hapax/hapax/core/Counts", "workNanosMax", "J", (.long (0 : Int64)))] := O_a1_13.put (own_lay_Counts hw) rfl own_nd_Counts 6 rfl W15
  have Z15 : n0 ≤ h15.size := by rw [Wr.size W15]; exact Z13
  have N15 := Fr.snoc X15 N13 f_a1
  have K15 := K13.wr W15 (Or.inl (List.mem_of_getElem? (i := 0) rfl))
  show own_Fin p e below _ T15 (mkF m 60 #[.val (.ref a1), .val (.ref a2), .val (.long q3), .second] [])
  refine own_seg (T' := T15) (g' := (mkF m 62 #[.val (.ref a1), .val (.ref a2), .val (.long q3), .second] [(.long q3), (.ref a1)])) (fun tg kt => ?_) ?_
  · show Steps p.tables e below (T15.setTop (mkF m 60 #[.val (.ref a1), .val (.ref a2), .val (.long q3), .second] [])) tg
    refine XS.aloadN X15.here hx rfl (hb hby d3_60) rfl rfl ?_
    show Steps p.tables e below (T15.setTop (mkF m 61 #[.val (.ref a1), .val (.ref a2), .val (.long q3), .second] [(.ref a1)])) tg
    refine XS.lloadN X15.here hx rfl (hb hby d3_61) rfl ?_
    exact kt
  refine own_putF K X15 e15 (host := "") (Or.inl (hw _ (List.mem_of_getElem? (i := 61) rfl))) Via.refl (O_a1_15.get 7 rfl) O_a1_15.exa (Or.inr ⟨(hw _ (List.mem_of_getElem? (i := 62) rfl)), rfl, rfl⟩) (hw _ (List.mem_of_getElem? (i := 34) rfl)) (ty := .long) (by decide) rfl rfl d3_62 ?_
  intro T16 h16 X16 e16 W16
  have O_a2_16 : own_Obj Z h16 a2 "com/example/hapax/hapax/core/Tally$Span" [("com/example/hapax/hapax/core/Tally$Span", "workNanosMin", "J", (.long x0)), ("com/example/hapax/hapax/core/Tally$Span", "executedStored", "J", (.long x1)), ("com/example/hapax/hapax/core/Tally$Span", "executedReleased", "J", (.long x2)), ("com/example/hapax/hapax/core/Tally$Span", "replayed", "J", (.long x3)), ("com/example/hapax/hapax/core/Tally$Span", "inFlight", "J", (.long x4)), ("com/example/hapax/hapax/core/Tally$Span", "keyReused", "J", (.long x5)), ("com/example/hapax/hapax/core/Tally$Span", "leaseLost", "J", (.long x6)), ("com/example/hapax/hapax/core/Tally$Span", "storeFailures", "J", (.long x7)), ("com/example/hapax/hapax/core/Tally$Span", "worksTimed", "J", (.long x8)), ("com/example/hapax/hapax/core/Tally$Span", "workNanosTotal", "J", (.long x9)), ("com/example/hapax/hapax/core/Tally$Span", "workNanosMax", "J", (.long x10))] := O_a2_15.other W16 ne_a2_a1
  have O_a1_16 : own_Obj Z h16 a1 "com/example/hapax/hapax/core/Counts" [("com/example/hapax/hapax/core/Counts", "executedStored", "J", (.long x1)), ("com/example/hapax/hapax/core/Counts", "executedReleased", "J", (.long x2)), ("com/example/hapax/hapax/core/Counts", "replayed", "J", (.long x3)), ("com/example/hapax/hapax/core/Counts", "inFlight", "J", (.long x4)), ("com/example/hapax/hapax/core/Counts", "keyReused", "J", (.long x5)), ("com/example/hapax/hapax/core/Counts", "leaseLost", "J", (.long x6)), ("com/example/hapax/hapax/core/Counts", "storeFailures", "J", (.long x7)), ("com/example/hapax/hapax/core/Counts", "worksRunning", "J", (.long q3)), ("com/example/hapax/hapax/core/Counts", "worksTimed", "J", (.long (0 : Int64))), ("com/example/hapax/hapax/core/Counts", "workNanosTotal", "J", (.long (0 : Int64))), ("com/example/hapax/hapax/core/Counts", "workNanosMin", "J", (.long (0 : Int64))), ("com/example/hapax/hapax/core/Counts", "workNanosMax", "J", (.long (0 : Int64)))] := O_a1_15.put (own_lay_Counts hw) rfl own_nd_Counts 7 rfl W16
  have Z16 : n0 ≤ h16.size := by rw [Wr.size W16]; exact Z15
  have N16 := Fr.snoc X16 N15 f_a1
  have K16 := K15.wr W16 (Or.inl (List.mem_of_getElem? (i := 0) rfl))
  show own_Fin p e below _ T16 (mkF m 65 #[.val (.ref a1), .val (.ref a2), .val (.long q3), .second] [])
  refine own_seg (T' := T16) (g' := (mkF m 67 #[.val (.ref a1), .val (.ref a2), .val (.long q3), .second] [(.ref a2), (.ref a1)])) (fun tg kt => ?_) ?_
  · show Steps p.tables e below (T16.setTop (mkF m 65 #[.val (.ref a1), .val (.ref a2), .val (.long q3), .second] [])) tg
    refine XS.aloadN X16.here hx rfl (hb hby d3_65) rfl rfl ?_
    show Steps p.tables e below (T16.setTop (mkF m 66 #[.val (.ref a1), .val (.ref a2), .val (.long q3), .second] [(.ref a1)])) tg
    refine XS.aloadN X16.here hx rfl (hb hby d3_66) rfl rfl ?_
    exact kt
  refine own_getF K X16 e16 (host := "") (Or.inl (hw _ (List.mem_of_getElem? (i := 63) rfl))) Via.refl (O_a2_16.get 8 rfl) d3_67 ?_
  intro T17 X17 e17
  show own_Fin p e below _ T17 (mkF m 70 #[.val (.ref a1), .val (.ref a2), .val (.long q3), .second] [(.long x8), (.ref a1)])
  refine own_putF K X17 e17 (host := "") (Or.inl (hw _ (List.mem_of_getElem? (i := 64) rfl))) Via.refl (O_a1_16.get 8 rfl) O_a1_16.exa (Or.inr ⟨(hw _ (List.mem_of_getElem? (i := 65) rfl)), rfl, rfl⟩) (hw _ (List.mem_of_getElem? (i := 34) rfl)) (ty := .long) (by decide) rfl rfl d3_70 ?_
  intro T18 h18 X18 e18 W18
  have O_a2_18 : own_Obj Z h18 a2 "com/example/hapax/hapax/core/Tally$Span" [("com/example/hapax/hapax/core/Tally$Span", "workNanosMin", "J", (.long x0)), ("com/example/hapax/hapax/core/Tally$Span", "executedStored", "J", (.long x1)), ("com/example/hapax/hapax/core/Tally$Span", "executedReleased", "J", (.long x2)), ("com/example/hapax/hapax/core/Tally$Span", "replayed", "J", (.long x3)), ("com/example/hapax/hapax/core/Tally$Span", "inFlight", "J", (.long x4)), ("com/example/hapax/hapax/core/Tally$Span", "keyReused", "J", (.long x5)), ("com/example/hapax/hapax/core/Tally$Span", "leaseLost", "J", (.long x6)), ("com/example/hapax/hapax/core/Tally$Span", "storeFailures", "J", (.long x7)), ("com/example/hapax/hapax/core/Tally$Span", "worksTimed", "J", (.long x8)), ("com/example/hapax/hapax/core/Tally$Span", "workNanosTotal", "J", (.long x9)), ("com/example/hapax/hapax/core/Tally$Span", "workNanosMax", "J", (.long x10))] := O_a2_16.other W18 ne_a2_a1
  have O_a1_18 : own_Obj Z h18 a1 "com/example/hapax/hapax/core/Counts" [("com/example/hapax/hapax/core/Counts", "executedStored", "J", (.long x1)), ("com/example/hapax/hapax/core/Counts", "executedReleased", "J", (.long x2)), ("com/example/hapax/hapax/core/Counts", "replayed", "J", (.long x3)), ("com/example/hapax/hapax/core/Counts", "inFlight", "J", (.long x4)), ("com/example/hapax/hapax/core/Counts", "keyReused", "J", (.long x5)), ("com/example/hapax/hapax/core/Counts", "leaseLost", "J", (.long x6)), ("com/example/hapax/hapax/core/Counts", "storeFailures", "J", (.long x7)), ("com/example/hapax/hapax/core/Counts", "worksRunning", "J", (.long q3)), ("com/example/hapax/hapax/core/Counts", "worksTimed", "J", (.long x8)), ("com/example/hapax/hapax/core/Counts", "workNanosTotal", "J", (.long (0 : Int64))), ("com/example/hapax/hapax/core/Counts", "workNanosMin", "J", (.long (0 : Int64))), ("com/example/hapax/hapax/core/Counts", "workNanosMax", "J", (.long (0 : Int64)))] := O_a1_16.put (own_lay_Counts hw) rfl own_nd_Counts 8 rfl W18
  have Z18 : n0 ≤ h18.size := by rw [Wr.size W18]; exact Z16
  have N18 := Fr.snoc X18 N16 f_a1
  have K18 := K16.wr W18 (Or.inl (List.mem_of_getElem? (i := 0) rfl))
  show own_Fin p e below _ T18 (mkF m 73 #[.val (.ref a1), .val (.ref a2), .val (.long q3), .second] [])
  refine own_seg (T' := T18) (g' := (mkF m 75 #[.val (.ref a1), .val (.ref a2), .val (.long q3), .second] [(.ref a2), (.ref a1)])) (fun tg kt => ?_) ?_
  · show Steps p.tables e below (T18.setTop (mkF m 73 #[.val (.ref a1), .val (.ref a2), .val (.long q3), .second] [])) tg
    refine XS.aloadN X18.here hx rfl (hb hby d3_73) rfl rfl ?_
    show Steps p.tables e below (T18.setTop (mkF m 74 #[.val (.ref a1), .val (.ref a2), .val (.long q3), .second] [(.ref a1)])) tg
    refine XS.aloadN X18.here hx rfl (hb hby d3_74) rfl rfl ?_
    exact kt
  refine own_getF K X18 e18 (host := "") (Or.inl (hw _ (List.mem_of_getElem? (i := 66) rfl))) Via.refl (O_a2_18.get 9 rfl) d3_75 ?_
  intro T19 X19 e19
  show own_Fin p e below _ T19 (mkF m 78 #[.val (.ref a1), .val (.ref a2), .val (.long q3), .second] [(.long x9), (.ref a1)])
  refine own_putF K X19 e19 (host := "") (Or.inl (hw _ (List.mem_of_getElem? (i := 67) rfl))) Via.refl (O_a1_18.get 9 rfl) O_a1_18.exa (Or.inr ⟨(hw _ (List.mem_of_getElem? (i := 68) rfl)), rfl, rfl⟩) (hw _ (List.mem_of_getElem? (i := 34) rfl)) (ty := .long) (by decide) rfl rfl d3_78 ?_
  intro T20 h20 X20 e20 W20
  have O_a2_20 : own_Obj Z h20 a2 "com/example/hapax/hapax/core/Tally$Span" [("com/example/hapax/hapax/core/Tally$Span", "workNanosMin", "J", (.long x0)), ("com/example/hapax/hapax/core/Tally$Span", "executedStored", "J", (.long x1)), ("com/example/hapax/hapax/core/Tally$Span", "executedReleased", "J", (.long x2)), ("com/example/hapax/hapax/core/Tally$Span", "replayed", "J", (.long x3)), ("com/example/hapax/hapax/core/Tally$Span", "inFlight", "J", (.long x4)), ("com/example/hapax/hapax/core/Tally$Span", "keyReused", "J", (.long x5)), ("com/example/hapax/hapax/core/Tally$Span", "leaseLost", "J", (.long x6)), ("com/example/hapax/hapax/core/Tally$Span", "storeFailures", "J", (.long x7)), ("com/example/hapax/hapax/core/Tally$Span", "worksTimed", "J", (.long x8)), ("com/example/hapax/hapax/core/Tally$Span", "workNanosTotal", "J", (.long x9)), ("com/example/hapax/hapax/core/Tally$Span", "workNanosMax", "J", (.long x10))] := O_a2_18.other W20 ne_a2_a1
  have O_a1_20 : own_Obj Z h20 a1 "com/example/hapax/hapax/core/Counts" [("com/example/hapax/hapax/core/Counts", "executedStored", "J", (.long x1)), ("com/example/hapax/hapax/core/Counts", "executedReleased", "J", (.long x2)), ("com/example/hapax/hapax/core/Counts", "replayed", "J", (.long x3)), ("com/example/hapax/hapax/core/Counts", "inFlight", "J", (.long x4)), ("com/example/hapax/hapax/core/Counts", "keyReused", "J", (.long x5)), ("com/example/hapax/hapax/core/Counts", "leaseLost", "J", (.long x6)), ("com/example/hapax/hapax/core/Counts", "storeFailures", "J", (.long x7)), ("com/example/hapax/hapax/core/Counts", "worksRunning", "J", (.long q3)), ("com/example/hapax/hapax/core/Counts", "worksTimed", "J", (.long x8)), ("com/example/hapax/hapax/core/Counts", "workNanosTotal", "J", (.long x9)), ("com/example/hapax/hapax/core/Counts", "workNanosMin", "J", (.long (0 : Int64))), ("com/example/hapax/hapax/core/Counts", "workNanosMax", "J", (.long (0 : Int64)))] := O_a1_18.put (own_lay_Counts hw) rfl own_nd_Counts 9 rfl W20
  have Z20 : n0 ≤ h20.size := by rw [Wr.size W20]; exact Z18
  have N20 := Fr.snoc X20 N18 f_a1
  have K20 := K18.wr W20 (Or.inl (List.mem_of_getElem? (i := 0) rfl))
  show own_Fin p e below _ T20 (mkF m 81 #[.val (.ref a1), .val (.ref a2), .val (.long q3), .second] [])
  refine own_seg (T' := T20) (g' := (mkF m 83 #[.val (.ref a1), .val (.ref a2), .val (.long q3), .second] [(.ref a2), (.ref a1)])) (fun tg kt => ?_) ?_
  · show Steps p.tables e below (T20.setTop (mkF m 81 #[.val (.ref a1), .val (.ref a2), .val (.long q3), .second] [])) tg
    refine XS.aloadN X20.here hx rfl (hb hby d3_81) rfl rfl ?_
    show Steps p.tables e below (T20.setTop (mkF m 82 #[.val (.ref a1), .val (.ref a2), .val (.long q3), .second] [(.ref a1)])) tg
    refine XS.aloadN X20.here hx rfl (hb hby d3_82) rfl rfl ?_
    exact kt
  refine own_getF K X20 e20 (host := "") (Or.inl (hw _ (List.mem_of_getElem? (i := 63) rfl))) Via.refl (O_a2_20.get 8 rfl) d3_83 ?_
  intro T21 X21 e21
  show own_Fin p e below _ T21 (mkF m 86 #[.val (.ref a1), .val (.ref a2), .val (.long q3), .second] [(.long x8), (.ref a1)])
  refine own_seg (T' := T21) (g' := (mkF m 88 #[.val (.ref a1), .val (.ref a2), .val (.long q3), .second] [(.int (lcmpW x8 (0 : Int64))), (.ref a1)])) (fun tg kt => ?_) ?_
  · show Steps p.tables e below (T21.setTop (mkF m 86 #[.val (.ref a1), .val (.ref a2), .val (.long q3), .second] [(.long x8), (.ref a1)])) tg
    refine XS.lconst X21.here hx rfl (hb hby d3_86) ?_
    show Steps p.tables e below (T21.setTop (mkF m 87 #[.val (.ref a1), .val (.ref a2), .val (.long q3), .second] [(.long (0 : Int64)), (.long x8), (.ref a1)])) tg
    refine XS.lcmp X21.here hx rfl (hb hby d3_87) rfl ?_
    exact kt
  by_cases hc88 : x8 = (0 : Int64)
  · skip
    refine own_seg (T' := T21) (g' := (mkF m 91 #[.val (.ref a1), .val (.ref a2), .val (.long q3), .second] [(.ref a1)])) (fun tg kt => XS.ifNo X21.here hx rfl (hb hby d3_88) rfl ((if0 _ _).trans (teq ((lw_eq _ _).mpr hc88)).2) kt) ?_
    refine own_seg (T' := T21) (g' := (mkF m 99 #[.val (.ref a1), .val (.ref a2), .val (.long q3), .second] [(.long (0 : Int64)), (.ref a1)])) (fun tg kt => ?_) ?_
    · show Steps p.tables e below (T21.setTop (mkF m 91 #[.val (.ref a1), .val (.ref a2), .val (.long q3), .second] [(.ref a1)])) tg
      refine XS.lconst X21.here hx rfl (hb hby d3_91) ?_
      show Steps p.tables e below (T21.setTop (mkF m 92 #[.val (.ref a1), .val (.ref a2), .val (.long q3), .second] [(.long (0 : Int64)), (.ref a1)])) tg
      refine XS.goto X21.here hx rfl (pc0 := 92) (pc' := 99) rfl (hb hby d3_92) (by decide) (by decide) ?_
      exact kt
    refine own_putF K X21 e21 (host := "") (Or.inl (hw _ (List.mem_of_getElem? (i := 70) rfl))) Via.refl (O_a1_20.get 10 rfl) O_a1_20.exa (Or.inr ⟨(hw _ (List.mem_of_getElem? (i := 71) rfl)), rfl, rfl⟩) (hw _ (List.mem_of_getElem? (i := 34) rfl)) (ty := .long) (by decide) rfl rfl d3_99 ?_
    intro T22 h22 X22 e22 W22
    have O_a2_22 : own_Obj Z h22 a2 "com/example/hapax/hapax/core/Tally$Span" [("com/example/hapax/hapax/core/Tally$Span", "workNanosMin", "J", (.long x0)), ("com/example/hapax/hapax/core/Tally$Span", "executedStored", "J", (.long x1)), ("com/example/hapax/hapax/core/Tally$Span", "executedReleased", "J", (.long x2)), ("com/example/hapax/hapax/core/Tally$Span", "replayed", "J", (.long x3)), ("com/example/hapax/hapax/core/Tally$Span", "inFlight", "J", (.long x4)), ("com/example/hapax/hapax/core/Tally$Span", "keyReused", "J", (.long x5)), ("com/example/hapax/hapax/core/Tally$Span", "leaseLost", "J", (.long x6)), ("com/example/hapax/hapax/core/Tally$Span", "storeFailures", "J", (.long x7)), ("com/example/hapax/hapax/core/Tally$Span", "worksTimed", "J", (.long x8)), ("com/example/hapax/hapax/core/Tally$Span", "workNanosTotal", "J", (.long x9)), ("com/example/hapax/hapax/core/Tally$Span", "workNanosMax", "J", (.long x10))] := O_a2_20.other W22 ne_a2_a1
    have O_a1_22 : own_Obj Z h22 a1 "com/example/hapax/hapax/core/Counts" [("com/example/hapax/hapax/core/Counts", "executedStored", "J", (.long x1)), ("com/example/hapax/hapax/core/Counts", "executedReleased", "J", (.long x2)), ("com/example/hapax/hapax/core/Counts", "replayed", "J", (.long x3)), ("com/example/hapax/hapax/core/Counts", "inFlight", "J", (.long x4)), ("com/example/hapax/hapax/core/Counts", "keyReused", "J", (.long x5)), ("com/example/hapax/hapax/core/Counts", "leaseLost", "J", (.long x6)), ("com/example/hapax/hapax/core/Counts", "storeFailures", "J", (.long x7)), ("com/example/hapax/hapax/core/Counts", "worksRunning", "J", (.long q3)), ("com/example/hapax/hapax/core/Counts", "worksTimed", "J", (.long x8)), ("com/example/hapax/hapax/core/Counts", "workNanosTotal", "J", (.long x9)), ("com/example/hapax/hapax/core/Counts", "workNanosMin", "J", (.long (0 : Int64))), ("com/example/hapax/hapax/core/Counts", "workNanosMax", "J", (.long (0 : Int64)))] := O_a1_20.put (own_lay_Counts hw) rfl own_nd_Counts 10 rfl W22
    have Z22 : n0 ≤ h22.size := by rw [Wr.size W22]; exact Z20
    have N22 := Fr.snoc X22 N20 f_a1
    have K22 := K20.wr W22 (Or.inl (List.mem_of_getElem? (i := 0) rfl))
    show own_Fin p e below _ T22 (mkF m 102 #[.val (.ref a1), .val (.ref a2), .val (.long q3), .second] [])
    refine own_seg (T' := T22) (g' := (mkF m 104 #[.val (.ref a1), .val (.ref a2), .val (.long q3), .second] [(.ref a2), (.ref a1)])) (fun tg kt => ?_) ?_
    · show Steps p.tables e below (T22.setTop (mkF m 102 #[.val (.ref a1), .val (.ref a2), .val (.long q3), .second] [])) tg
      refine XS.aloadN X22.here hx rfl (hb hby d3_102) rfl rfl ?_
      show Steps p.tables e below (T22.setTop (mkF m 103 #[.val (.ref a1), .val (.ref a2), .val (.long q3), .second] [(.ref a1)])) tg
      refine XS.aloadN X22.here hx rfl (hb hby d3_103) rfl rfl ?_
      exact kt
    refine own_getF K X22 e22 (host := "") (Or.inl (hw _ (List.mem_of_getElem? (i := 72) rfl))) Via.refl (O_a2_22.get 10 rfl) d3_104 ?_
    intro T23 X23 e23
    show own_Fin p e below _ T23 (mkF m 107 #[.val (.ref a1), .val (.ref a2), .val (.long q3), .second] [(.long x10), (.ref a1)])
    refine own_putF K X23 e23 (host := "") (Or.inl (hw _ (List.mem_of_getElem? (i := 73) rfl))) Via.refl (O_a1_22.get 11 rfl) O_a1_22.exa (Or.inr ⟨(hw _ (List.mem_of_getElem? (i := 74) rfl)), rfl, rfl⟩) (hw _ (List.mem_of_getElem? (i := 34) rfl)) (ty := .long) (by decide) rfl rfl d3_107 ?_
    intro T24 h24 X24 e24 W24
    have O_a2_24 : own_Obj Z h24 a2 "com/example/hapax/hapax/core/Tally$Span" [("com/example/hapax/hapax/core/Tally$Span", "workNanosMin", "J", (.long x0)), ("com/example/hapax/hapax/core/Tally$Span", "executedStored", "J", (.long x1)), ("com/example/hapax/hapax/core/Tally$Span", "executedReleased", "J", (.long x2)), ("com/example/hapax/hapax/core/Tally$Span", "replayed", "J", (.long x3)), ("com/example/hapax/hapax/core/Tally$Span", "inFlight", "J", (.long x4)), ("com/example/hapax/hapax/core/Tally$Span", "keyReused", "J", (.long x5)), ("com/example/hapax/hapax/core/Tally$Span", "leaseLost", "J", (.long x6)), ("com/example/hapax/hapax/core/Tally$Span", "storeFailures", "J", (.long x7)), ("com/example/hapax/hapax/core/Tally$Span", "worksTimed", "J", (.long x8)), ("com/example/hapax/hapax/core/Tally$Span", "workNanosTotal", "J", (.long x9)), ("com/example/hapax/hapax/core/Tally$Span", "workNanosMax", "J", (.long x10))] := O_a2_22.other W24 ne_a2_a1
    have O_a1_24 : own_Obj Z h24 a1 "com/example/hapax/hapax/core/Counts" [("com/example/hapax/hapax/core/Counts", "executedStored", "J", (.long x1)), ("com/example/hapax/hapax/core/Counts", "executedReleased", "J", (.long x2)), ("com/example/hapax/hapax/core/Counts", "replayed", "J", (.long x3)), ("com/example/hapax/hapax/core/Counts", "inFlight", "J", (.long x4)), ("com/example/hapax/hapax/core/Counts", "keyReused", "J", (.long x5)), ("com/example/hapax/hapax/core/Counts", "leaseLost", "J", (.long x6)), ("com/example/hapax/hapax/core/Counts", "storeFailures", "J", (.long x7)), ("com/example/hapax/hapax/core/Counts", "worksRunning", "J", (.long q3)), ("com/example/hapax/hapax/core/Counts", "worksTimed", "J", (.long x8)), ("com/example/hapax/hapax/core/Counts", "workNanosTotal", "J", (.long x9)), ("com/example/hapax/hapax/core/Counts", "workNanosMin", "J", (.long (0 : Int64))), ("com/example/hapax/hapax/core/Counts", "workNanosMax", "J", (.long x10))] := O_a1_22.put (own_lay_Counts hw) rfl own_nd_Counts 11 rfl W24
    have Z24 : n0 ≤ h24.size := by rw [Wr.size W24]; exact Z22
    have N24 := Fr.snoc X24 N22 f_a1
    have K24 := K22.wr W24 (Or.inl (List.mem_of_getElem? (i := 0) rfl))
    show own_Fin p e below _ T24 (mkF m 110 #[.val (.ref a1), .val (.ref a2), .val (.long q3), .second] [])
    exact own_retV K X24 d3_110 (by rw [Q3, e24, if_pos hc88]; exact ⟨rfl, N24, K24, O_a1_24⟩) (by decide) (by decide)
  · skip
    refine own_seg (T' := T21) (g' := (mkF m 95 #[.val (.ref a1), .val (.ref a2), .val (.long q3), .second] [(.ref a1)])) (fun tg kt => XS.ifYes X21.here hx rfl (pc0 := 88) (pc' := 95) rfl (hb hby d3_88) rfl ((if0 _ _).trans (feq (fun q_ => hc88 ((lw_eq _ _).mp q_))).2) (by decide) (by decide) kt) ?_
    refine own_seg (T' := T21) (g' := (mkF m 96 #[.val (.ref a1), .val (.ref a2), .val (.long q3), .second] [(.ref a2), (.ref a1)])) (fun tg kt => ?_) ?_
    · show Steps p.tables e below (T21.setTop (mkF m 95 #[.val (.ref a1), .val (.ref a2), .val (.long q3), .second] [(.ref a1)])) tg
      refine XS.aloadN X21.here hx rfl (hb hby d3_95) rfl rfl ?_
      exact kt
    refine own_getF K X21 e21 (host := "") (Or.inl (hw _ (List.mem_of_getElem? (i := 69) rfl))) Via.refl (O_a2_20.get 0 rfl) d3_96 ?_
    intro T25 X25 e25
    show own_Fin p e below _ T25 (mkF m 99 #[.val (.ref a1), .val (.ref a2), .val (.long q3), .second] [(.long x0), (.ref a1)])
    refine own_putF K X25 e25 (host := "") (Or.inl (hw _ (List.mem_of_getElem? (i := 70) rfl))) Via.refl (O_a1_20.get 10 rfl) O_a1_20.exa (Or.inr ⟨(hw _ (List.mem_of_getElem? (i := 71) rfl)), rfl, rfl⟩) (hw _ (List.mem_of_getElem? (i := 34) rfl)) (ty := .long) (by decide) rfl rfl d3_99 ?_
    intro T26 h26 X26 e26 W26
    have O_a2_26 : own_Obj Z h26 a2 "com/example/hapax/hapax/core/Tally$Span" [("com/example/hapax/hapax/core/Tally$Span", "workNanosMin", "J", (.long x0)), ("com/example/hapax/hapax/core/Tally$Span", "executedStored", "J", (.long x1)), ("com/example/hapax/hapax/core/Tally$Span", "executedReleased", "J", (.long x2)), ("com/example/hapax/hapax/core/Tally$Span", "replayed", "J", (.long x3)), ("com/example/hapax/hapax/core/Tally$Span", "inFlight", "J", (.long x4)), ("com/example/hapax/hapax/core/Tally$Span", "keyReused", "J", (.long x5)), ("com/example/hapax/hapax/core/Tally$Span", "leaseLost", "J", (.long x6)), ("com/example/hapax/hapax/core/Tally$Span", "storeFailures", "J", (.long x7)), ("com/example/hapax/hapax/core/Tally$Span", "worksTimed", "J", (.long x8)), ("com/example/hapax/hapax/core/Tally$Span", "workNanosTotal", "J", (.long x9)), ("com/example/hapax/hapax/core/Tally$Span", "workNanosMax", "J", (.long x10))] := O_a2_20.other W26 ne_a2_a1
    have O_a1_26 : own_Obj Z h26 a1 "com/example/hapax/hapax/core/Counts" [("com/example/hapax/hapax/core/Counts", "executedStored", "J", (.long x1)), ("com/example/hapax/hapax/core/Counts", "executedReleased", "J", (.long x2)), ("com/example/hapax/hapax/core/Counts", "replayed", "J", (.long x3)), ("com/example/hapax/hapax/core/Counts", "inFlight", "J", (.long x4)), ("com/example/hapax/hapax/core/Counts", "keyReused", "J", (.long x5)), ("com/example/hapax/hapax/core/Counts", "leaseLost", "J", (.long x6)), ("com/example/hapax/hapax/core/Counts", "storeFailures", "J", (.long x7)), ("com/example/hapax/hapax/core/Counts", "worksRunning", "J", (.long q3)), ("com/example/hapax/hapax/core/Counts", "worksTimed", "J", (.long x8)), ("com/example/hapax/hapax/core/Counts", "workNanosTotal", "J", (.long x9)), ("com/example/hapax/hapax/core/Counts", "workNanosMin", "J", (.long x0)), ("com/example/hapax/hapax/core/Counts", "workNanosMax", "J", (.long (0 : Int64)))] := O_a1_20.put (own_lay_Counts hw) rfl own_nd_Counts 10 rfl W26
    have Z26 : n0 ≤ h26.size := by rw [Wr.size W26]; exact Z20
    have N26 := Fr.snoc X26 N20 f_a1
    have K26 := K20.wr W26 (Or.inl (List.mem_of_getElem? (i := 0) rfl))
    show own_Fin p e below _ T26 (mkF m 102 #[.val (.ref a1), .val (.ref a2), .val (.long q3), .second] [])
    refine own_seg (T' := T26) (g' := (mkF m 104 #[.val (.ref a1), .val (.ref a2), .val (.long q3), .second] [(.ref a2), (.ref a1)])) (fun tg kt => ?_) ?_
    · show Steps p.tables e below (T26.setTop (mkF m 102 #[.val (.ref a1), .val (.ref a2), .val (.long q3), .second] [])) tg
      refine XS.aloadN X26.here hx rfl (hb hby d3_102) rfl rfl ?_
      show Steps p.tables e below (T26.setTop (mkF m 103 #[.val (.ref a1), .val (.ref a2), .val (.long q3), .second] [(.ref a1)])) tg
      refine XS.aloadN X26.here hx rfl (hb hby d3_103) rfl rfl ?_
      exact kt
    refine own_getF K X26 e26 (host := "") (Or.inl (hw _ (List.mem_of_getElem? (i := 72) rfl))) Via.refl (O_a2_26.get 10 rfl) d3_104 ?_
    intro T27 X27 e27
    show own_Fin p e below _ T27 (mkF m 107 #[.val (.ref a1), .val (.ref a2), .val (.long q3), .second] [(.long x10), (.ref a1)])
    refine own_putF K X27 e27 (host := "") (Or.inl (hw _ (List.mem_of_getElem? (i := 73) rfl))) Via.refl (O_a1_26.get 11 rfl) O_a1_26.exa (Or.inr ⟨(hw _ (List.mem_of_getElem? (i := 74) rfl)), rfl, rfl⟩) (hw _ (List.mem_of_getElem? (i := 34) rfl)) (ty := .long) (by decide) rfl rfl d3_107 ?_
    intro T28 h28 X28 e28 W28
    have O_a2_28 : own_Obj Z h28 a2 "com/example/hapax/hapax/core/Tally$Span" [("com/example/hapax/hapax/core/Tally$Span", "workNanosMin", "J", (.long x0)), ("com/example/hapax/hapax/core/Tally$Span", "executedStored", "J", (.long x1)), ("com/example/hapax/hapax/core/Tally$Span", "executedReleased", "J", (.long x2)), ("com/example/hapax/hapax/core/Tally$Span", "replayed", "J", (.long x3)), ("com/example/hapax/hapax/core/Tally$Span", "inFlight", "J", (.long x4)), ("com/example/hapax/hapax/core/Tally$Span", "keyReused", "J", (.long x5)), ("com/example/hapax/hapax/core/Tally$Span", "leaseLost", "J", (.long x6)), ("com/example/hapax/hapax/core/Tally$Span", "storeFailures", "J", (.long x7)), ("com/example/hapax/hapax/core/Tally$Span", "worksTimed", "J", (.long x8)), ("com/example/hapax/hapax/core/Tally$Span", "workNanosTotal", "J", (.long x9)), ("com/example/hapax/hapax/core/Tally$Span", "workNanosMax", "J", (.long x10))] := O_a2_26.other W28 ne_a2_a1
    have O_a1_28 : own_Obj Z h28 a1 "com/example/hapax/hapax/core/Counts" [("com/example/hapax/hapax/core/Counts", "executedStored", "J", (.long x1)), ("com/example/hapax/hapax/core/Counts", "executedReleased", "J", (.long x2)), ("com/example/hapax/hapax/core/Counts", "replayed", "J", (.long x3)), ("com/example/hapax/hapax/core/Counts", "inFlight", "J", (.long x4)), ("com/example/hapax/hapax/core/Counts", "keyReused", "J", (.long x5)), ("com/example/hapax/hapax/core/Counts", "leaseLost", "J", (.long x6)), ("com/example/hapax/hapax/core/Counts", "storeFailures", "J", (.long x7)), ("com/example/hapax/hapax/core/Counts", "worksRunning", "J", (.long q3)), ("com/example/hapax/hapax/core/Counts", "worksTimed", "J", (.long x8)), ("com/example/hapax/hapax/core/Counts", "workNanosTotal", "J", (.long x9)), ("com/example/hapax/hapax/core/Counts", "workNanosMin", "J", (.long x0)), ("com/example/hapax/hapax/core/Counts", "workNanosMax", "J", (.long x10))] := O_a1_26.put (own_lay_Counts hw) rfl own_nd_Counts 11 rfl W28
    have Z28 : n0 ≤ h28.size := by rw [Wr.size W28]; exact Z26
    have N28 := Fr.snoc X28 N26 f_a1
    have K28 := K26.wr W28 (Or.inl (List.mem_of_getElem? (i := 0) rfl))
    show own_Fin p e below _ T28 (mkF m 110 #[.val (.ref a1), .val (.ref a2), .val (.long q3), .second] [])
    exact own_retV K X28 d3_110 (by rw [Q3, e28, if_neg hc88]; exact ⟨rfl, N28, K28, O_a1_28⟩) (by decide) (by decide)
theorem own_pn4 : plainName "com/example/hapax/hapax/core/Counts" = true := by first | (simp [plainName, overriddenIn]; done) | decide +kernel
theorem d4_0 : decode prog_9_method_2_code 0 = .ok (.aload_n 0, 1) := by decide +kernel
theorem d4_1 : decode prog_9_method_2_code 1 = .ok (.getfield 13, 3) := by decide +kernel
theorem d4_4 : decode prog_9_method_2_code 4 = .ok (.aload_n 0, 1) := by decide +kernel
theorem d4_5 : decode prog_9_method_2_code 5 = .ok (.getfield 19, 3) := by decide +kernel
theorem d4_8 : decode prog_9_method_2_code 8 = .ok (.ladd, 1) := by decide +kernel
theorem d4_9 : decode prog_9_method_2_code 9 = .ok (.aload_n 0, 1) := by decide +kernel
theorem d4_10 : decode prog_9_method_2_code 10 = .ok (.getfield 23, 3) := by decide +kernel
theorem d4_13 : decode prog_9_method_2_code 13 = .ok (.ladd, 1) := by decide +kernel
theorem d4_14 : decode prog_9_method_2_code 14 = .ok (.aload_n 0, 1) := by decide +kernel
theorem d4_15 : decode prog_9_method_2_code 15 = .ok (.getfield 27, 3) := by decide +kernel
theorem d4_18 : decode prog_9_method_2_code 18 = .ok (.ladd, 1) := by decide +kernel
theorem d4_19 : decode prog_9_method_2_code 19 = .ok (.aload_n 0, 1) := by decide +kernel
theorem d4_20 : decode prog_9_method_2_code 20 = .ok (.getfield 31, 3) := by decide +kernel
theorem d4_23 : decode prog_9_method_2_code 23 = .ok (.ladd, 1) := by decide +kernel
theorem d4_24 : decode prog_9_method_2_code 24 = .ok (.aload_n 0, 1) := by decide +kernel
theorem d4_25 : decode prog_9_method_2_code 25 = .ok (.getfield 35, 3) := by decide +kernel
theorem d4_28 : decode prog_9_method_2_code 28 = .ok (.ladd, 1) := by decide +kernel
theorem d4_29 : decode prog_9_method_2_code 29 = .ok (.aload_n 0, 1) := by decide +kernel
theorem d4_30 : decode prog_9_method_2_code 30 = .ok (.getfield 39, 3) := by decide +kernel
theorem d4_33 : decode prog_9_method_2_code 33 = .ok (.ladd, 1) := by decide +kernel
theorem d4_34 : decode prog_9_method_2_code 34 = .ok (.lreturn, 1) := by decide +kernel
set_option maxRecDepth 65536 in
set_option maxHeartbeats 40000000 in
theorem rm4 (l : Launch) (Z : State) (a0 : Array Value) (hw : ∀ d ∈ tables_1, d.before a0 Z = true) (a1 : Addr) (y0 y1 y2 y3 y4 y5 y6 y7 y8 y9 y10 y11 : Int64) (h0 : Heap) (n0 : Nat) (Z0 : n0 ≤ h0.size) (O_a1 : own_Obj Z h0 a1 "com/example/hapax/hapax/core/Counts" [("com/example/hapax/hapax/core/Counts", "executedStored", "J", (.long y0)), ("com/example/hapax/hapax/core/Counts", "executedReleased", "J", (.long y1)), ("com/example/hapax/hapax/core/Counts", "replayed", "J", (.long y2)), ("com/example/hapax/hapax/core/Counts", "inFlight", "J", (.long y3)), ("com/example/hapax/hapax/core/Counts", "keyReused", "J", (.long y4)), ("com/example/hapax/hapax/core/Counts", "leaseLost", "J", (.long y5)), ("com/example/hapax/hapax/core/Counts", "storeFailures", "J", (.long y6)), ("com/example/hapax/hapax/core/Counts", "worksRunning", "J", (.long y7)), ("com/example/hapax/hapax/core/Counts", "worksTimed", "J", (.long y8)), ("com/example/hapax/hapax/core/Counts", "workNanosTotal", "J", (.long y9)), ("com/example/hapax/hapax/core/Counts", "workNanosMin", "J", (.long y10)), ("com/example/hapax/hapax/core/Counts", "workNanosMax", "J", (.long y11))]) :
    own_Met l Z (⟨"com/example/hapax/hapax/core/Counts", "calls", "()J"⟩ : MethodName) prog_9_method_2_code 1 (some .long) ({ frames := 0, cells := 0, slots := 0, locals := 0 } : Room) #[(.ref a1)] h0 (own_QJ ((((((y0 + y1) + y2) + y3) + y4) + y5) + y6) h0 n0) := by
  refine own_enter (plainFor_of_name own_pn4) (fun m => by first | (simp [entryFrame, mkF, argsToLocals, Value.category, maxLocals]; done) | rfl) (Ls := #[.val (.ref a1)]) ?_
  intro p e s m below meth c T0 K X0 e0
  have hx := K.1
  have hZ := K.2.1
  have hby := K.2.2.1
  have hown := K.2.2.2.2.1
  have N0 := Fr.nil n0
  show own_Fin p e below _ T0 (mkF m 0 #[.val (.ref a1)] [])
  refine own_seg (T' := T0) (g' := (mkF m 1 #[.val (.ref a1)] [(.ref a1)])) (fun tg kt => ?_) ?_
  · show Steps p.tables e below (T0.setTop (mkF m 0 #[.val (.ref a1)] [])) tg
    refine XS.aloadN X0.here hx rfl (hb hby d4_0) rfl rfl ?_
    exact kt
  refine own_getF K X0 e0 (host := "") (Or.inl (hw _ (List.mem_of_getElem? (i := 41) rfl))) Via.refl (O_a1.get 0 rfl) d4_1 ?_
  intro T1 X1 e1
  show own_Fin p e below _ T1 (mkF m 4 #[.val (.ref a1)] [(.long y0)])
  refine own_seg (T' := T1) (g' := (mkF m 5 #[.val (.ref a1)] [(.ref a1), (.long y0)])) (fun tg kt => ?_) ?_
  · show Steps p.tables e below (T1.setTop (mkF m 4 #[.val (.ref a1)] [(.long y0)])) tg
    refine XS.aloadN X1.here hx rfl (hb hby d4_4) rfl rfl ?_
    exact kt
  refine own_getF K X1 e1 (host := "") (Or.inl (hw _ (List.mem_of_getElem? (i := 44) rfl))) Via.refl (O_a1.get 1 rfl) d4_5 ?_
  intro T2 X2 e2
  show own_Fin p e below _ T2 (mkF m 8 #[.val (.ref a1)] [(.long y1), (.long y0)])
  refine own_seg (T' := T2) (g' := (mkF m 10 #[.val (.ref a1)] [(.ref a1), (.long (y0 + y1))])) (fun tg kt => ?_) ?_
  · show Steps p.tables e below (T2.setTop (mkF m 8 #[.val (.ref a1)] [(.long y1), (.long y0)])) tg
    refine XS.ladd X2.here hx rfl (hb hby d4_8) rfl ?_
    show Steps p.tables e below (T2.setTop (mkF m 9 #[.val (.ref a1)] [(.long (y0 + y1))])) tg
    refine XS.aloadN X2.here hx rfl (hb hby d4_9) rfl rfl ?_
    exact kt
  refine own_getF K X2 e2 (host := "") (Or.inl (hw _ (List.mem_of_getElem? (i := 47) rfl))) Via.refl (O_a1.get 2 rfl) d4_10 ?_
  intro T3 X3 e3
  show own_Fin p e below _ T3 (mkF m 13 #[.val (.ref a1)] [(.long y2), (.long (y0 + y1))])
  refine own_seg (T' := T3) (g' := (mkF m 15 #[.val (.ref a1)] [(.ref a1), (.long ((y0 + y1) + y2))])) (fun tg kt => ?_) ?_
  · show Steps p.tables e below (T3.setTop (mkF m 13 #[.val (.ref a1)] [(.long y2), (.long (y0 + y1))])) tg
    refine XS.ladd X3.here hx rfl (hb hby d4_13) rfl ?_
    show Steps p.tables e below (T3.setTop (mkF m 14 #[.val (.ref a1)] [(.long ((y0 + y1) + y2))])) tg
    refine XS.aloadN X3.here hx rfl (hb hby d4_14) rfl rfl ?_
    exact kt
  refine own_getF K X3 e3 (host := "") (Or.inl (hw _ (List.mem_of_getElem? (i := 50) rfl))) Via.refl (O_a1.get 3 rfl) d4_15 ?_
  intro T4 X4 e4
  show own_Fin p e below _ T4 (mkF m 18 #[.val (.ref a1)] [(.long y3), (.long ((y0 + y1) + y2))])
  refine own_seg (T' := T4) (g' := (mkF m 20 #[.val (.ref a1)] [(.ref a1), (.long (((y0 + y1) + y2) + y3))])) (fun tg kt => ?_) ?_
  · show Steps p.tables e below (T4.setTop (mkF m 18 #[.val (.ref a1)] [(.long y3), (.long ((y0 + y1) + y2))])) tg
    refine XS.ladd X4.here hx rfl (hb hby d4_18) rfl ?_
    show Steps p.tables e below (T4.setTop (mkF m 19 #[.val (.ref a1)] [(.long (((y0 + y1) + y2) + y3))])) tg
    refine XS.aloadN X4.here hx rfl (hb hby d4_19) rfl rfl ?_
    exact kt
  refine own_getF K X4 e4 (host := "") (Or.inl (hw _ (List.mem_of_getElem? (i := 53) rfl))) Via.refl (O_a1.get 4 rfl) d4_20 ?_
  intro T5 X5 e5
  show own_Fin p e below _ T5 (mkF m 23 #[.val (.ref a1)] [(.long y4), (.long (((y0 + y1) + y2) + y3))])
  refine own_seg (T' := T5) (g' := (mkF m 25 #[.val (.ref a1)] [(.ref a1), (.long ((((y0 + y1) + y2) + y3) + y4))])) (fun tg kt => ?_) ?_
  · show Steps p.tables e below (T5.setTop (mkF m 23 #[.val (.ref a1)] [(.long y4), (.long (((y0 + y1) + y2) + y3))])) tg
    refine XS.ladd X5.here hx rfl (hb hby d4_23) rfl ?_
    show Steps p.tables e below (T5.setTop (mkF m 24 #[.val (.ref a1)] [(.long ((((y0 + y1) + y2) + y3) + y4))])) tg
    refine XS.aloadN X5.here hx rfl (hb hby d4_24) rfl rfl ?_
    exact kt
  refine own_getF K X5 e5 (host := "") (Or.inl (hw _ (List.mem_of_getElem? (i := 56) rfl))) Via.refl (O_a1.get 5 rfl) d4_25 ?_
  intro T6 X6 e6
  show own_Fin p e below _ T6 (mkF m 28 #[.val (.ref a1)] [(.long y5), (.long ((((y0 + y1) + y2) + y3) + y4))])
  refine own_seg (T' := T6) (g' := (mkF m 30 #[.val (.ref a1)] [(.ref a1), (.long (((((y0 + y1) + y2) + y3) + y4) + y5))])) (fun tg kt => ?_) ?_
  · show Steps p.tables e below (T6.setTop (mkF m 28 #[.val (.ref a1)] [(.long y5), (.long ((((y0 + y1) + y2) + y3) + y4))])) tg
    refine XS.ladd X6.here hx rfl (hb hby d4_28) rfl ?_
    show Steps p.tables e below (T6.setTop (mkF m 29 #[.val (.ref a1)] [(.long (((((y0 + y1) + y2) + y3) + y4) + y5))])) tg
    refine XS.aloadN X6.here hx rfl (hb hby d4_29) rfl rfl ?_
    exact kt
  refine own_getF K X6 e6 (host := "") (Or.inl (hw _ (List.mem_of_getElem? (i := 59) rfl))) Via.refl (O_a1.get 6 rfl) d4_30 ?_
  intro T7 X7 e7
  show own_Fin p e below _ T7 (mkF m 33 #[.val (.ref a1)] [(.long y6), (.long (((((y0 + y1) + y2) + y3) + y4) + y5))])
  refine own_seg (T' := T7) (g' := (mkF m 34 #[.val (.ref a1)] [(.long ((((((y0 + y1) + y2) + y3) + y4) + y5) + y6))])) (fun tg kt => ?_) ?_
  · show Steps p.tables e below (T7.setTop (mkF m 33 #[.val (.ref a1)] [(.long y6), (.long (((((y0 + y1) + y2) + y3) + y4) + y5))])) tg
    refine XS.ladd X7.here hx rfl (hb hby d4_33) rfl ?_
    exact kt
  exact own_retJ K X7 d4_34 (⟨rfl, N0, e7⟩) (by decide) (by decide)
theorem own_pn0 : plainName "com/example/hapax/hapax/core/CountsCallsPinLaw" = true := by first | (simp [plainName, overriddenIn]; done) | decide +kernel
theorem own_pd0 : parseMethodDescriptor "()V" = some ⟨[], none⟩ := by decide +kernel
theorem own_pd1 : parseMethodDescriptor "(Lcom/example/hapax/hapax/core/Tally$Span;J)V" = some ⟨[(.object "com/example/hapax/hapax/core/Tally$Span"), .long], none⟩ := by decide +kernel
theorem own_pd2 : parseMethodDescriptor "()J" = some ⟨[], some .long⟩ := by decide +kernel
set_option maxRecDepth 65536 in
set_option maxHeartbeats 40000000 in
theorem rm0 (l : Launch) (Z : State) (a0 : Array Value) (hw : ∀ d ∈ tables_1, d.before a0 Z = true) (q1 q2 q3 q4 q5 q6 : Int64) (h0 : Heap) (n0 : Nat) (Z0 : n0 ≤ h0.size)  :
    own_Met l Z x code maxLocals ret room_1 #[(.long q1), (.long q2), (.long q3), (.long q4), (.long q5), (.long q6)] h0 (own_Q1 n0) := by
  refine own_enter (plainFor_of_name own_pn0) (fun m => by first | (simp [entryFrame, mkF, argsToLocals, Value.category, maxLocals]; done) | rfl) (Ls := #[.val (.long q1), .second, .val (.long q2), .second, .val (.long q3), .second, .val (.long q4), .second, .val (.long q5), .second, .val (.long q6), .second, .unset, .unset, .unset, .unset]) ?_
  intro p e s m below meth c T0 K X0 e0
  have hx := K.1
  have hZ := K.2.1
  have hby := K.2.2.1
  have hown := K.2.2.2.2.1
  have N0 := Fr.nil n0
  show own_Fin p e below _ T0 (mkF m 0 #[.val (.long q1), .second, .val (.long q2), .second, .val (.long q3), .second, .val (.long q4), .second, .val (.long q5), .second, .val (.long q6), .second, .unset, .unset, .unset, .unset] [])
  refine own_newO K X0 e0 (hw _ (List.mem_of_getElem? (i := 0) rfl)) (hw _ (List.mem_of_getElem? (i := 1) rfl)) (hw _ (List.mem_of_getElem? (i := 2) rfl)) at_0 (by decide) (by decide) ?_
  intro T1 h1 b1 g1 X1 e1 E1 A1 D1
  have f_b1 : n0 ≤ b1 := Nat.le_trans Z0 (Nat.le_of_eq g1.symm)
  have Z1 : n0 ≤ h1.size := Nat.le_trans Z0 E1.1
  have O_b1_1 : own_Obj Z h1 b1 "com/example/hapax/hapax/core/Tally$Span" [("com/example/hapax/hapax/core/Tally$Span", "workNanosMin", "J", (.long (0 : Int64))), ("com/example/hapax/hapax/core/Tally$Span", "executedStored", "J", (.long (0 : Int64))), ("com/example/hapax/hapax/core/Tally$Span", "executedReleased", "J", (.long (0 : Int64))), ("com/example/hapax/hapax/core/Tally$Span", "replayed", "J", (.long (0 : Int64))), ("com/example/hapax/hapax/core/Tally$Span", "inFlight", "J", (.long (0 : Int64))), ("com/example/hapax/hapax/core/Tally$Span", "keyReused", "J", (.long (0 : Int64))), ("com/example/hapax/hapax/core/Tally$Span", "leaseLost", "J", (.long (0 : Int64))), ("com/example/hapax/hapax/core/Tally$Span", "storeFailures", "J", (.long (0 : Int64))), ("com/example/hapax/hapax/core/Tally$Span", "worksTimed", "J", (.long (0 : Int64))), ("com/example/hapax/hapax/core/Tally$Span", "workNanosTotal", "J", (.long (0 : Int64))), ("com/example/hapax/hapax/core/Tally$Span", "workNanosMax", "J", (.long (0 : Int64)))] := ⟨A1, by
    intro q hq
    simp only [List.mem_cons, List.not_mem_nil, or_false] at hq
    rcases hq with rfl | rfl | rfl | rfl | rfl | rfl | rfl | rfl | rfl | rfl | rfl
    · exact D1 (Or.inl (hw _ (List.mem_of_getElem? (i := 11) rfl))) (ty := .long) (by decide)
    · exact D1 (Or.inl (hw _ (List.mem_of_getElem? (i := 13) rfl))) (ty := .long) (by decide)
    · exact D1 (Or.inl (hw _ (List.mem_of_getElem? (i := 15) rfl))) (ty := .long) (by decide)
    · exact D1 (Or.inl (hw _ (List.mem_of_getElem? (i := 17) rfl))) (ty := .long) (by decide)
    · exact D1 (Or.inl (hw _ (List.mem_of_getElem? (i := 19) rfl))) (ty := .long) (by decide)
    · exact D1 (Or.inl (hw _ (List.mem_of_getElem? (i := 21) rfl))) (ty := .long) (by decide)
    · exact D1 (Or.inl (hw _ (List.mem_of_getElem? (i := 23) rfl))) (ty := .long) (by decide)
    · exact D1 (Or.inl (hw _ (List.mem_of_getElem? (i := 25) rfl))) (ty := .long) (by decide)
    · exact D1 (Or.inl (hw _ (List.mem_of_getElem? (i := 27) rfl))) (ty := .long) (by decide)
    · exact D1 (Or.inl (hw _ (List.mem_of_getElem? (i := 29) rfl))) (ty := .long) (by decide)
    · exact D1 (Or.inl (hw _ (List.mem_of_getElem? (i := 32) rfl))) (ty := .long) (by decide)⟩
  show own_Fin p e below _ T1 (mkF m 3 #[.val (.long q1), .second, .val (.long q2), .second, .val (.long q3), .second, .val (.long q4), .second, .val (.long q5), .second, .val (.long q6), .second, .unset, .unset, .unset, .unset] [(.ref b1)])
  refine own_seg (T' := T1) (g' := (mkF m 4 #[.val (.long q1), .second, .val (.long q2), .second, .val (.long q3), .second, .val (.long q4), .second, .val (.long q5), .second, .val (.long q6), .second, .unset, .unset, .unset, .unset] [(.ref b1), (.ref b1)])) (fun tg kt => ?_) ?_
  · show Steps p.tables e below (T1.setTop (mkF m 3 #[.val (.long q1), .second, .val (.long q2), .second, .val (.long q3), .second, .val (.long q4), .second, .val (.long q5), .second, .val (.long q6), .second, .unset, .unset, .unset, .unset] [(.ref b1)])) tg
    refine XS.dup X1.here hx rfl (hb hby at_3) rfl rfl ?_
    exact kt
  refine own_callI K X1 e1 (rm1 l Z a0 hw b1 h1 n0 Z1 f_b1 O_b1_1) rfl (hw _ (List.mem_of_getElem? (i := 3) rfl)) (hw _ (List.mem_of_getElem? (i := 4) rfl)) (hw _ (List.mem_of_getElem? (i := 2) rfl)) (hw _ (List.mem_of_getElem? (i := 5) rfl)) (by decide) b1 [] [(.ref b1)] own_pd0 rfl rfl rfl rfl at_4 (by decide) (Nat.le_of_ble_eq_true rfl) (by decide) (by decide) ?_
  intro T2 L2 v2 X2 hQ2
  obtain ⟨h2, e2⟩ : ∃ z, T2.heap = z := ⟨_, rfl⟩
  rw [e2] at hQ2
  obtain ⟨rfl, Nq2, Kq2, Oq2_b1⟩ := hQ2
  have N2 := Fr.app N0 Nq2
  have Z2 : n0 ≤ h2.size := Nat.le_trans Z1 Kq2.1
  show own_Fin p e below _ T2 (mkF m 7 #[.val (.long q1), .second, .val (.long q2), .second, .val (.long q3), .second, .val (.long q4), .second, .val (.long q5), .second, .val (.long q6), .second, .unset, .unset, .unset, .unset] [(.ref b1)])
  refine own_seg (T' := T2) (g' := (mkF m 12 #[.val (.long q1), .second, .val (.long q2), .second, .val (.long q3), .second, .val (.long q4), .second, .val (.long q5), .second, .val (.long q6), .second, .val (.ref b1), .unset, .unset, .unset] [(.long q1), (.ref b1)])) (fun tg kt => ?_) ?_
  · show Steps p.tables e below (T2.setTop (mkF m 7 #[.val (.long q1), .second, .val (.long q2), .second, .val (.long q3), .second, .val (.long q4), .second, .val (.long q5), .second, .val (.long q6), .second, .unset, .unset, .unset, .unset] [(.ref b1)])) tg
    refine XS.astore X2.here hx rfl (hb hby at_7) rfl rfl (l' := #[.val (.long q1), .second, .val (.long q2), .second, .val (.long q3), .second, .val (.long q4), .second, .val (.long q5), .second, .val (.long q6), .second, .val (.ref b1), .unset, .unset, .unset]) rfl ?_
    show Steps p.tables e below (T2.setTop (mkF m 9 #[.val (.long q1), .second, .val (.long q2), .second, .val (.long q3), .second, .val (.long q4), .second, .val (.long q5), .second, .val (.long q6), .second, .val (.ref b1), .unset, .unset, .unset] [])) tg
    refine XS.aload X2.here hx rfl (hb hby at_9) rfl rfl ?_
    show Steps p.tables e below (T2.setTop (mkF m 11 #[.val (.long q1), .second, .val (.long q2), .second, .val (.long q3), .second, .val (.long q4), .second, .val (.long q5), .second, .val (.long q6), .second, .val (.ref b1), .unset, .unset, .unset] [(.ref b1)])) tg
    refine XS.lloadN X2.here hx rfl (hb hby at_11) rfl ?_
    exact kt
  refine own_putF K X2 e2 (host := "") (Or.inl (hw _ (List.mem_of_getElem? (i := 12) rfl))) Via.refl (Oq2_b1.get 1 rfl) Oq2_b1.exa (Or.inl (hw _ (List.mem_of_getElem? (i := 13) rfl))) (hw _ (List.mem_of_getElem? (i := 1) rfl)) (ty := .long) (by decide) rfl rfl at_12 ?_
  intro T3 h3 X3 e3 W3
  have O_b1_3 : own_Obj Z h3 b1 "com/example/hapax/hapax/core/Tally$Span" [("com/example/hapax/hapax/core/Tally$Span", "workNanosMin", "J", (.long (9223372036854775807 : Int64))), ("com/example/hapax/hapax/core/Tally$Span", "executedStored", "J", (.long q1)), ("com/example/hapax/hapax/core/Tally$Span", "executedReleased", "J", (.long (0 : Int64))), ("com/example/hapax/hapax/core/Tally$Span", "replayed", "J", (.long (0 : Int64))), ("com/example/hapax/hapax/core/Tally$Span", "inFlight", "J", (.long (0 : Int64))), ("com/example/hapax/hapax/core/Tally$Span", "keyReused", "J", (.long (0 : Int64))), ("com/example/hapax/hapax/core/Tally$Span", "leaseLost", "J", (.long (0 : Int64))), ("com/example/hapax/hapax/core/Tally$Span", "storeFailures", "J", (.long (0 : Int64))), ("com/example/hapax/hapax/core/Tally$Span", "worksTimed", "J", (.long (0 : Int64))), ("com/example/hapax/hapax/core/Tally$Span", "workNanosTotal", "J", (.long (0 : Int64))), ("com/example/hapax/hapax/core/Tally$Span", "workNanosMax", "J", (.long (0 : Int64)))] := Oq2_b1.put (own_lay_Tally_Span hw) rfl own_nd_Tally_Span 1 rfl W3
  have Z3 : n0 ≤ h3.size := by rw [Wr.size W3]; exact Z2
  have N3 := Fr.snoc X3 N2 f_b1
  show own_Fin p e below _ T3 (mkF m 15 #[.val (.long q1), .second, .val (.long q2), .second, .val (.long q3), .second, .val (.long q4), .second, .val (.long q5), .second, .val (.long q6), .second, .val (.ref b1), .unset, .unset, .unset] [])
  refine own_seg (T' := T3) (g' := (mkF m 18 #[.val (.long q1), .second, .val (.long q2), .second, .val (.long q3), .second, .val (.long q4), .second, .val (.long q5), .second, .val (.long q6), .second, .val (.ref b1), .unset, .unset, .unset] [(.long q2), (.ref b1)])) (fun tg kt => ?_) ?_
  · show Steps p.tables e below (T3.setTop (mkF m 15 #[.val (.long q1), .second, .val (.long q2), .second, .val (.long q3), .second, .val (.long q4), .second, .val (.long q5), .second, .val (.long q6), .second, .val (.ref b1), .unset, .unset, .unset] [])) tg
    refine XS.aload X3.here hx rfl (hb hby at_15) rfl rfl ?_
    show Steps p.tables e below (T3.setTop (mkF m 17 #[.val (.long q1), .second, .val (.long q2), .second, .val (.long q3), .second, .val (.long q4), .second, .val (.long q5), .second, .val (.long q6), .second, .val (.ref b1), .unset, .unset, .unset] [(.ref b1)])) tg
    refine XS.lloadN X3.here hx rfl (hb hby at_17) rfl ?_
    exact kt
  refine own_putF K X3 e3 (host := "") (Or.inl (hw _ (List.mem_of_getElem? (i := 14) rfl))) Via.refl (O_b1_3.get 2 rfl) O_b1_3.exa (Or.inl (hw _ (List.mem_of_getElem? (i := 15) rfl))) (hw _ (List.mem_of_getElem? (i := 1) rfl)) (ty := .long) (by decide) rfl rfl at_18 ?_
  intro T4 h4 X4 e4 W4
  have O_b1_4 : own_Obj Z h4 b1 "com/example/hapax/hapax/core/Tally$Span" [("com/example/hapax/hapax/core/Tally$Span", "workNanosMin", "J", (.long (9223372036854775807 : Int64))), ("com/example/hapax/hapax/core/Tally$Span", "executedStored", "J", (.long q1)), ("com/example/hapax/hapax/core/Tally$Span", "executedReleased", "J", (.long q2)), ("com/example/hapax/hapax/core/Tally$Span", "replayed", "J", (.long (0 : Int64))), ("com/example/hapax/hapax/core/Tally$Span", "inFlight", "J", (.long (0 : Int64))), ("com/example/hapax/hapax/core/Tally$Span", "keyReused", "J", (.long (0 : Int64))), ("com/example/hapax/hapax/core/Tally$Span", "leaseLost", "J", (.long (0 : Int64))), ("com/example/hapax/hapax/core/Tally$Span", "storeFailures", "J", (.long (0 : Int64))), ("com/example/hapax/hapax/core/Tally$Span", "worksTimed", "J", (.long (0 : Int64))), ("com/example/hapax/hapax/core/Tally$Span", "workNanosTotal", "J", (.long (0 : Int64))), ("com/example/hapax/hapax/core/Tally$Span", "workNanosMax", "J", (.long (0 : Int64)))] := O_b1_3.put (own_lay_Tally_Span hw) rfl own_nd_Tally_Span 2 rfl W4
  have Z4 : n0 ≤ h4.size := by rw [Wr.size W4]; exact Z3
  have N4 := Fr.snoc X4 N3 f_b1
  show own_Fin p e below _ T4 (mkF m 21 #[.val (.long q1), .second, .val (.long q2), .second, .val (.long q3), .second, .val (.long q4), .second, .val (.long q5), .second, .val (.long q6), .second, .val (.ref b1), .unset, .unset, .unset] [])
  refine own_seg (T' := T4) (g' := (mkF m 25 #[.val (.long q1), .second, .val (.long q2), .second, .val (.long q3), .second, .val (.long q4), .second, .val (.long q5), .second, .val (.long q6), .second, .val (.ref b1), .unset, .unset, .unset] [(.long q3), (.ref b1)])) (fun tg kt => ?_) ?_
  · show Steps p.tables e below (T4.setTop (mkF m 21 #[.val (.long q1), .second, .val (.long q2), .second, .val (.long q3), .second, .val (.long q4), .second, .val (.long q5), .second, .val (.long q6), .second, .val (.ref b1), .unset, .unset, .unset] [])) tg
    refine XS.aload X4.here hx rfl (hb hby at_21) rfl rfl ?_
    show Steps p.tables e below (T4.setTop (mkF m 23 #[.val (.long q1), .second, .val (.long q2), .second, .val (.long q3), .second, .val (.long q4), .second, .val (.long q5), .second, .val (.long q6), .second, .val (.ref b1), .unset, .unset, .unset] [(.ref b1)])) tg
    refine XS.lload X4.here hx rfl (hb hby at_23) rfl ?_
    exact kt
  refine own_putF K X4 e4 (host := "") (Or.inl (hw _ (List.mem_of_getElem? (i := 16) rfl))) Via.refl (O_b1_4.get 3 rfl) O_b1_4.exa (Or.inl (hw _ (List.mem_of_getElem? (i := 17) rfl))) (hw _ (List.mem_of_getElem? (i := 1) rfl)) (ty := .long) (by decide) rfl rfl at_25 ?_
  intro T5 h5 X5 e5 W5
  have O_b1_5 : own_Obj Z h5 b1 "com/example/hapax/hapax/core/Tally$Span" [("com/example/hapax/hapax/core/Tally$Span", "workNanosMin", "J", (.long (9223372036854775807 : Int64))), ("com/example/hapax/hapax/core/Tally$Span", "executedStored", "J", (.long q1)), ("com/example/hapax/hapax/core/Tally$Span", "executedReleased", "J", (.long q2)), ("com/example/hapax/hapax/core/Tally$Span", "replayed", "J", (.long q3)), ("com/example/hapax/hapax/core/Tally$Span", "inFlight", "J", (.long (0 : Int64))), ("com/example/hapax/hapax/core/Tally$Span", "keyReused", "J", (.long (0 : Int64))), ("com/example/hapax/hapax/core/Tally$Span", "leaseLost", "J", (.long (0 : Int64))), ("com/example/hapax/hapax/core/Tally$Span", "storeFailures", "J", (.long (0 : Int64))), ("com/example/hapax/hapax/core/Tally$Span", "worksTimed", "J", (.long (0 : Int64))), ("com/example/hapax/hapax/core/Tally$Span", "workNanosTotal", "J", (.long (0 : Int64))), ("com/example/hapax/hapax/core/Tally$Span", "workNanosMax", "J", (.long (0 : Int64)))] := O_b1_4.put (own_lay_Tally_Span hw) rfl own_nd_Tally_Span 3 rfl W5
  have Z5 : n0 ≤ h5.size := by rw [Wr.size W5]; exact Z4
  have N5 := Fr.snoc X5 N4 f_b1
  show own_Fin p e below _ T5 (mkF m 28 #[.val (.long q1), .second, .val (.long q2), .second, .val (.long q3), .second, .val (.long q4), .second, .val (.long q5), .second, .val (.long q6), .second, .val (.ref b1), .unset, .unset, .unset] [])
  refine own_seg (T' := T5) (g' := (mkF m 32 #[.val (.long q1), .second, .val (.long q2), .second, .val (.long q3), .second, .val (.long q4), .second, .val (.long q5), .second, .val (.long q6), .second, .val (.ref b1), .unset, .unset, .unset] [(.long q4), (.ref b1)])) (fun tg kt => ?_) ?_
  · show Steps p.tables e below (T5.setTop (mkF m 28 #[.val (.long q1), .second, .val (.long q2), .second, .val (.long q3), .second, .val (.long q4), .second, .val (.long q5), .second, .val (.long q6), .second, .val (.ref b1), .unset, .unset, .unset] [])) tg
    refine XS.aload X5.here hx rfl (hb hby at_28) rfl rfl ?_
    show Steps p.tables e below (T5.setTop (mkF m 30 #[.val (.long q1), .second, .val (.long q2), .second, .val (.long q3), .second, .val (.long q4), .second, .val (.long q5), .second, .val (.long q6), .second, .val (.ref b1), .unset, .unset, .unset] [(.ref b1)])) tg
    refine XS.lload X5.here hx rfl (hb hby at_30) rfl ?_
    exact kt
  refine own_putF K X5 e5 (host := "") (Or.inl (hw _ (List.mem_of_getElem? (i := 18) rfl))) Via.refl (O_b1_5.get 4 rfl) O_b1_5.exa (Or.inl (hw _ (List.mem_of_getElem? (i := 19) rfl))) (hw _ (List.mem_of_getElem? (i := 1) rfl)) (ty := .long) (by decide) rfl rfl at_32 ?_
  intro T6 h6 X6 e6 W6
  have O_b1_6 : own_Obj Z h6 b1 "com/example/hapax/hapax/core/Tally$Span" [("com/example/hapax/hapax/core/Tally$Span", "workNanosMin", "J", (.long (9223372036854775807 : Int64))), ("com/example/hapax/hapax/core/Tally$Span", "executedStored", "J", (.long q1)), ("com/example/hapax/hapax/core/Tally$Span", "executedReleased", "J", (.long q2)), ("com/example/hapax/hapax/core/Tally$Span", "replayed", "J", (.long q3)), ("com/example/hapax/hapax/core/Tally$Span", "inFlight", "J", (.long q4)), ("com/example/hapax/hapax/core/Tally$Span", "keyReused", "J", (.long (0 : Int64))), ("com/example/hapax/hapax/core/Tally$Span", "leaseLost", "J", (.long (0 : Int64))), ("com/example/hapax/hapax/core/Tally$Span", "storeFailures", "J", (.long (0 : Int64))), ("com/example/hapax/hapax/core/Tally$Span", "worksTimed", "J", (.long (0 : Int64))), ("com/example/hapax/hapax/core/Tally$Span", "workNanosTotal", "J", (.long (0 : Int64))), ("com/example/hapax/hapax/core/Tally$Span", "workNanosMax", "J", (.long (0 : Int64)))] := O_b1_5.put (own_lay_Tally_Span hw) rfl own_nd_Tally_Span 4 rfl W6
  have Z6 : n0 ≤ h6.size := by rw [Wr.size W6]; exact Z5
  have N6 := Fr.snoc X6 N5 f_b1
  show own_Fin p e below _ T6 (mkF m 35 #[.val (.long q1), .second, .val (.long q2), .second, .val (.long q3), .second, .val (.long q4), .second, .val (.long q5), .second, .val (.long q6), .second, .val (.ref b1), .unset, .unset, .unset] [])
  refine own_seg (T' := T6) (g' := (mkF m 39 #[.val (.long q1), .second, .val (.long q2), .second, .val (.long q3), .second, .val (.long q4), .second, .val (.long q5), .second, .val (.long q6), .second, .val (.ref b1), .unset, .unset, .unset] [(.long q5), (.ref b1)])) (fun tg kt => ?_) ?_
  · show Steps p.tables e below (T6.setTop (mkF m 35 #[.val (.long q1), .second, .val (.long q2), .second, .val (.long q3), .second, .val (.long q4), .second, .val (.long q5), .second, .val (.long q6), .second, .val (.ref b1), .unset, .unset, .unset] [])) tg
    refine XS.aload X6.here hx rfl (hb hby at_35) rfl rfl ?_
    show Steps p.tables e below (T6.setTop (mkF m 37 #[.val (.long q1), .second, .val (.long q2), .second, .val (.long q3), .second, .val (.long q4), .second, .val (.long q5), .second, .val (.long q6), .second, .val (.ref b1), .unset, .unset, .unset] [(.ref b1)])) tg
    refine XS.lload X6.here hx rfl (hb hby at_37) rfl ?_
    exact kt
  refine own_putF K X6 e6 (host := "") (Or.inl (hw _ (List.mem_of_getElem? (i := 20) rfl))) Via.refl (O_b1_6.get 5 rfl) O_b1_6.exa (Or.inl (hw _ (List.mem_of_getElem? (i := 21) rfl))) (hw _ (List.mem_of_getElem? (i := 1) rfl)) (ty := .long) (by decide) rfl rfl at_39 ?_
  intro T7 h7 X7 e7 W7
  have O_b1_7 : own_Obj Z h7 b1 "com/example/hapax/hapax/core/Tally$Span" [("com/example/hapax/hapax/core/Tally$Span", "workNanosMin", "J", (.long (9223372036854775807 : Int64))), ("com/example/hapax/hapax/core/Tally$Span", "executedStored", "J", (.long q1)), ("com/example/hapax/hapax/core/Tally$Span", "executedReleased", "J", (.long q2)), ("com/example/hapax/hapax/core/Tally$Span", "replayed", "J", (.long q3)), ("com/example/hapax/hapax/core/Tally$Span", "inFlight", "J", (.long q4)), ("com/example/hapax/hapax/core/Tally$Span", "keyReused", "J", (.long q5)), ("com/example/hapax/hapax/core/Tally$Span", "leaseLost", "J", (.long (0 : Int64))), ("com/example/hapax/hapax/core/Tally$Span", "storeFailures", "J", (.long (0 : Int64))), ("com/example/hapax/hapax/core/Tally$Span", "worksTimed", "J", (.long (0 : Int64))), ("com/example/hapax/hapax/core/Tally$Span", "workNanosTotal", "J", (.long (0 : Int64))), ("com/example/hapax/hapax/core/Tally$Span", "workNanosMax", "J", (.long (0 : Int64)))] := O_b1_6.put (own_lay_Tally_Span hw) rfl own_nd_Tally_Span 5 rfl W7
  have Z7 : n0 ≤ h7.size := by rw [Wr.size W7]; exact Z6
  have N7 := Fr.snoc X7 N6 f_b1
  show own_Fin p e below _ T7 (mkF m 42 #[.val (.long q1), .second, .val (.long q2), .second, .val (.long q3), .second, .val (.long q4), .second, .val (.long q5), .second, .val (.long q6), .second, .val (.ref b1), .unset, .unset, .unset] [])
  refine own_seg (T' := T7) (g' := (mkF m 46 #[.val (.long q1), .second, .val (.long q2), .second, .val (.long q3), .second, .val (.long q4), .second, .val (.long q5), .second, .val (.long q6), .second, .val (.ref b1), .unset, .unset, .unset] [(.long q6), (.ref b1)])) (fun tg kt => ?_) ?_
  · show Steps p.tables e below (T7.setTop (mkF m 42 #[.val (.long q1), .second, .val (.long q2), .second, .val (.long q3), .second, .val (.long q4), .second, .val (.long q5), .second, .val (.long q6), .second, .val (.ref b1), .unset, .unset, .unset] [])) tg
    refine XS.aload X7.here hx rfl (hb hby at_42) rfl rfl ?_
    show Steps p.tables e below (T7.setTop (mkF m 44 #[.val (.long q1), .second, .val (.long q2), .second, .val (.long q3), .second, .val (.long q4), .second, .val (.long q5), .second, .val (.long q6), .second, .val (.ref b1), .unset, .unset, .unset] [(.ref b1)])) tg
    refine XS.lload X7.here hx rfl (hb hby at_44) rfl ?_
    exact kt
  refine own_putF K X7 e7 (host := "") (Or.inl (hw _ (List.mem_of_getElem? (i := 22) rfl))) Via.refl (O_b1_7.get 6 rfl) O_b1_7.exa (Or.inl (hw _ (List.mem_of_getElem? (i := 23) rfl))) (hw _ (List.mem_of_getElem? (i := 1) rfl)) (ty := .long) (by decide) rfl rfl at_46 ?_
  intro T8 h8 X8 e8 W8
  have O_b1_8 : own_Obj Z h8 b1 "com/example/hapax/hapax/core/Tally$Span" [("com/example/hapax/hapax/core/Tally$Span", "workNanosMin", "J", (.long (9223372036854775807 : Int64))), ("com/example/hapax/hapax/core/Tally$Span", "executedStored", "J", (.long q1)), ("com/example/hapax/hapax/core/Tally$Span", "executedReleased", "J", (.long q2)), ("com/example/hapax/hapax/core/Tally$Span", "replayed", "J", (.long q3)), ("com/example/hapax/hapax/core/Tally$Span", "inFlight", "J", (.long q4)), ("com/example/hapax/hapax/core/Tally$Span", "keyReused", "J", (.long q5)), ("com/example/hapax/hapax/core/Tally$Span", "leaseLost", "J", (.long q6)), ("com/example/hapax/hapax/core/Tally$Span", "storeFailures", "J", (.long (0 : Int64))), ("com/example/hapax/hapax/core/Tally$Span", "worksTimed", "J", (.long (0 : Int64))), ("com/example/hapax/hapax/core/Tally$Span", "workNanosTotal", "J", (.long (0 : Int64))), ("com/example/hapax/hapax/core/Tally$Span", "workNanosMax", "J", (.long (0 : Int64)))] := O_b1_7.put (own_lay_Tally_Span hw) rfl own_nd_Tally_Span 6 rfl W8
  have Z8 : n0 ≤ h8.size := by rw [Wr.size W8]; exact Z7
  have N8 := Fr.snoc X8 N7 f_b1
  show own_Fin p e below _ T8 (mkF m 49 #[.val (.long q1), .second, .val (.long q2), .second, .val (.long q3), .second, .val (.long q4), .second, .val (.long q5), .second, .val (.long q6), .second, .val (.ref b1), .unset, .unset, .unset] [])
  refine own_seg (T' := T8) (g' := (mkF m 56 #[.val (.long q1), .second, .val (.long q2), .second, .val (.long q3), .second, .val (.long q4), .second, .val (.long q5), .second, .val (.long q6), .second, .val (.ref b1), .unset, .unset, .unset] [(.long (q3 ^^^ q5)), (.ref b1)])) (fun tg kt => ?_) ?_
  · show Steps p.tables e below (T8.setTop (mkF m 49 #[.val (.long q1), .second, .val (.long q2), .second, .val (.long q3), .second, .val (.long q4), .second, .val (.long q5), .second, .val (.long q6), .second, .val (.ref b1), .unset, .unset, .unset] [])) tg
    refine XS.aload X8.here hx rfl (hb hby at_49) rfl rfl ?_
    show Steps p.tables e below (T8.setTop (mkF m 51 #[.val (.long q1), .second, .val (.long q2), .second, .val (.long q3), .second, .val (.long q4), .second, .val (.long q5), .second, .val (.long q6), .second, .val (.ref b1), .unset, .unset, .unset] [(.ref b1)])) tg
    refine XS.lload X8.here hx rfl (hb hby at_51) rfl ?_
    show Steps p.tables e below (T8.setTop (mkF m 53 #[.val (.long q1), .second, .val (.long q2), .second, .val (.long q3), .second, .val (.long q4), .second, .val (.long q5), .second, .val (.long q6), .second, .val (.ref b1), .unset, .unset, .unset] [(.long q3), (.ref b1)])) tg
    refine XS.lload X8.here hx rfl (hb hby at_53) rfl ?_
    show Steps p.tables e below (T8.setTop (mkF m 55 #[.val (.long q1), .second, .val (.long q2), .second, .val (.long q3), .second, .val (.long q4), .second, .val (.long q5), .second, .val (.long q6), .second, .val (.ref b1), .unset, .unset, .unset] [(.long q5), (.long q3), (.ref b1)])) tg
    refine XS.lxor X8.here hx rfl (hb hby at_55) rfl ?_
    exact kt
  refine own_putF K X8 e8 (host := "") (Or.inl (hw _ (List.mem_of_getElem? (i := 24) rfl))) Via.refl (O_b1_8.get 7 rfl) O_b1_8.exa (Or.inl (hw _ (List.mem_of_getElem? (i := 25) rfl))) (hw _ (List.mem_of_getElem? (i := 1) rfl)) (ty := .long) (by decide) rfl rfl at_56 ?_
  intro T9 h9 X9 e9 W9
  have O_b1_9 : own_Obj Z h9 b1 "com/example/hapax/hapax/core/Tally$Span" [("com/example/hapax/hapax/core/Tally$Span", "workNanosMin", "J", (.long (9223372036854775807 : Int64))), ("com/example/hapax/hapax/core/Tally$Span", "executedStored", "J", (.long q1)), ("com/example/hapax/hapax/core/Tally$Span", "executedReleased", "J", (.long q2)), ("com/example/hapax/hapax/core/Tally$Span", "replayed", "J", (.long q3)), ("com/example/hapax/hapax/core/Tally$Span", "inFlight", "J", (.long q4)), ("com/example/hapax/hapax/core/Tally$Span", "keyReused", "J", (.long q5)), ("com/example/hapax/hapax/core/Tally$Span", "leaseLost", "J", (.long q6)), ("com/example/hapax/hapax/core/Tally$Span", "storeFailures", "J", (.long (q3 ^^^ q5))), ("com/example/hapax/hapax/core/Tally$Span", "worksTimed", "J", (.long (0 : Int64))), ("com/example/hapax/hapax/core/Tally$Span", "workNanosTotal", "J", (.long (0 : Int64))), ("com/example/hapax/hapax/core/Tally$Span", "workNanosMax", "J", (.long (0 : Int64)))] := O_b1_8.put (own_lay_Tally_Span hw) rfl own_nd_Tally_Span 7 rfl W9
  have Z9 : n0 ≤ h9.size := by rw [Wr.size W9]; exact Z8
  have N9 := Fr.snoc X9 N8 f_b1
  show own_Fin p e below _ T9 (mkF m 59 #[.val (.long q1), .second, .val (.long q2), .second, .val (.long q3), .second, .val (.long q4), .second, .val (.long q5), .second, .val (.long q6), .second, .val (.ref b1), .unset, .unset, .unset] [])
  refine own_seg (T' := T9) (g' := (mkF m 64 #[.val (.long q1), .second, .val (.long q2), .second, .val (.long q3), .second, .val (.long q4), .second, .val (.long q5), .second, .val (.long q6), .second, .val (.ref b1), .unset, .unset, .unset] [(.long (q1 ^^^ q2)), (.ref b1)])) (fun tg kt => ?_) ?_
  · show Steps p.tables e below (T9.setTop (mkF m 59 #[.val (.long q1), .second, .val (.long q2), .second, .val (.long q3), .second, .val (.long q4), .second, .val (.long q5), .second, .val (.long q6), .second, .val (.ref b1), .unset, .unset, .unset] [])) tg
    refine XS.aload X9.here hx rfl (hb hby at_59) rfl rfl ?_
    show Steps p.tables e below (T9.setTop (mkF m 61 #[.val (.long q1), .second, .val (.long q2), .second, .val (.long q3), .second, .val (.long q4), .second, .val (.long q5), .second, .val (.long q6), .second, .val (.ref b1), .unset, .unset, .unset] [(.ref b1)])) tg
    refine XS.lloadN X9.here hx rfl (hb hby at_61) rfl ?_
    show Steps p.tables e below (T9.setTop (mkF m 62 #[.val (.long q1), .second, .val (.long q2), .second, .val (.long q3), .second, .val (.long q4), .second, .val (.long q5), .second, .val (.long q6), .second, .val (.ref b1), .unset, .unset, .unset] [(.long q1), (.ref b1)])) tg
    refine XS.lloadN X9.here hx rfl (hb hby at_62) rfl ?_
    show Steps p.tables e below (T9.setTop (mkF m 63 #[.val (.long q1), .second, .val (.long q2), .second, .val (.long q3), .second, .val (.long q4), .second, .val (.long q5), .second, .val (.long q6), .second, .val (.ref b1), .unset, .unset, .unset] [(.long q2), (.long q1), (.ref b1)])) tg
    refine XS.lxor X9.here hx rfl (hb hby at_63) rfl ?_
    exact kt
  refine own_putF K X9 e9 (host := "") (Or.inl (hw _ (List.mem_of_getElem? (i := 26) rfl))) Via.refl (O_b1_9.get 8 rfl) O_b1_9.exa (Or.inl (hw _ (List.mem_of_getElem? (i := 27) rfl))) (hw _ (List.mem_of_getElem? (i := 1) rfl)) (ty := .long) (by decide) rfl rfl at_64 ?_
  intro T10 h10 X10 e10 W10
  have O_b1_10 : own_Obj Z h10 b1 "com/example/hapax/hapax/core/Tally$Span" [("com/example/hapax/hapax/core/Tally$Span", "workNanosMin", "J", (.long (9223372036854775807 : Int64))), ("com/example/hapax/hapax/core/Tally$Span", "executedStored", "J", (.long q1)), ("com/example/hapax/hapax/core/Tally$Span", "executedReleased", "J", (.long q2)), ("com/example/hapax/hapax/core/Tally$Span", "replayed", "J", (.long q3)), ("com/example/hapax/hapax/core/Tally$Span", "inFlight", "J", (.long q4)), ("com/example/hapax/hapax/core/Tally$Span", "keyReused", "J", (.long q5)), ("com/example/hapax/hapax/core/Tally$Span", "leaseLost", "J", (.long q6)), ("com/example/hapax/hapax/core/Tally$Span", "storeFailures", "J", (.long (q3 ^^^ q5))), ("com/example/hapax/hapax/core/Tally$Span", "worksTimed", "J", (.long (q1 ^^^ q2))), ("com/example/hapax/hapax/core/Tally$Span", "workNanosTotal", "J", (.long (0 : Int64))), ("com/example/hapax/hapax/core/Tally$Span", "workNanosMax", "J", (.long (0 : Int64)))] := O_b1_9.put (own_lay_Tally_Span hw) rfl own_nd_Tally_Span 8 rfl W10
  have Z10 : n0 ≤ h10.size := by rw [Wr.size W10]; exact Z9
  have N10 := Fr.snoc X10 N9 f_b1
  show own_Fin p e below _ T10 (mkF m 67 #[.val (.long q1), .second, .val (.long q2), .second, .val (.long q3), .second, .val (.long q4), .second, .val (.long q5), .second, .val (.long q6), .second, .val (.ref b1), .unset, .unset, .unset] [])
  refine own_seg (T' := T10) (g' := (mkF m 74 #[.val (.long q1), .second, .val (.long q2), .second, .val (.long q3), .second, .val (.long q4), .second, .val (.long q5), .second, .val (.long q6), .second, .val (.ref b1), .unset, .unset, .unset] [(.long (q4 ^^^ q6)), (.ref b1)])) (fun tg kt => ?_) ?_
  · show Steps p.tables e below (T10.setTop (mkF m 67 #[.val (.long q1), .second, .val (.long q2), .second, .val (.long q3), .second, .val (.long q4), .second, .val (.long q5), .second, .val (.long q6), .second, .val (.ref b1), .unset, .unset, .unset] [])) tg
    refine XS.aload X10.here hx rfl (hb hby at_67) rfl rfl ?_
    show Steps p.tables e below (T10.setTop (mkF m 69 #[.val (.long q1), .second, .val (.long q2), .second, .val (.long q3), .second, .val (.long q4), .second, .val (.long q5), .second, .val (.long q6), .second, .val (.ref b1), .unset, .unset, .unset] [(.ref b1)])) tg
    refine XS.lload X10.here hx rfl (hb hby at_69) rfl ?_
    show Steps p.tables e below (T10.setTop (mkF m 71 #[.val (.long q1), .second, .val (.long q2), .second, .val (.long q3), .second, .val (.long q4), .second, .val (.long q5), .second, .val (.long q6), .second, .val (.ref b1), .unset, .unset, .unset] [(.long q4), (.ref b1)])) tg
    refine XS.lload X10.here hx rfl (hb hby at_71) rfl ?_
    show Steps p.tables e below (T10.setTop (mkF m 73 #[.val (.long q1), .second, .val (.long q2), .second, .val (.long q3), .second, .val (.long q4), .second, .val (.long q5), .second, .val (.long q6), .second, .val (.ref b1), .unset, .unset, .unset] [(.long q6), (.long q4), (.ref b1)])) tg
    refine XS.lxor X10.here hx rfl (hb hby at_73) rfl ?_
    exact kt
  refine own_putF K X10 e10 (host := "") (Or.inl (hw _ (List.mem_of_getElem? (i := 28) rfl))) Via.refl (O_b1_10.get 9 rfl) O_b1_10.exa (Or.inl (hw _ (List.mem_of_getElem? (i := 29) rfl))) (hw _ (List.mem_of_getElem? (i := 1) rfl)) (ty := .long) (by decide) rfl rfl at_74 ?_
  intro T11 h11 X11 e11 W11
  have O_b1_11 : own_Obj Z h11 b1 "com/example/hapax/hapax/core/Tally$Span" [("com/example/hapax/hapax/core/Tally$Span", "workNanosMin", "J", (.long (9223372036854775807 : Int64))), ("com/example/hapax/hapax/core/Tally$Span", "executedStored", "J", (.long q1)), ("com/example/hapax/hapax/core/Tally$Span", "executedReleased", "J", (.long q2)), ("com/example/hapax/hapax/core/Tally$Span", "replayed", "J", (.long q3)), ("com/example/hapax/hapax/core/Tally$Span", "inFlight", "J", (.long q4)), ("com/example/hapax/hapax/core/Tally$Span", "keyReused", "J", (.long q5)), ("com/example/hapax/hapax/core/Tally$Span", "leaseLost", "J", (.long q6)), ("com/example/hapax/hapax/core/Tally$Span", "storeFailures", "J", (.long (q3 ^^^ q5))), ("com/example/hapax/hapax/core/Tally$Span", "worksTimed", "J", (.long (q1 ^^^ q2))), ("com/example/hapax/hapax/core/Tally$Span", "workNanosTotal", "J", (.long (q4 ^^^ q6))), ("com/example/hapax/hapax/core/Tally$Span", "workNanosMax", "J", (.long (0 : Int64)))] := O_b1_10.put (own_lay_Tally_Span hw) rfl own_nd_Tally_Span 9 rfl W11
  have Z11 : n0 ≤ h11.size := by rw [Wr.size W11]; exact Z10
  have N11 := Fr.snoc X11 N10 f_b1
  show own_Fin p e below _ T11 (mkF m 77 #[.val (.long q1), .second, .val (.long q2), .second, .val (.long q3), .second, .val (.long q4), .second, .val (.long q5), .second, .val (.long q6), .second, .val (.ref b1), .unset, .unset, .unset] [])
  refine own_seg (T' := T11) (g' := (mkF m 81 #[.val (.long q1), .second, .val (.long q2), .second, .val (.long q3), .second, .val (.long q4), .second, .val (.long q5), .second, .val (.long q6), .second, .val (.ref b1), .unset, .unset, .unset] [(.long q5), (.ref b1)])) (fun tg kt => ?_) ?_
  · show Steps p.tables e below (T11.setTop (mkF m 77 #[.val (.long q1), .second, .val (.long q2), .second, .val (.long q3), .second, .val (.long q4), .second, .val (.long q5), .second, .val (.long q6), .second, .val (.ref b1), .unset, .unset, .unset] [])) tg
    refine XS.aload X11.here hx rfl (hb hby at_77) rfl rfl ?_
    show Steps p.tables e below (T11.setTop (mkF m 79 #[.val (.long q1), .second, .val (.long q2), .second, .val (.long q3), .second, .val (.long q4), .second, .val (.long q5), .second, .val (.long q6), .second, .val (.ref b1), .unset, .unset, .unset] [(.ref b1)])) tg
    refine XS.lload X11.here hx rfl (hb hby at_79) rfl ?_
    exact kt
  refine own_putF K X11 e11 (host := "") (Or.inl (hw _ (List.mem_of_getElem? (i := 30) rfl))) Via.refl (O_b1_11.get 0 rfl) O_b1_11.exa (Or.inl (hw _ (List.mem_of_getElem? (i := 11) rfl))) (hw _ (List.mem_of_getElem? (i := 1) rfl)) (ty := .long) (by decide) rfl rfl at_81 ?_
  intro T12 h12 X12 e12 W12
  have O_b1_12 : own_Obj Z h12 b1 "com/example/hapax/hapax/core/Tally$Span" [("com/example/hapax/hapax/core/Tally$Span", "workNanosMin", "J", (.long q5)), ("com/example/hapax/hapax/core/Tally$Span", "executedStored", "J", (.long q1)), ("com/example/hapax/hapax/core/Tally$Span", "executedReleased", "J", (.long q2)), ("com/example/hapax/hapax/core/Tally$Span", "replayed", "J", (.long q3)), ("com/example/hapax/hapax/core/Tally$Span", "inFlight", "J", (.long q4)), ("com/example/hapax/hapax/core/Tally$Span", "keyReused", "J", (.long q5)), ("com/example/hapax/hapax/core/Tally$Span", "leaseLost", "J", (.long q6)), ("com/example/hapax/hapax/core/Tally$Span", "storeFailures", "J", (.long (q3 ^^^ q5))), ("com/example/hapax/hapax/core/Tally$Span", "worksTimed", "J", (.long (q1 ^^^ q2))), ("com/example/hapax/hapax/core/Tally$Span", "workNanosTotal", "J", (.long (q4 ^^^ q6))), ("com/example/hapax/hapax/core/Tally$Span", "workNanosMax", "J", (.long (0 : Int64)))] := O_b1_11.put (own_lay_Tally_Span hw) rfl own_nd_Tally_Span 0 rfl W12
  have Z12 : n0 ≤ h12.size := by rw [Wr.size W12]; exact Z11
  have N12 := Fr.snoc X12 N11 f_b1
  show own_Fin p e below _ T12 (mkF m 84 #[.val (.long q1), .second, .val (.long q2), .second, .val (.long q3), .second, .val (.long q4), .second, .val (.long q5), .second, .val (.long q6), .second, .val (.ref b1), .unset, .unset, .unset] [])
  refine own_seg (T' := T12) (g' := (mkF m 91 #[.val (.long q1), .second, .val (.long q2), .second, .val (.long q3), .second, .val (.long q4), .second, .val (.long q5), .second, .val (.long q6), .second, .val (.ref b1), .unset, .unset, .unset] [(.long (q3 ^^^ q6)), (.ref b1)])) (fun tg kt => ?_) ?_
  · show Steps p.tables e below (T12.setTop (mkF m 84 #[.val (.long q1), .second, .val (.long q2), .second, .val (.long q3), .second, .val (.long q4), .second, .val (.long q5), .second, .val (.long q6), .second, .val (.ref b1), .unset, .unset, .unset] [])) tg
    refine XS.aload X12.here hx rfl (hb hby at_84) rfl rfl ?_
    show Steps p.tables e below (T12.setTop (mkF m 86 #[.val (.long q1), .second, .val (.long q2), .second, .val (.long q3), .second, .val (.long q4), .second, .val (.long q5), .second, .val (.long q6), .second, .val (.ref b1), .unset, .unset, .unset] [(.ref b1)])) tg
    refine XS.lload X12.here hx rfl (hb hby at_86) rfl ?_
    show Steps p.tables e below (T12.setTop (mkF m 88 #[.val (.long q1), .second, .val (.long q2), .second, .val (.long q3), .second, .val (.long q4), .second, .val (.long q5), .second, .val (.long q6), .second, .val (.ref b1), .unset, .unset, .unset] [(.long q3), (.ref b1)])) tg
    refine XS.lload X12.here hx rfl (hb hby at_88) rfl ?_
    show Steps p.tables e below (T12.setTop (mkF m 90 #[.val (.long q1), .second, .val (.long q2), .second, .val (.long q3), .second, .val (.long q4), .second, .val (.long q5), .second, .val (.long q6), .second, .val (.ref b1), .unset, .unset, .unset] [(.long q6), (.long q3), (.ref b1)])) tg
    refine XS.lxor X12.here hx rfl (hb hby at_90) rfl ?_
    exact kt
  refine own_putF K X12 e12 (host := "") (Or.inl (hw _ (List.mem_of_getElem? (i := 31) rfl))) Via.refl (O_b1_12.get 10 rfl) O_b1_12.exa (Or.inl (hw _ (List.mem_of_getElem? (i := 32) rfl))) (hw _ (List.mem_of_getElem? (i := 1) rfl)) (ty := .long) (by decide) rfl rfl at_91 ?_
  intro T13 h13 X13 e13 W13
  have O_b1_13 : own_Obj Z h13 b1 "com/example/hapax/hapax/core/Tally$Span" [("com/example/hapax/hapax/core/Tally$Span", "workNanosMin", "J", (.long q5)), ("com/example/hapax/hapax/core/Tally$Span", "executedStored", "J", (.long q1)), ("com/example/hapax/hapax/core/Tally$Span", "executedReleased", "J", (.long q2)), ("com/example/hapax/hapax/core/Tally$Span", "replayed", "J", (.long q3)), ("com/example/hapax/hapax/core/Tally$Span", "inFlight", "J", (.long q4)), ("com/example/hapax/hapax/core/Tally$Span", "keyReused", "J", (.long q5)), ("com/example/hapax/hapax/core/Tally$Span", "leaseLost", "J", (.long q6)), ("com/example/hapax/hapax/core/Tally$Span", "storeFailures", "J", (.long (q3 ^^^ q5))), ("com/example/hapax/hapax/core/Tally$Span", "worksTimed", "J", (.long (q1 ^^^ q2))), ("com/example/hapax/hapax/core/Tally$Span", "workNanosTotal", "J", (.long (q4 ^^^ q6))), ("com/example/hapax/hapax/core/Tally$Span", "workNanosMax", "J", (.long (q3 ^^^ q6)))] := O_b1_12.put (own_lay_Tally_Span hw) rfl own_nd_Tally_Span 10 rfl W13
  have Z13 : n0 ≤ h13.size := by rw [Wr.size W13]; exact Z12
  have N13 := Fr.snoc X13 N12 f_b1
  show own_Fin p e below _ T13 (mkF m 94 #[.val (.long q1), .second, .val (.long q2), .second, .val (.long q3), .second, .val (.long q4), .second, .val (.long q5), .second, .val (.long q6), .second, .val (.ref b1), .unset, .unset, .unset] [])
  refine own_newO K X13 e13 (hw _ (List.mem_of_getElem? (i := 33) rfl)) (hw _ (List.mem_of_getElem? (i := 34) rfl)) (hw _ (List.mem_of_getElem? (i := 35) rfl)) at_94 (by decide) (by decide) ?_
  intro T14 h14 b14 g14 X14 e14 E14 A14 D14
  have ne_b1_b14 : b1 ≠ b14 := Nat.ne_of_lt (Nat.lt_of_lt_of_eq O_b1_13.lt g14.symm)
  have ne_b14_b1 := ne_b1_b14.symm
  have O_b1_14 : own_Obj Z h14 b1 "com/example/hapax/hapax/core/Tally$Span" [("com/example/hapax/hapax/core/Tally$Span", "workNanosMin", "J", (.long q5)), ("com/example/hapax/hapax/core/Tally$Span", "executedStored", "J", (.long q1)), ("com/example/hapax/hapax/core/Tally$Span", "executedReleased", "J", (.long q2)), ("com/example/hapax/hapax/core/Tally$Span", "replayed", "J", (.long q3)), ("com/example/hapax/hapax/core/Tally$Span", "inFlight", "J", (.long q4)), ("com/example/hapax/hapax/core/Tally$Span", "keyReused", "J", (.long q5)), ("com/example/hapax/hapax/core/Tally$Span", "leaseLost", "J", (.long q6)), ("com/example/hapax/hapax/core/Tally$Span", "storeFailures", "J", (.long (q3 ^^^ q5))), ("com/example/hapax/hapax/core/Tally$Span", "worksTimed", "J", (.long (q1 ^^^ q2))), ("com/example/hapax/hapax/core/Tally$Span", "workNanosTotal", "J", (.long (q4 ^^^ q6))), ("com/example/hapax/hapax/core/Tally$Span", "workNanosMax", "J", (.long (q3 ^^^ q6)))] := O_b1_13.ext E14
  have f_b14 : n0 ≤ b14 := Nat.le_trans Z13 (Nat.le_of_eq g14.symm)
  have Z14 : n0 ≤ h14.size := Nat.le_trans Z13 E14.1
  have O_b14_14 : own_Obj Z h14 b14 "com/example/hapax/hapax/core/Counts" [("com/example/hapax/hapax/core/Counts", "executedStored", "J", (.long (0 : Int64))), ("com/example/hapax/hapax/core/Counts", "executedReleased", "J", (.long (0 : Int64))), ("com/example/hapax/hapax/core/Counts", "replayed", "J", (.long (0 : Int64))), ("com/example/hapax/hapax/core/Counts", "inFlight", "J", (.long (0 : Int64))), ("com/example/hapax/hapax/core/Counts", "keyReused", "J", (.long (0 : Int64))), ("com/example/hapax/hapax/core/Counts", "leaseLost", "J", (.long (0 : Int64))), ("com/example/hapax/hapax/core/Counts", "storeFailures", "J", (.long (0 : Int64))), ("com/example/hapax/hapax/core/Counts", "worksRunning", "J", (.long (0 : Int64))), ("com/example/hapax/hapax/core/Counts", "worksTimed", "J", (.long (0 : Int64))), ("com/example/hapax/hapax/core/Counts", "workNanosTotal", "J", (.long (0 : Int64))), ("com/example/hapax/hapax/core/Counts", "workNanosMin", "J", (.long (0 : Int64))), ("com/example/hapax/hapax/core/Counts", "workNanosMax", "J", (.long (0 : Int64)))] := ⟨A14, by
    intro q hq
    simp only [List.mem_cons, List.not_mem_nil, or_false] at hq
    rcases hq with rfl | rfl | rfl | rfl | rfl | rfl | rfl | rfl | rfl | rfl | rfl | rfl
    · exact D14 (Or.inr (hw _ (List.mem_of_getElem? (i := 42) rfl))) (ty := .long) (by decide)
    · exact D14 (Or.inr (hw _ (List.mem_of_getElem? (i := 45) rfl))) (ty := .long) (by decide)
    · exact D14 (Or.inr (hw _ (List.mem_of_getElem? (i := 48) rfl))) (ty := .long) (by decide)
    · exact D14 (Or.inr (hw _ (List.mem_of_getElem? (i := 51) rfl))) (ty := .long) (by decide)
    · exact D14 (Or.inr (hw _ (List.mem_of_getElem? (i := 54) rfl))) (ty := .long) (by decide)
    · exact D14 (Or.inr (hw _ (List.mem_of_getElem? (i := 57) rfl))) (ty := .long) (by decide)
    · exact D14 (Or.inr (hw _ (List.mem_of_getElem? (i := 60) rfl))) (ty := .long) (by decide)
    · exact D14 (Or.inr (hw _ (List.mem_of_getElem? (i := 62) rfl))) (ty := .long) (by decide)
    · exact D14 (Or.inr (hw _ (List.mem_of_getElem? (i := 65) rfl))) (ty := .long) (by decide)
    · exact D14 (Or.inr (hw _ (List.mem_of_getElem? (i := 68) rfl))) (ty := .long) (by decide)
    · exact D14 (Or.inr (hw _ (List.mem_of_getElem? (i := 71) rfl))) (ty := .long) (by decide)
    · exact D14 (Or.inr (hw _ (List.mem_of_getElem? (i := 74) rfl))) (ty := .long) (by decide)⟩
  show own_Fin p e below _ T14 (mkF m 97 #[.val (.long q1), .second, .val (.long q2), .second, .val (.long q3), .second, .val (.long q4), .second, .val (.long q5), .second, .val (.long q6), .second, .val (.ref b1), .unset, .unset, .unset] [(.ref b14)])
  refine own_seg (T' := T14) (g' := (mkF m 104 #[.val (.long q1), .second, .val (.long q2), .second, .val (.long q3), .second, .val (.long q4), .second, .val (.long q5), .second, .val (.long q6), .second, .val (.ref b1), .unset, .unset, .unset] [(.long (q2 ^^^ q4)), (.ref b1), (.ref b14), (.ref b14)])) (fun tg kt => ?_) ?_
  · show Steps p.tables e below (T14.setTop (mkF m 97 #[.val (.long q1), .second, .val (.long q2), .second, .val (.long q3), .second, .val (.long q4), .second, .val (.long q5), .second, .val (.long q6), .second, .val (.ref b1), .unset, .unset, .unset] [(.ref b14)])) tg
    refine XS.dup X14.here hx rfl (hb hby at_97) rfl rfl ?_
    show Steps p.tables e below (T14.setTop (mkF m 98 #[.val (.long q1), .second, .val (.long q2), .second, .val (.long q3), .second, .val (.long q4), .second, .val (.long q5), .second, .val (.long q6), .second, .val (.ref b1), .unset, .unset, .unset] [(.ref b14), (.ref b14)])) tg
    refine XS.aload X14.here hx rfl (hb hby at_98) rfl rfl ?_
    show Steps p.tables e below (T14.setTop (mkF m 100 #[.val (.long q1), .second, .val (.long q2), .second, .val (.long q3), .second, .val (.long q4), .second, .val (.long q5), .second, .val (.long q6), .second, .val (.ref b1), .unset, .unset, .unset] [(.ref b1), (.ref b14), (.ref b14)])) tg
    refine XS.lloadN X14.here hx rfl (hb hby at_100) rfl ?_
    show Steps p.tables e below (T14.setTop (mkF m 101 #[.val (.long q1), .second, .val (.long q2), .second, .val (.long q3), .second, .val (.long q4), .second, .val (.long q5), .second, .val (.long q6), .second, .val (.ref b1), .unset, .unset, .unset] [(.long q2), (.ref b1), (.ref b14), (.ref b14)])) tg
    refine XS.lload X14.here hx rfl (hb hby at_101) rfl ?_
    show Steps p.tables e below (T14.setTop (mkF m 103 #[.val (.long q1), .second, .val (.long q2), .second, .val (.long q3), .second, .val (.long q4), .second, .val (.long q5), .second, .val (.long q6), .second, .val (.ref b1), .unset, .unset, .unset] [(.long q4), (.long q2), (.ref b1), (.ref b14), (.ref b14)])) tg
    refine XS.lxor X14.here hx rfl (hb hby at_103) rfl ?_
    exact kt
  refine own_callI K X14 e14 (rm3 l Z a0 hw b14 b1 (q2 ^^^ q4) q5 q1 q2 q3 q4 q5 q6 (q3 ^^^ q5) (q1 ^^^ q2) (q4 ^^^ q6) (q3 ^^^ q6) h14 n0 Z14 f_b14 ne_b1_b14 O_b14_14 O_b1_14) rfl (hw _ (List.mem_of_getElem? (i := 36) rfl)) (hw _ (List.mem_of_getElem? (i := 37) rfl)) (hw _ (List.mem_of_getElem? (i := 35) rfl)) (hw _ (List.mem_of_getElem? (i := 38) rfl)) (by decide) b14 [(.ref b1), (.long (q2 ^^^ q4))] [(.ref b14)] own_pd1 rfl rfl rfl rfl at_104 (by decide) (Nat.le_of_ble_eq_true rfl) (by decide) (by decide) ?_
  intro T15 L15 v15 X15 hQ15
  obtain ⟨h15, e15⟩ : ∃ z, T15.heap = z := ⟨_, rfl⟩
  rw [e15] at hQ15
  obtain ⟨rfl, Nq15, Kq15, Oq15_b14⟩ := hQ15
  have N15 := Fr.app N13 Nq15
  have O_b1_15 : own_Obj Z h15 b1 "com/example/hapax/hapax/core/Tally$Span" [("com/example/hapax/hapax/core/Tally$Span", "workNanosMin", "J", (.long q5)), ("com/example/hapax/hapax/core/Tally$Span", "executedStored", "J", (.long q1)), ("com/example/hapax/hapax/core/Tally$Span", "executedReleased", "J", (.long q2)), ("com/example/hapax/hapax/core/Tally$Span", "replayed", "J", (.long q3)), ("com/example/hapax/hapax/core/Tally$Span", "inFlight", "J", (.long q4)), ("com/example/hapax/hapax/core/Tally$Span", "keyReused", "J", (.long q5)), ("com/example/hapax/hapax/core/Tally$Span", "leaseLost", "J", (.long q6)), ("com/example/hapax/hapax/core/Tally$Span", "storeFailures", "J", (.long (q3 ^^^ q5))), ("com/example/hapax/hapax/core/Tally$Span", "worksTimed", "J", (.long (q1 ^^^ q2))), ("com/example/hapax/hapax/core/Tally$Span", "workNanosTotal", "J", (.long (q4 ^^^ q6))), ("com/example/hapax/hapax/core/Tally$Span", "workNanosMax", "J", (.long (q3 ^^^ q6)))] := O_b1_14.keep Kq15 (ninS ne_b1_b14 nin0)
  have Z15 : n0 ≤ h15.size := Nat.le_trans Z14 Kq15.1
  show own_Fin p e below _ T15 (mkF m 107 #[.val (.long q1), .second, .val (.long q2), .second, .val (.long q3), .second, .val (.long q4), .second, .val (.long q5), .second, .val (.long q6), .second, .val (.ref b1), .unset, .unset, .unset] [(.ref b14)])
  refine own_seg (T' := T15) (g' := (mkF m 134 #[.val (.long q1), .second, .val (.long q2), .second, .val (.long q3), .second, .val (.long q4), .second, .val (.long q5), .second, .val (.long q6), .second, .val (.ref b1), .val (.ref b14), .val (.long ((((((q1 + q2) + q3) + q4) + q5) + q6) + (q3 ^^^ q5))), .second] [(.ref b14)])) (fun tg kt => ?_) ?_
  · show Steps p.tables e below (T15.setTop (mkF m 107 #[.val (.long q1), .second, .val (.long q2), .second, .val (.long q3), .second, .val (.long q4), .second, .val (.long q5), .second, .val (.long q6), .second, .val (.ref b1), .unset, .unset, .unset] [(.ref b14)])) tg
    refine XS.astore X15.here hx rfl (hb hby at_107) rfl rfl (l' := #[.val (.long q1), .second, .val (.long q2), .second, .val (.long q3), .second, .val (.long q4), .second, .val (.long q5), .second, .val (.long q6), .second, .val (.ref b1), .val (.ref b14), .unset, .unset]) rfl ?_
    show Steps p.tables e below (T15.setTop (mkF m 109 #[.val (.long q1), .second, .val (.long q2), .second, .val (.long q3), .second, .val (.long q4), .second, .val (.long q5), .second, .val (.long q6), .second, .val (.ref b1), .val (.ref b14), .unset, .unset] [])) tg
    refine XS.lloadN X15.here hx rfl (hb hby at_109) rfl ?_
    show Steps p.tables e below (T15.setTop (mkF m 110 #[.val (.long q1), .second, .val (.long q2), .second, .val (.long q3), .second, .val (.long q4), .second, .val (.long q5), .second, .val (.long q6), .second, .val (.ref b1), .val (.ref b14), .unset, .unset] [(.long q1)])) tg
    refine XS.lloadN X15.here hx rfl (hb hby at_110) rfl ?_
    show Steps p.tables e below (T15.setTop (mkF m 111 #[.val (.long q1), .second, .val (.long q2), .second, .val (.long q3), .second, .val (.long q4), .second, .val (.long q5), .second, .val (.long q6), .second, .val (.ref b1), .val (.ref b14), .unset, .unset] [(.long q2), (.long q1)])) tg
    refine XS.ladd X15.here hx rfl (hb hby at_111) rfl ?_
    show Steps p.tables e below (T15.setTop (mkF m 112 #[.val (.long q1), .second, .val (.long q2), .second, .val (.long q3), .second, .val (.long q4), .second, .val (.long q5), .second, .val (.long q6), .second, .val (.ref b1), .val (.ref b14), .unset, .unset] [(.long (q1 + q2))])) tg
    refine XS.lload X15.here hx rfl (hb hby at_112) rfl ?_
    show Steps p.tables e below (T15.setTop (mkF m 114 #[.val (.long q1), .second, .val (.long q2), .second, .val (.long q3), .second, .val (.long q4), .second, .val (.long q5), .second, .val (.long q6), .second, .val (.ref b1), .val (.ref b14), .unset, .unset] [(.long q3), (.long (q1 + q2))])) tg
    refine XS.ladd X15.here hx rfl (hb hby at_114) rfl ?_
    show Steps p.tables e below (T15.setTop (mkF m 115 #[.val (.long q1), .second, .val (.long q2), .second, .val (.long q3), .second, .val (.long q4), .second, .val (.long q5), .second, .val (.long q6), .second, .val (.ref b1), .val (.ref b14), .unset, .unset] [(.long ((q1 + q2) + q3))])) tg
    refine XS.lload X15.here hx rfl (hb hby at_115) rfl ?_
    show Steps p.tables e below (T15.setTop (mkF m 117 #[.val (.long q1), .second, .val (.long q2), .second, .val (.long q3), .second, .val (.long q4), .second, .val (.long q5), .second, .val (.long q6), .second, .val (.ref b1), .val (.ref b14), .unset, .unset] [(.long q4), (.long ((q1 + q2) + q3))])) tg
    refine XS.ladd X15.here hx rfl (hb hby at_117) rfl ?_
    show Steps p.tables e below (T15.setTop (mkF m 118 #[.val (.long q1), .second, .val (.long q2), .second, .val (.long q3), .second, .val (.long q4), .second, .val (.long q5), .second, .val (.long q6), .second, .val (.ref b1), .val (.ref b14), .unset, .unset] [(.long (((q1 + q2) + q3) + q4))])) tg
    refine XS.lload X15.here hx rfl (hb hby at_118) rfl ?_
    show Steps p.tables e below (T15.setTop (mkF m 120 #[.val (.long q1), .second, .val (.long q2), .second, .val (.long q3), .second, .val (.long q4), .second, .val (.long q5), .second, .val (.long q6), .second, .val (.ref b1), .val (.ref b14), .unset, .unset] [(.long q5), (.long (((q1 + q2) + q3) + q4))])) tg
    refine XS.ladd X15.here hx rfl (hb hby at_120) rfl ?_
    show Steps p.tables e below (T15.setTop (mkF m 121 #[.val (.long q1), .second, .val (.long q2), .second, .val (.long q3), .second, .val (.long q4), .second, .val (.long q5), .second, .val (.long q6), .second, .val (.ref b1), .val (.ref b14), .unset, .unset] [(.long ((((q1 + q2) + q3) + q4) + q5))])) tg
    refine XS.lload X15.here hx rfl (hb hby at_121) rfl ?_
    show Steps p.tables e below (T15.setTop (mkF m 123 #[.val (.long q1), .second, .val (.long q2), .second, .val (.long q3), .second, .val (.long q4), .second, .val (.long q5), .second, .val (.long q6), .second, .val (.ref b1), .val (.ref b14), .unset, .unset] [(.long q6), (.long ((((q1 + q2) + q3) + q4) + q5))])) tg
    refine XS.ladd X15.here hx rfl (hb hby at_123) rfl ?_
    show Steps p.tables e below (T15.setTop (mkF m 124 #[.val (.long q1), .second, .val (.long q2), .second, .val (.long q3), .second, .val (.long q4), .second, .val (.long q5), .second, .val (.long q6), .second, .val (.ref b1), .val (.ref b14), .unset, .unset] [(.long (((((q1 + q2) + q3) + q4) + q5) + q6))])) tg
    refine XS.lload X15.here hx rfl (hb hby at_124) rfl ?_
    show Steps p.tables e below (T15.setTop (mkF m 126 #[.val (.long q1), .second, .val (.long q2), .second, .val (.long q3), .second, .val (.long q4), .second, .val (.long q5), .second, .val (.long q6), .second, .val (.ref b1), .val (.ref b14), .unset, .unset] [(.long q3), (.long (((((q1 + q2) + q3) + q4) + q5) + q6))])) tg
    refine XS.lload X15.here hx rfl (hb hby at_126) rfl ?_
    show Steps p.tables e below (T15.setTop (mkF m 128 #[.val (.long q1), .second, .val (.long q2), .second, .val (.long q3), .second, .val (.long q4), .second, .val (.long q5), .second, .val (.long q6), .second, .val (.ref b1), .val (.ref b14), .unset, .unset] [(.long q5), (.long q3), (.long (((((q1 + q2) + q3) + q4) + q5) + q6))])) tg
    refine XS.lxor X15.here hx rfl (hb hby at_128) rfl ?_
    show Steps p.tables e below (T15.setTop (mkF m 129 #[.val (.long q1), .second, .val (.long q2), .second, .val (.long q3), .second, .val (.long q4), .second, .val (.long q5), .second, .val (.long q6), .second, .val (.ref b1), .val (.ref b14), .unset, .unset] [(.long (q3 ^^^ q5)), (.long (((((q1 + q2) + q3) + q4) + q5) + q6))])) tg
    refine XS.ladd X15.here hx rfl (hb hby at_129) rfl ?_
    show Steps p.tables e below (T15.setTop (mkF m 130 #[.val (.long q1), .second, .val (.long q2), .second, .val (.long q3), .second, .val (.long q4), .second, .val (.long q5), .second, .val (.long q6), .second, .val (.ref b1), .val (.ref b14), .unset, .unset] [(.long ((((((q1 + q2) + q3) + q4) + q5) + q6) + (q3 ^^^ q5)))])) tg
    refine XS.lstore X15.here hx rfl (hb hby at_130) rfl (l' := #[.val (.long q1), .second, .val (.long q2), .second, .val (.long q3), .second, .val (.long q4), .second, .val (.long q5), .second, .val (.long q6), .second, .val (.ref b1), .val (.ref b14), .val (.long ((((((q1 + q2) + q3) + q4) + q5) + q6) + (q3 ^^^ q5))), .second]) rfl ?_
    show Steps p.tables e below (T15.setTop (mkF m 132 #[.val (.long q1), .second, .val (.long q2), .second, .val (.long q3), .second, .val (.long q4), .second, .val (.long q5), .second, .val (.long q6), .second, .val (.ref b1), .val (.ref b14), .val (.long ((((((q1 + q2) + q3) + q4) + q5) + q6) + (q3 ^^^ q5))), .second] [])) tg
    refine XS.aload X15.here hx rfl (hb hby at_132) rfl rfl ?_
    exact kt
  refine own_callV K X15 e15 (rm4 l Z a0 hw b14 q1 q2 q3 q4 q5 q6 (q3 ^^^ q5) (q2 ^^^ q4) (q1 ^^^ q2) (q4 ^^^ q6) (if (q1 ^^^ q2) = 0 then 0 else q5) (q3 ^^^ q6) h15 n0 Z15 Oq15_b14) (hw _ (List.mem_of_getElem? (i := 75) rfl)) (hw _ (List.mem_of_getElem? (i := 76) rfl)) (fun _ q => notFace_of_selects q) (hw _ (List.mem_of_getElem? (i := 78) rfl)) (hw _ (List.mem_of_getElem? (i := 77) rfl)) (hw _ (List.mem_of_getElem? (i := 35) rfl)) (hw _ (List.mem_of_getElem? (i := 79) rfl)) (by decide) b14 Oq15_b14.exa [] [] own_pd2 rfl rfl rfl rfl at_134 (by decide) (Nat.le_of_ble_eq_true rfl) (by decide) (by decide) ?_
  intro T16 L16 v16 X16 hQ16
  obtain ⟨rfl, Nq16, e16⟩ := hQ16
  have N16 := Fr.app N15 Nq16
  show own_Fin p e below _ T16 (mkF m 137 #[.val (.long q1), .second, .val (.long q2), .second, .val (.long q3), .second, .val (.long q4), .second, .val (.long q5), .second, .val (.long q6), .second, .val (.ref b1), .val (.ref b14), .val (.long ((((((q1 + q2) + q3) + q4) + q5) + q6) + (q3 ^^^ q5))), .second] [(.long ((((((q1 + q2) + q3) + q4) + q5) + q6) + (q3 ^^^ q5)))])
  refine own_seg (T' := T16) (g' := (mkF m 140 #[.val (.long q1), .second, .val (.long q2), .second, .val (.long q3), .second, .val (.long q4), .second, .val (.long q5), .second, .val (.long q6), .second, .val (.ref b1), .val (.ref b14), .val (.long ((((((q1 + q2) + q3) + q4) + q5) + q6) + (q3 ^^^ q5))), .second] [(.int (lcmpW ((((((q1 + q2) + q3) + q4) + q5) + q6) + (q3 ^^^ q5)) ((((((q1 + q2) + q3) + q4) + q5) + q6) + (q3 ^^^ q5))))])) (fun tg kt => ?_) ?_
  · show Steps p.tables e below (T16.setTop (mkF m 137 #[.val (.long q1), .second, .val (.long q2), .second, .val (.long q3), .second, .val (.long q4), .second, .val (.long q5), .second, .val (.long q6), .second, .val (.ref b1), .val (.ref b14), .val (.long ((((((q1 + q2) + q3) + q4) + q5) + q6) + (q3 ^^^ q5))), .second] [(.long ((((((q1 + q2) + q3) + q4) + q5) + q6) + (q3 ^^^ q5)))])) tg
    refine XS.lload X16.here hx rfl (hb hby at_137) rfl ?_
    show Steps p.tables e below (T16.setTop (mkF m 139 #[.val (.long q1), .second, .val (.long q2), .second, .val (.long q3), .second, .val (.long q4), .second, .val (.long q5), .second, .val (.long q6), .second, .val (.ref b1), .val (.ref b14), .val (.long ((((((q1 + q2) + q3) + q4) + q5) + q6) + (q3 ^^^ q5))), .second] [(.long ((((((q1 + q2) + q3) + q4) + q5) + q6) + (q3 ^^^ q5))), (.long ((((((q1 + q2) + q3) + q4) + q5) + q6) + (q3 ^^^ q5)))])) tg
    refine XS.lcmp X16.here hx rfl (hb hby at_139) rfl ?_
    exact kt
  have hc140 : ((((((q1 + q2) + q3) + q4) + q5) + q6) + (q3 ^^^ q5)) = ((((((q1 + q2) + q3) + q4) + q5) + q6) + (q3 ^^^ q5)) := rfl
  refine own_seg (T' := T16) (g' := (mkF m 143 #[.val (.long q1), .second, .val (.long q2), .second, .val (.long q3), .second, .val (.long q4), .second, .val (.long q5), .second, .val (.long q6), .second, .val (.ref b1), .val (.ref b14), .val (.long ((((((q1 + q2) + q3) + q4) + q5) + q6) + (q3 ^^^ q5))), .second] [])) (fun tg kt => XS.ifNo X16.here hx rfl (hb hby at_140) rfl ((if0 _ _).trans (teq ((lw_eq _ _).mpr hc140)).2) kt) ?_
  refine own_seg (T' := T16) (g' := (mkF m 148 #[.val (.long q1), .second, .val (.long q2), .second, .val (.long q3), .second, .val (.long q4), .second, .val (.long q5), .second, .val (.long q6), .second, .val (.ref b1), .val (.ref b14), .val (.long ((((((q1 + q2) + q3) + q4) + q5) + q6) + (q3 ^^^ q5))), .second] [(.int (1 : Int32))])) (fun tg kt => ?_) ?_
  · show Steps p.tables e below (T16.setTop (mkF m 143 #[.val (.long q1), .second, .val (.long q2), .second, .val (.long q3), .second, .val (.long q4), .second, .val (.long q5), .second, .val (.long q6), .second, .val (.ref b1), .val (.ref b14), .val (.long ((((((q1 + q2) + q3) + q4) + q5) + q6) + (q3 ^^^ q5))), .second] [])) tg
    refine XS.iconst X16.here hx rfl (hb hby at_143) ?_
    show Steps p.tables e below (T16.setTop (mkF m 144 #[.val (.long q1), .second, .val (.long q2), .second, .val (.long q3), .second, .val (.long q4), .second, .val (.long q5), .second, .val (.long q6), .second, .val (.ref b1), .val (.ref b14), .val (.long ((((((q1 + q2) + q3) + q4) + q5) + q6) + (q3 ^^^ q5))), .second] [(.int (1 : Int32))])) tg
    refine XS.goto X16.here hx rfl (pc0 := 144) (pc' := 148) rfl (hb hby at_144) (by decide) (by decide) ?_
    exact kt
  exact own_retN K (by simp) X16 at_148 (⟨rfl, N16⟩) (by decide) (by decide)
set_option maxRecDepth 65536 in
set_option maxHeartbeats 40000000 in
theorem own_comes {Post : Tables → Env → Array Value → State → Outcome → State → Prop} (hpost : ∀ tb e args s v u, (limb_1_1.after args s (.returned v) u = true ∧ limb_1_2.after args s (.returned v) u = true) → FrameEnd s (.returned v) u (Jvm.fieldLocs frame_1_writes args s ++ Jvm.arrayLocs frame_1_arrays args s ++ Jvm.staticLocs frame_1_statics s) 16 128 → Post tb e args s (.returned v) u) :
    ArmFor flags0 classFile x code maxLocals ret World_1 tables_1 room_1 Calls_1 rest_1 Pre_1 Post := by
  intro l hfl _ _ p e ha hc hk s m args below hf hA hF happ hP
  obtain ⟨hcalls, hrest, hpre⟩ := hP
  obtain ⟨-, -, -, hnamed, -, -, -, hat⟩ := (Spec.applies_iff hf).mp happ
  obtain ⟨hg, hn⟩ := and_e (Cond.before_iff.mp (show (Jvm.Cond.and given_1 narrow_1).before args s = true from hpre))
  obtain ⟨q1, q2⟩ := and_e hg
  obtain ⟨q3, q4⟩ := and_e q2
  obtain ⟨q5, q6⟩ := and_e q4
  obtain ⟨q7, q8⟩ := and_e q6
  obtain ⟨q9, q10⟩ := and_e q8
  obtain ⟨q11, q12⟩ := and_e q10
  obtain ⟨w0, w1, w2, w3, w4, w5, rfl⟩ : ∃ w0 w1 w2 w3 w4 w5 : Value, args = #[w0, w1, w2, w3, w4, w5] := by
    have hs : args.size = 6 := by simpa [Cond.value, given_1] using q1
    obtain ⟨L⟩ := args
    match L, hs with
    | [w0, w1, w2, w3, w4, w5], _ => exact ⟨w0, w1, w2, w3, w4, w5, rfl⟩
  have hw := fun d (hd : d ∈ tables_1) => atoms_spec (ws := Jvm.Cond.code x code maxLocals ret :: tables_1) hat d (List.mem_cons_of_mem _ hd)
  obtain ⟨i0, ei0⟩ := isL_v q3
  obtain rfl : w0 = (.long i0) := Option.some.inj ei0
  obtain ⟨i1, ei1⟩ := isL_v q5
  obtain rfl : w1 = (.long i1) := Option.some.inj ei1
  obtain ⟨i2, ei2⟩ := isL_v q7
  obtain rfl : w2 = (.long i2) := Option.some.inj ei2
  obtain ⟨i3, ei3⟩ := isL_v q9
  obtain rfl : w3 = (.long i3) := Option.some.inj ei3
  obtain ⟨i4, ei4⟩ := isL_v q11
  obtain rfl : w4 = (.long i4) := Option.some.inj ei4
  obtain ⟨i5, ei5⟩ := isL_v q12
  obtain rfl : w5 = (.long i5) := Option.some.inj ei5
  obtain ⟨n, o, h1, h2, h3, _, L, rfl, ⟨rfl, N⟩, hq⟩ := rm0 l s _ hw i0 i1 i2 i3 i4 i5 s.heap s.heap.size (Nat.le_refl _) tables_1 p e ha hc hk s m _ below hf ((Spec.applies_iff_loose hf).mp happ).1 ⟨rfl, State.Warmed39.refl s, rfl⟩ trivial
  exact ⟨n, _, h1, h2, h3, hpost _ _ _ _ _ _ ⟨Cond.after_iff.mpr rfl, Cond.after_iff.mpr (eq_i res_at (Term.int_eval (1)) rfl)⟩ ⟨hq.1, hq.2.1, (hq.2.2.sift fun y hy => Or.inr (N y hy)).mono (by decide) (by decide)⟩⟩
theorem main_1_1 : Claimed_1_1 := own_comes fun _ _ _ _ _ _ h hF => ⟨h.1, hF⟩
theorem main_1_2 : Claimed_1_2 := own_comes fun _ _ _ _ _ _ h hF => ⟨h.2, hF⟩
end Jvm.Pilot.@@N@@
namespace Jvm.Pilot.@@N@@
open Jvm Jvm.ClassFile Sem Op Lib Jvm.Free Jvm.Stand Jvm.Pilot.@@N@@.Jvm.D
/-! MADE BY PROGRAM (witnessworld.py) out of the Statement's table words and the real class files: 10 classes; the members and pool entries that the words name. The judged class is class 1, her method 1. -/
namespace start1
open Jvm.ClassFile
def u (s : String) : CpInfo := .utf8 (stringToUtf16 s)
/-- a pool by its gaps: so many unusable entries, then the entry; so many at the end -/
def gap : Nat → List CpInfo → List CpInfo
  | 0, r => r
  | n + 1, r => .unusable :: gap n r
def poolList (es : List (Nat × CpInfo)) (last : Nat) : List CpInfo := es.foldr (fun e r => gap e.1 (e.2 :: r)) (gap last [])
def pool (es : List (Nat × CpInfo)) (last : Nat) : Array CpInfo := ⟨poolList es last⟩
def fileOf (pool : Array CpInfo) (this : Nat) (attrs : Array Attribute := #[]) (ms : Array MethodInfo := #[]) (fl : Nat := 33) (sup : Nat := 0) (ifs : Array Nat := #[]) (fds : Array FieldInfo := #[]) : ClassFile where
  minorVersion := 0
  majorVersion := 65
  constantPool := pool
  accessFlags := fl
  thisClass := this
  superClass := sup
  interfaces := ifs
  fields := fds
  methods := ms
  attributes := attrs
def plain (name : String) (sup : Option ClassId) : Class where
  name := name
  kind := .ordinary
  loader := none
  accessFlags := 33
  super := sup
  interfaces := #[]
  cf := none
  fields := #[]
  methods := #[]
  instanceTypes := #[]
  staticTypes := #[]
  resolved := #[]
  callSites := []
  init := .initialized
  statics := none
  mirror := none

def pool0 : Array CpInfo := pool [(5, u "<init>"), (0, u "()V"), (1, .class_ 10), (1, u "java/lang/Object")] 113

def k0c0 : Code := { maxStack := 0, maxLocals := 1, code := object_method_1_code, exceptionTable := #[], attributes := #[] }
def k0m0 : Method := { name := "<init>", desc := "()V", sig := { parameters := [], returnType := none }, accessFlags := 1, code := some k0c0 }
/-- java/lang/Object -/
def k0 : Class := { plain "java/lang/Object" none with
  accessFlags := 33
  interfaces := #[]
  cf := some (fileOf pool0 8 #[] #[{ accessFlags := 1, nameIndex := 5, descriptorIndex := 6, attributes := #[] }] 33 0 #[] #[])
  fields := #[]
  methods := #[k0m0]
  instanceTypes := #[]
  staticTypes := #[]
  resolved := Array.replicate 124 none
  statics := none }

def pool1 : Array CpInfo := pool [(2, .class_ 4), (0, .nameAndType 5 6), (0, u "java/lang/Object"), (0, u "<init>"), (0, u "()V"), (0, .class_ 8), (0, u "com/example/hapax/hapax/core/Tally$Span"), (0, .methodref 7 3), (0, .fieldref 7 11), (0, .nameAndType 12 13), (0, u "executedStored"), (0, u "J"), (0, .fieldref 7 15), (0, .nameAndType 16 13), (0, u "executedReleased"), (0, .fieldref 7 18), (0, .nameAndType 19 13), (0, u "replayed"), (0, .fieldref 7 21), (0, .nameAndType 22 13), (0, u "inFlight"), (0, .fieldref 7 24), (0, .nameAndType 25 13), (0, u "keyReused"), (0, .fieldref 7 27), (0, .nameAndType 28 13), (0, u "leaseLost"), (0, .fieldref 7 30), (0, .nameAndType 31 13), (0, u "storeFailures"), (0, .fieldref 7 33), (0, .nameAndType 34 13), (0, u "worksTimed"), (0, .fieldref 7 36), (0, .nameAndType 37 13), (0, u "workNanosTotal"), (0, .fieldref 7 39), (0, .nameAndType 40 13), (0, u "workNanosMin"), (0, .fieldref 7 42), (0, .nameAndType 43 13), (0, u "workNanosMax"), (0, .class_ 45), (0, u "com/example/hapax/hapax/core/Counts"), (0, .methodref 44 47), (0, .nameAndType 5 48), (0, u "(Lcom/example/hapax/hapax/core/Tally$Span;J)V"), (0, .methodref 44 50), (0, .nameAndType 51 52), (0, u "calls"), (0, u "()J"), (0, .class_ 54), (0, u "com/example/hapax/hapax/core/CountsCallsPinLaw"), (2, u "law"), (0, u "(JJJJJJ)Z")] 7

def k1m0 : Method := { name := "<init>", desc := "()V", sig := { parameters := [], returnType := none }, accessFlags := 1, code := none }
def k1c1 : Code := { maxStack := 7, maxLocals := 16, code := code, exceptionTable := #[], attributes := #[] }
def k1m1 : Method := { name := "law", desc := "(JJJJJJ)Z", sig := { parameters := [.long, .long, .long, .long, .long, .long], returnType := some .boolean }, accessFlags := 9, code := some k1c1 }
/-- com/example/hapax/hapax/core/CountsCallsPinLaw -/
def k1 : Class := { plain "com/example/hapax/hapax/core/CountsCallsPinLaw" (some 0) with
  accessFlags := 49
  interfaces := #[]
  cf := some (fileOf pool1 53 #[] #[{ accessFlags := 1, nameIndex := 5, descriptorIndex := 6, attributes := #[] }, { accessFlags := 9, nameIndex := 57, descriptorIndex := 58, attributes := #[] }] 49 2 #[] #[])
  fields := #[]
  methods := #[k1m0, k1m1]
  instanceTypes := #[]
  staticTypes := #[]
  resolved := Array.replicate 66 none
  statics := none }

def pool2 : Array CpInfo := pool [(1, .methodref 2 3), (0, .class_ 4), (0, .nameAndType 5 6), (0, u "java/lang/Object"), (0, u "<init>"), (0, u "()V"), (2, .long 9223372036854775807), (1, .fieldref 12 13), (0, .class_ 14), (0, .nameAndType 15 16), (0, u "com/example/hapax/hapax/core/Tally$Span"), (0, u "workNanosMin"), (0, u "J"), (36, u "executedStored"), (2, u "executedReleased"), (2, u "replayed"), (2, u "inFlight"), (2, u "keyReused"), (2, u "leaseLost"), (17, u "storeFailures"), (2, u "worksTimed"), (2, u "workNanosTotal"), (8, u "workNanosMax"), (15, .class_ 118), (0, u "com/example/hapax/hapax/core/Tally")] 16

def k2c0 : Code := { maxStack := 3, maxLocals := 1, code := prog_34_method_1_code, exceptionTable := #[], attributes := #[] }
def k2m0 : Method := { name := "<init>", desc := "()V", sig := { parameters := [], returnType := none }, accessFlags := 0, code := some k2c0 }
/-- com/example/hapax/hapax/core/Tally$Span -/
def k2 : Class := { plain "com/example/hapax/hapax/core/Tally$Span" (some 0) with
  accessFlags := 48
  interfaces := #[]
  cf := some (fileOf pool2 12 #[.nestHost 117] #[{ accessFlags := 0, nameIndex := 5, descriptorIndex := 6, attributes := #[] }] 48 2 #[] #[{ accessFlags := 0, nameIndex := 53, descriptorIndex := 16, attributes := #[] }, { accessFlags := 0, nameIndex := 56, descriptorIndex := 16, attributes := #[] }, { accessFlags := 0, nameIndex := 59, descriptorIndex := 16, attributes := #[] }, { accessFlags := 0, nameIndex := 62, descriptorIndex := 16, attributes := #[] }, { accessFlags := 0, nameIndex := 65, descriptorIndex := 16, attributes := #[] }, { accessFlags := 0, nameIndex := 68, descriptorIndex := 16, attributes := #[] }, { accessFlags := 0, nameIndex := 86, descriptorIndex := 16, attributes := #[] }, { accessFlags := 0, nameIndex := 89, descriptorIndex := 16, attributes := #[] }, { accessFlags := 0, nameIndex := 92, descriptorIndex := 16, attributes := #[] }, { accessFlags := 0, nameIndex := 15, descriptorIndex := 16, attributes := #[] }, { accessFlags := 0, nameIndex := 101, descriptorIndex := 16, attributes := #[] }])
  fields := #[{ name := "executedStored", type := .long, accessFlags := 0, slot := 0, constantValue := 0 }, { name := "executedReleased", type := .long, accessFlags := 0, slot := 1, constantValue := 0 }, { name := "replayed", type := .long, accessFlags := 0, slot := 2, constantValue := 0 }, { name := "inFlight", type := .long, accessFlags := 0, slot := 3, constantValue := 0 }, { name := "keyReused", type := .long, accessFlags := 0, slot := 4, constantValue := 0 }, { name := "leaseLost", type := .long, accessFlags := 0, slot := 5, constantValue := 0 }, { name := "storeFailures", type := .long, accessFlags := 0, slot := 6, constantValue := 0 }, { name := "worksTimed", type := .long, accessFlags := 0, slot := 7, constantValue := 0 }, { name := "workNanosTotal", type := .long, accessFlags := 0, slot := 8, constantValue := 0 }, { name := "workNanosMin", type := .long, accessFlags := 0, slot := 9, constantValue := 0 }, { name := "workNanosMax", type := .long, accessFlags := 0, slot := 10, constantValue := 0 }]
  methods := #[k2m0]
  instanceTypes := #[.long, .long, .long, .long, .long, .long, .long, .long, .long, .long, .long]
  staticTypes := #[]
  resolved := Array.replicate 135 none
  statics := none }

def pool3 : Array CpInfo := pool [(1, .methodref 2 3), (0, .class_ 4), (0, .nameAndType 5 6), (0, u "java/lang/Object"), (0, u "<init>"), (0, u "()V"), (0, .fieldref 8 9), (0, .class_ 10), (0, .nameAndType 11 12), (0, u "com/example/hapax/hapax/core/Tally$Span"), (0, u "executedStored"), (0, u "J"), (0, .fieldref 14 9), (0, .class_ 15), (0, u "com/example/hapax/hapax/core/Counts"), (0, .fieldref 8 17), (0, .nameAndType 18 12), (0, u "executedReleased"), (0, .fieldref 14 17), (0, .fieldref 8 21), (0, .nameAndType 22 12), (0, u "replayed"), (0, .fieldref 14 21), (0, .fieldref 8 25), (0, .nameAndType 26 12), (0, u "inFlight"), (0, .fieldref 14 25), (0, .fieldref 8 29), (0, .nameAndType 30 12), (0, u "keyReused"), (0, .fieldref 14 29), (0, .fieldref 8 33), (0, .nameAndType 34 12), (0, u "leaseLost"), (0, .fieldref 14 33), (0, .fieldref 8 37), (0, .nameAndType 38 12), (0, u "storeFailures"), (0, .fieldref 14 37), (0, .fieldref 14 41), (0, .nameAndType 42 12), (0, u "worksRunning"), (0, .fieldref 8 44), (0, .nameAndType 45 12), (0, u "worksTimed"), (0, .fieldref 14 44), (0, .fieldref 8 48), (0, .nameAndType 49 12), (0, u "workNanosTotal"), (0, .fieldref 14 48), (0, .fieldref 8 52), (0, .nameAndType 53 12), (0, u "workNanosMin"), (0, .fieldref 14 52), (0, .fieldref 8 56), (0, .nameAndType 57 12), (0, u "workNanosMax"), (0, .fieldref 14 56), (10, u "(Lcom/example/hapax/hapax/core/Tally$Span;J)V"), (3, u "calls"), (0, u "()J")] 11

def k3c0 : Code := { maxStack := 5, maxLocals := 4, code := prog_9_method_1_code, exceptionTable := #[], attributes := #[] }
def k3m0 : Method := { name := "<init>", desc := "(Lcom/example/hapax/hapax/core/Tally$Span;J)V", sig := { parameters := [(.object "com/example/hapax/hapax/core/Tally$Span"), .long], returnType := none }, accessFlags := 0, code := some k3c0 }
def k3c1 : Code := { maxStack := 4, maxLocals := 1, code := prog_9_method_2_code, exceptionTable := #[], attributes := #[] }
def k3m1 : Method := { name := "calls", desc := "()J", sig := { parameters := [], returnType := some .long }, accessFlags := 1, code := some k3c1 }
/-- com/example/hapax/hapax/core/Counts -/
def k3 : Class := { plain "com/example/hapax/hapax/core/Counts" (some 0) with
  accessFlags := 49
  interfaces := #[]
  cf := some (fileOf pool3 14 #[] #[{ accessFlags := 0, nameIndex := 5, descriptorIndex := 69, attributes := #[] }, { accessFlags := 1, nameIndex := 73, descriptorIndex := 74, attributes := #[] }] 49 2 #[] #[{ accessFlags := 18, nameIndex := 11, descriptorIndex := 12, attributes := #[] }, { accessFlags := 18, nameIndex := 18, descriptorIndex := 12, attributes := #[] }, { accessFlags := 18, nameIndex := 22, descriptorIndex := 12, attributes := #[] }, { accessFlags := 18, nameIndex := 26, descriptorIndex := 12, attributes := #[] }, { accessFlags := 18, nameIndex := 30, descriptorIndex := 12, attributes := #[] }, { accessFlags := 18, nameIndex := 34, descriptorIndex := 12, attributes := #[] }, { accessFlags := 18, nameIndex := 38, descriptorIndex := 12, attributes := #[] }, { accessFlags := 18, nameIndex := 42, descriptorIndex := 12, attributes := #[] }, { accessFlags := 18, nameIndex := 45, descriptorIndex := 12, attributes := #[] }, { accessFlags := 18, nameIndex := 49, descriptorIndex := 12, attributes := #[] }, { accessFlags := 18, nameIndex := 53, descriptorIndex := 12, attributes := #[] }, { accessFlags := 18, nameIndex := 57, descriptorIndex := 12, attributes := #[] }])
  fields := #[{ name := "executedStored", type := .long, accessFlags := 18, slot := 0, constantValue := 0 }, { name := "executedReleased", type := .long, accessFlags := 18, slot := 1, constantValue := 0 }, { name := "replayed", type := .long, accessFlags := 18, slot := 2, constantValue := 0 }, { name := "inFlight", type := .long, accessFlags := 18, slot := 3, constantValue := 0 }, { name := "keyReused", type := .long, accessFlags := 18, slot := 4, constantValue := 0 }, { name := "leaseLost", type := .long, accessFlags := 18, slot := 5, constantValue := 0 }, { name := "storeFailures", type := .long, accessFlags := 18, slot := 6, constantValue := 0 }, { name := "worksRunning", type := .long, accessFlags := 18, slot := 7, constantValue := 0 }, { name := "worksTimed", type := .long, accessFlags := 18, slot := 8, constantValue := 0 }, { name := "workNanosTotal", type := .long, accessFlags := 18, slot := 9, constantValue := 0 }, { name := "workNanosMin", type := .long, accessFlags := 18, slot := 10, constantValue := 0 }, { name := "workNanosMax", type := .long, accessFlags := 18, slot := 11, constantValue := 0 }]
  methods := #[k3m0, k3m1]
  instanceTypes := #[.long, .long, .long, .long, .long, .long, .long, .long, .long, .long, .long, .long]
  staticTypes := #[]
  resolved := Array.replicate 86 none
  statics := none }

def pool4 : Array CpInfo := pool [(1, u "java/lang/Cloneable"), (0, .class_ 1), (0, u "java/lang/Object"), (0, .class_ 3)] 3

/-- java/lang/Cloneable -/
def k4 : Class := { plain "java/lang/Cloneable" (some 0) with
  accessFlags := 1537
  interfaces := #[]
  cf := some (fileOf pool4 2 #[] #[] 1537 4 #[] #[])
  fields := #[]
  methods := #[]
  instanceTypes := #[]
  staticTypes := #[]
  resolved := Array.replicate 8 none
  statics := none }

def pool5 : Array CpInfo := pool [(1, u "java/io/Serializable"), (0, .class_ 1), (0, u "java/lang/Object"), (0, .class_ 3)] 3

/-- java/io/Serializable -/
def k5 : Class := { plain "java/io/Serializable" (some 0) with
  accessFlags := 1537
  interfaces := #[]
  cf := some (fileOf pool5 2 #[] #[] 1537 4 #[] #[])
  fields := #[]
  methods := #[]
  instanceTypes := #[]
  staticTypes := #[]
  resolved := Array.replicate 8 none
  statics := none }

/-- the primitive byte -/
def k6 : Class := { plain "byte" none with kind := .primitive 'B', accessFlags := 0x411 }
/-- [B -/
def k7 : Class := { plain "[B" (some 0) with kind := .array 6 .byte, interfaces := #[4, 5], accessFlags := 1041 }

/-- the primitive int -/
def k8 : Class := { plain "int" none with kind := .primitive 'I', accessFlags := 0x411 }
/-- [I -/
def k9 : Class := { plain "[I" (some 0) with kind := .array 8 .int, interfaces := #[4, 5], accessFlags := 1041 }

def heap : Heap := #[]
def classes : Array Class := #[k0, k1, k2, k3, k4, k5, k6, k7, k8, k9]
def interned : List (Array UInt16 × Addr) := []
def slotsUsed : Nat := 0
def theMethod : MethodId := ⟨1, 1⟩
def args0 : Array Value := #[.long 5, .long 3, .long 100, .long 2, .long 7, .long 9]
def aboutOver (below : List Frame) : State where
  vm := { classes := classes, interned := interned.toArray }
  heap := heap
  slotsUsed := slotsUsed
  threads := #[{ frames := .invoking theMethod args0 :: below }]
def below0 : List Frame := [.native { method := ⟨0, 0⟩, args := #[] }]
def about1 : State := aboutOver below0
def p0 : Program := .bare "" "" ""
def e0 : Env := launch0.env 0 0 0
theorem w_frames : about1.frames = Frame.invoking theMethod args0 :: below0 := rfl
set_option maxRecDepth 65536 in
theorem w_args : argsFit about1.vm theMethod args0 = true := by decide +kernel
set_option maxRecDepth 65536 in
theorem w_heap : heapFits about1 = true := by decide +kernel
set_option maxRecDepth 65536 in
theorem w_runnable : about1.curStatus? = some .runnable := by decide +kernel
set_option maxRecDepth 65536 in
theorem w_alone : about1.alone = true := by decide +kernel
set_option maxRecDepth 65536 in
theorem w_named : about1.methodNamed? x = some theMethod := by decide +kernel
set_option maxRecDepth 65536 in
theorem w_hears : about1.hears theMethod below0 = true := by decide +kernel
set_option maxRecDepth 65536 in
theorem w_ripe : about1.ripe theMethod args0 below0 = true := by decide +kernel
theorem w_running : about1.status = .running := rfl
set_option maxRecDepth 65536 in
theorem w_room : about1.hasRoom e0.platform room_1 = true :=
  launch0.hasRoom_least _ room_1 (by decide +kernel) (by decide +kernel) (by decide +kernel) (by decide +kernel) (by decide +kernel) (by decide +kernel)
theorem allAtoms_all (ts : List Jvm.Cond) (a : Array Jvm.Value) (st : Jvm.State) : (allAtoms ts).before a st = ts.all (fun c => c.before a st) := by
  induction ts with
  | nil => rfl
  | cons c t ih =>
    show (Jvm.Cond.and c (allAtoms t)).before a st = _
    rw [Jvm.Cond.before_and, ih, List.all_cons]
def words1 : List Jvm.Cond := Jvm.Cond.code x code maxLocals ret :: tables_1
/-- a 'code' word, met by the world's own term for the bytes: nothing is compared byte by byte -/
theorem code_word {y : MethodName} {bytes : ByteArray} {mx : Nat} {rt : Option FieldType} {a : Array Value} {s : State} {m : MethodId} {meth : Method} {c : Code} (h1 : s.methodNamed? y = some m) (h2 : s.vm.method? m = some meth) (h3 : meth.code = some c) (h4 : c.code = bytes)
    (h5 : (c.maxLocals == mx && c.exceptionTable.isEmpty && decide (c.maxStack ≤ mostOperands) && decide (meth.sig.returnType = rt) && !meth.locks && decide (parseMethodDescriptor y.desc = some meth.sig)) = true) : (Jvm.Cond.code y bytes mx rt).before a s = true := by
  simp only [Bool.and_eq_true, beq_iff_eq, Bool.not_eq_true', decide_eq_true_eq] at h5
  obtain ⟨⟨⟨⟨⟨g1, g2⟩, g3⟩, g4⟩, g5⟩, g6⟩ := h5
  simp [Cond.before, Cond.holds, Cond.value, h1, h2, h3, h4, g1, g2, g3, g4, g5, g6]
def isCode : Jvm.Cond → Bool
  | .code _ _ _ _ => true
  | _ => false
theorem all_split {L : List Jvm.Cond} {P : Jvm.Cond → Bool} (h1 : L.all (fun c => isCode c || P c) = true) (h2 : ∀ c ∈ L.filter isCode, P c = true) : L.all P = true := by
  refine List.all_eq_true.mpr fun c hc => ?_
  have h := List.all_eq_true.mp h1 c hc
  rcases Bool.eq_false_or_eq_true (isCode c) with hi | hi
  · exact h2 c (List.mem_filter.mpr ⟨hc, hi⟩)
  · simpa [hi] using h
set_option maxRecDepth 65536 in
theorem w_c0 : (Jvm.Cond.code x code maxLocals ret).before args0 about1 = true := code_word (m := ⟨1, 1⟩) (meth := k1m1) (c := k1c1) (by decide +kernel) rfl rfl rfl (by decide +kernel)
set_option maxRecDepth 65536 in
theorem w_c1 : (Jvm.Cond.code ({ cls := "com/example/hapax/hapax/core/Tally$Span", name := "<init>", desc := "()V" } : Jvm.MethodName) prog_34_method_1_code (1 : Nat) (Option.none : Option Jvm.ClassFile.FieldType)).before args0 about1 = true := code_word (m := ⟨2, 0⟩) (meth := k2m0) (c := k2c0) (by decide +kernel) rfl rfl rfl (by decide +kernel)
set_option maxRecDepth 65536 in
theorem w_c2 : (Jvm.Cond.code ({ cls := "java/lang/Object", name := "<init>", desc := "()V" } : Jvm.MethodName) object_method_1_code (1 : Nat) (Option.none : Option Jvm.ClassFile.FieldType)).before args0 about1 = true := code_word (m := ⟨0, 0⟩) (meth := k0m0) (c := k0c0) (by decide +kernel) rfl rfl rfl (by decide +kernel)
set_option maxRecDepth 65536 in
theorem w_c3 : (Jvm.Cond.code ({ cls := "com/example/hapax/hapax/core/Counts", name := "<init>", desc := "(Lcom/example/hapax/hapax/core/Tally$Span;J)V" } : Jvm.MethodName) prog_9_method_1_code (4 : Nat) (Option.none : Option Jvm.ClassFile.FieldType)).before args0 about1 = true := code_word (m := ⟨3, 0⟩) (meth := k3m0) (c := k3c0) (by decide +kernel) rfl rfl rfl (by decide +kernel)
set_option maxRecDepth 65536 in
theorem w_c4 : (Jvm.Cond.code ({ cls := "com/example/hapax/hapax/core/Counts", name := "calls", desc := "()J" } : Jvm.MethodName) prog_9_method_2_code (1 : Nat) (Option.some Jvm.ClassFile.FieldType.long)).before args0 about1 = true := code_word (m := ⟨3, 1⟩) (meth := k3m1) (c := k3c1) (by decide +kernel) rfl rfl rfl (by decide +kernel)
def codes1 : List Jvm.Cond := [Jvm.Cond.code x code maxLocals ret, Jvm.Cond.code ({ cls := "com/example/hapax/hapax/core/Tally$Span", name := "<init>", desc := "()V" } : Jvm.MethodName) prog_34_method_1_code (1 : Nat) (Option.none : Option Jvm.ClassFile.FieldType), Jvm.Cond.code ({ cls := "java/lang/Object", name := "<init>", desc := "()V" } : Jvm.MethodName) object_method_1_code (1 : Nat) (Option.none : Option Jvm.ClassFile.FieldType), Jvm.Cond.code ({ cls := "com/example/hapax/hapax/core/Counts", name := "<init>", desc := "(Lcom/example/hapax/hapax/core/Tally$Span;J)V" } : Jvm.MethodName) prog_9_method_1_code (4 : Nat) (Option.none : Option Jvm.ClassFile.FieldType), Jvm.Cond.code ({ cls := "com/example/hapax/hapax/core/Counts", name := "calls", desc := "()J" } : Jvm.MethodName) prog_9_method_2_code (1 : Nat) (Option.some Jvm.ClassFile.FieldType.long)]
set_option maxRecDepth 65536 in
theorem codes_eq : words1.filter isCode = codes1 := rfl
theorem w_codes : ∀ c ∈ words1.filter isCode, c.before args0 about1 = true := by
  rw [codes_eq]
  intro c hc
  simp only [codes1, List.mem_cons, List.not_mem_nil, or_false] at hc
  rcases hc with rfl | rfl | rfl | rfl | rfl
  · exact w_c0
  · exact w_c1
  · exact w_c2
  · exact w_c3
  · exact w_c4
set_option maxRecDepth 65536 in
theorem w_t1 : (words1.take 24).all (fun c => isCode c || c.before args0 about1) = true := by decide +kernel
set_option maxRecDepth 65536 in
theorem w_t2 : ((words1.drop 24).take 24).all (fun c => isCode c || c.before args0 about1) = true := by decide +kernel
set_option maxRecDepth 65536 in
theorem w_t3 : (((words1.drop 24).drop 24).take 24).all (fun c => isCode c || c.before args0 about1) = true := by decide +kernel
set_option maxRecDepth 65536 in
theorem w_t4 : (((words1.drop 24).drop 24).drop 24).all (fun c => isCode c || c.before args0 about1) = true := by decide +kernel
theorem w_tables : (allAtoms (Jvm.Cond.code x code maxLocals ret :: tables_1)).before args0 about1 = true := by
  rw [allAtoms_all]
  show words1.all (fun c => c.before args0 about1) = true
  refine all_split ?_ w_codes
  rw [← List.take_append_drop 24 words1, List.all_append, w_t1, ← List.take_append_drop 24 (words1.drop 24), List.all_append, w_t2, ← List.take_append_drop 24 ((words1.drop 24).drop 24), List.all_append, w_t3, w_t4]
  rfl
set_option maxRecDepth 65536 in
theorem w_case : (Jvm.Cond.and given_1 narrow_1).before args0 about1 = true := by decide +kernel
theorem w_applies : (headSpec (Jvm.Cond.code x code maxLocals ret :: tables_1) room_1).applies x e0.platform about1 = true :=
  (Spec.applies_iff w_frames).mpr ⟨w_running, w_runnable, w_alone, w_named, w_hears, w_ripe, w_room, w_tables⟩
theorem atStart : AtStart classFile x code maxLocals ret World_1 tables_1 room_1 Calls_1 rest_1 Pre_1 launch0 p0 e0 about1 theMethod args0 below0 :=
  ⟨lists_1, trivial, launch0.admits_env _ _ _, launch0.least_env, fairChoices_fair.cas, fairChoices_fair.clock, w_frames, w_args, w_heap, w_applies, trivial, trivial, w_case⟩
end start1
theorem witness_1 : WitnessClaimed_1 := ⟨start1.p0, start1.e0, start1.about1, start1.theMethod, start1.args0, start1.below0, start1.atStart⟩
end Jvm.Pilot.@@N@@
