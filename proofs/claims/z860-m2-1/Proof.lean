import JvmDerived
import JvmDerived.Pilot.@@N@@Statement
import JvmDerived.Pilot.@@N@@Code
set_option linter.unusedVariables false
set_option linter.unusedSimpArgs false
@@BLOCK:HandJ.lean.txt@@
@@BLOCK:NumsL.lean.txt@@
@@BLOCK:SymMore.lean.txt@@
namespace Jvm.Pilot.@@N@@
open Jvm Jvm.ClassFile Sem Op Lib Jvm.Free Jvm.Stand Jvm.LawKit Jvm.RoadKit Bundle Jvm.Pilot.@@N@@.Jvm.D
/-! ## own_..: a layer of continuations over the library's laws: a walk that may branch -/
/-- from T with the frame g on top the run comes to an end of which P holds -/
def own_Fin (p : Program) (e : Env) (below : List Frame) (P : Outcome → State → Prop) (T : State) (g : JFrame) : Prop :=
  ∃ s₂ o, Steps p.tables e below (T.setTop g) s₂ ∧ s₂.status = .running ∧ Ended s₂ below o ∧ P o s₂
/-- what is known of the method that is walked -/
def own_Ctx (p : Program) (Z s : State) (m : MethodId) (meth : Method) (c : Code) (cls : String) (bytes : ByteArray) (maxL : Nat) (ret : Option FieldType) (nm : String) : Prop :=
  p.tables.exec = Jvm.exec ∧ Z.Warmed39 s.vm ∧ c.code = bytes ∧ c.maxLocals = maxL ∧ s.vm.findClass cls = some m.cls ∧ meth.sig.returnType = ret ∧ meth.locks = false ∧ meth.name = nm
/-- the walk's end: it returns v, Q says what it leaves -/
def own_P (s : State) (rm : Room) (Q : Option Value → Heap → List Loc → Prop) : Outcome → State → Prop :=
  fun o t => ∃ v L, o = .returned v ∧ Q v t.heap L ∧ FrameEnd s o t L rm.cells rm.slots
/-- a method's contract at one heap and one list of arguments -/
def own_Met (l : Launch) (Z : State) (y : MethodName) (bytes : ByteArray) (maxL : Nat) (ret : Option FieldType) (rm : Room) (as' : Array Value) (h : Heap) (Q : Option Value → Heap → List Loc → Prop) : Prop :=
  ∀ ws, MetFree l y (head1 (Jvm.Cond.code y bytes maxL ret :: ws) rm) (fun a U => a = as' ∧ Z.Warmed39 U.vm ∧ U.heap = h) (fun _ _ _ _ _ => True) (fun _ U o U' => ∃ v L, o = .returned v ∧ Q v U'.heap L ∧ FrameEnd U o U' L rm.cells rm.slots)
theorem own_enter {l : Launch} {Z : State} {y : MethodName} {bytes : ByteArray} {maxL : Nat} {ret : Option FieldType} {rm : Room} {as' : Array Value} {h : Heap} {Q : Option Value → Heap → List Loc → Prop} {Ls : Array Slot}
    (hpl : plainFor y = true) (hef : ∀ m, entryFrame m as' maxL = mkF m 0 Ls [])
    (body : ∀ (p : Program) (e : Env) (s : State) (m : MethodId) (below : List Frame) (meth : Method) (c : Code) (T : State), own_Ctx p Z s m meth c y.cls bytes maxL ret y.name → Stand p l e rm s m as' below meth c T [] 0 0 → T.heap = h → own_Fin p e below (own_P s rm Q) T (mkF m 0 Ls [])) :
    own_Met l Z y bytes maxL ret rm as' h Q := by
  intro ws
  refine MetFree.of_bodySF hpl hisR ?_
  intro p e s m args below meth c s₁ Bd hml0 hP hK
  obtain ⟨rfl, hZ, hh⟩ := hP
  have q := body p e s m below meth c s₁ ⟨Bd.exec, hZ, Bd.bytes, hml0, findClass_of_methodNamed Bd.named, Bd.returns, BodyLoose.notSynchronized Bd, (name_of_methodNamed Bd.named Bd.method).1⟩ (Stand.of_body Bd) (by rw [← hh, Bd.state]; rfl)
  rw [← hef m] at q
  exact q
/-- what a method leaves that writes nothing: the value, and the heap as it was -/
def own_QI (r : Int32) (h0 : Heap) (n0 : Nat) (v : Option Value) (h : Heap) (L : List Loc) : Prop := v = some (.int r) ∧ Fr n0 L ∧ h = h0
def own_QJ (r : Int64) (h0 : Heap) (n0 : Nat) (v : Option Value) (h : Heap) (L : List Loc) : Prop := v = some (.long r) ∧ Fr n0 L ∧ h = h0
def own_QR (r : Value) (h0 : Heap) (n0 : Nat) (v : Option Value) (h : Heap) (L : List Loc) : Prop := v = some r ∧ Fr n0 L ∧ h = h0
def own_QV (h0 : Heap) (n0 : Nat) (v : Option Value) (h : Heap) (L : List Loc) : Prop := v = none ∧ Fr n0 L ∧ h = h0
/-- what a law leaves: true -/
def own_Q1 (n0 : Nat) (v : Option Value) (h : Heap) (L : List Loc) : Prop := v = some (.int 1) ∧ Fr n0 L
theorem own_lrem_eq (x y : Int64) : x - (x / y) * y = x % y := Int64.toInt_inj.mp ((Jvm.Kit.i64_rem x y).trans (Int64.toInt_mod x y).symm)
theorem own_lrem {tb : Tables} [Ours tb] {e : Env} {below : List Frame} {T target : State} {m : MethodId} {c : Code} {g : JFrame} (h : At T m c below) (hx : tb.exec = Jvm.exec) (hg : g.method = m) {x y : Int64} {rest : List Value} (hd : decode c.code g.pc = .ok (.lrem, 1)) (hs : g.stack = .long y :: .long x :: rest) (hy : y ≠ 0)
    (hr : Steps tb e below (T.setTop { g with pc := g.pc + 1, stack := .long (x % y) :: rest }) target) : Steps tb e below (T.setTop g) target :=
  XS.lrem h hx hg hd hs hy (by rw [own_lrem_eq]; exact hr)
section Own
variable {p : Program} {l : Launch} {e : Env} {R : Room} {s : State} {m : MethodId} {args : Array Value} {below : List Frame} {meth : Method} {c : Code} {T : State} {locs : List Loc} {cells slots : Nat} {Z : State} {a0 : Array Value} {h : Heap}
  {P : Outcome → State → Prop} {cls : String} {bytes : ByteArray} {maxL : Nat} {ret : Option FieldType} {nm : String} {Q : Option Value → Heap → List Loc → Prop}
theorem own_seg {T' : State} {g g' : JFrame} (st : ∀ t, Steps p.tables e below (T'.setTop g') t → Steps p.tables e below (T.setTop g) t) (k : own_Fin p e below P T' g') : own_Fin p e below P T g := by
  obtain ⟨s₂, o, h1, h2⟩ := k
  exact ⟨s₂, o, st _ h1, h2⟩
theorem own_mono (X : Stand p l e R s m args below meth c T locs cells slots) {cells' slots' : Nat} (h1 : cells ≤ cells') (h2 : slots ≤ slots') : Stand p l e R s m args below meth c T locs cells' slots' :=
  ⟨X.admits, X.cas, X.clock, X.frames, X.room, X.hears, X.method, X.code, X.here, X.tail, X.warmed, X.limits, X.bytes, X.same.mono h1 h2⟩
/-- the end of a walk -/
theorem own_out (K : own_Ctx p Z s m meth c cls bytes maxL ret nm) (X : Stand p l e R s m args below meth c T locs cells slots) {v : Option Value} (hv : ret = none → v = none) {g : JFrame}
    (st : ∀ fs, (∀ (f : JFrame) (acts : List Action), f.method = m → f.locked = none → f.entered = [] → (doReturn e (T.setTop f) acts v).1 = T.setFrames fs) → Steps p.tables e below (T.setTop g) (T.setFrames fs))
    (hQ : Q v T.heap locs) (hc : cells ≤ R.cells) (hs : slots ≤ R.slots) : own_Fin p e below (own_P s R Q) T g := by
  obtain ⟨hx, hZ, hby, hml, hown, hret, hlk, hnm⟩ := K
  obtain ⟨fs, hr, hrun, hended, hW, hsame⟩ := X.leave (v := v) (fun q => hv (hret ▸ q)) hlk
  exact ⟨_, _, st fs hr, hrun, hended, _, _, rfl, hQ, ⟨_, rfl⟩, hW, hsame.mono hc hs⟩
theorem own_retV (K : own_Ctx p Z s m meth c cls bytes maxL none nm) (X : Stand p l e R s m args below meth c T locs cells slots) {pc : Nat} {Ls : Array Slot} (hd : decode bytes pc = .ok (.return_, 1))
    (hQ : Q none T.heap locs) (hc : cells ≤ R.cells) (hs : slots ≤ R.slots) : own_Fin p e below (own_P s R Q) T (mkF m pc Ls []) :=
  own_out K X (fun _ => rfl) (fun fs hr => X.returnOut K.1 K.2.2.2.2.2.1 (hb K.2.2.1 hd) hr) hQ hc hs
theorem own_retO {t : FieldType} (K : own_Ctx p Z s m meth c cls bytes maxL (some t) nm) (X : Stand p l e R s m args below meth c T locs cells slots) {pc : Nat} {Ls : Array Slot} {w : Value} {i : Instr} {rest : List Value} (hn : narrow t w = w)
    (hi : (i = .ireturn ∧ (t = .int ∨ t = .boolean ∨ t = .byte ∨ t = .char ∨ t = .short) ∧ ∃ z, w = .int z) ∨ (i = .lreturn ∧ t = .long ∧ ∃ z, w = .long z) ∨ (i = .dreturn ∧ t = .double ∧ ∃ z, w = .double z) ∨ (i = .freturn ∧ t = .float ∧ ∃ z, w = .float z) ∨ (i = .areturn ∧ t.isReference = true ∧ w.isRef = true))
    (hd : decode bytes pc = .ok (i, 1)) (hQ : Q (some w) T.heap locs) (hc : cells ≤ R.cells) (hs : slots ≤ R.slots) : own_Fin p e below (own_P s R Q) T (mkF m pc Ls (w :: rest)) :=
  own_out K X (fun q => nomatch q) (fun fs hr => retOut X K.1 K.2.2.2.2.2.1 hn hi (hb K.2.2.1 hd) hr) hQ hc hs
theorem own_retI (K : own_Ctx p Z s m meth c cls bytes maxL (some .int) nm) (X : Stand p l e R s m args below meth c T locs cells slots) {pc : Nat} {Ls : Array Slot} {z : Int32} {rest : List Value}
    (hd : decode bytes pc = .ok (.ireturn, 1)) (hQ : Q (some (.int z)) T.heap locs) (hc : cells ≤ R.cells) (hs : slots ≤ R.slots) : own_Fin p e below (own_P s R Q) T (mkF m pc Ls (.int z :: rest)) :=
  own_retO K X rfl (Or.inl ⟨rfl, Or.inl rfl, z, rfl⟩) hd hQ hc hs
theorem own_retJ (K : own_Ctx p Z s m meth c cls bytes maxL (some .long) nm) (X : Stand p l e R s m args below meth c T locs cells slots) {pc : Nat} {Ls : Array Slot} {z : Int64} {rest : List Value}
    (hd : decode bytes pc = .ok (.lreturn, 1)) (hQ : Q (some (.long z)) T.heap locs) (hc : cells ≤ R.cells) (hs : slots ≤ R.slots) : own_Fin p e below (own_P s R Q) T (mkF m pc Ls (.long z :: rest)) :=
  own_retO K X rfl (Or.inr (Or.inl ⟨rfl, rfl, z, rfl⟩)) hd hQ hc hs
theorem own_retA {t : FieldType} (K : own_Ctx p Z s m meth c cls bytes maxL (some t) nm) (ht : t.isReference = true) (X : Stand p l e R s m args below meth c T locs cells slots) {pc : Nat} {Ls : Array Slot} {w : Value} {rest : List Value} (hw : w.isRef = true)
    (hd : decode bytes pc = .ok (.areturn, 1)) (hQ : Q (some w) T.heap locs) (hc : cells ≤ R.cells) (hs : slots ≤ R.slots) : own_Fin p e below (own_P s R Q) T (mkF m pc Ls (w :: rest)) :=
  own_retO K X (by cases t <;> first | rfl | (cases ht; done) | (rcases ref_cases hw with rfl | ⟨a, rfl⟩ <;> rfl)) (Or.inr (Or.inr (Or.inr (Or.inr ⟨rfl, ht, hw⟩)))) hd hQ hc hs
theorem own_retN {t : FieldType} (K : own_Ctx p Z s m meth c cls bytes maxL (some t) nm) (ht : t = .boolean ∨ t = .byte ∨ t = .char ∨ t = .short) (X : Stand p l e R s m args below meth c T locs cells slots) {pc : Nat} {Ls : Array Slot} {z : Int32} {rest : List Value}
    (hd : decode bytes pc = .ok (.ireturn, 1)) (hQ : Q (some (.int (nar t z))) T.heap locs) (hc : cells ≤ R.cells) (hs : slots ≤ R.slots) : own_Fin p e below (own_P s R Q) T (mkF m pc Ls (.int z :: rest)) :=
  own_out K X (fun q => nomatch q) (fun fs hr => retN X K.1 K.2.2.2.2.2.1 ht (hb K.2.2.1 hd) hr) hQ hc hs
/-! calls -/
theorem own_callS (K : own_Ctx p Z s m meth c cls bytes maxL ret nm) (X : Stand p l e R s m args below meth c T locs cells slots) (eT : T.heap = h) {y : MethodName} {yb : ByteArray} {yl : Nat} {yr : Option FieldType} {rm : Room} {as' : Array Value} {Q' : Option Value → Heap → List Loc → Prop}
    (M : own_Met l Z y yb yl yr rm as' h Q') {index : Nat} (w1 : (Jvm.Cond.methodLink cls index y).before a0 Z = true) (w2 : (Jvm.Cond.static y).before a0 Z = true) (w3 : (Jvm.Cond.initialized y.cls).before a0 Z = true) (w4 : (Jvm.Cond.code y yb yl yr).before a0 Z = true)
    (hy : y.cls ≠ "java/lang/invoke/MethodHandle" ∧ y.cls ≠ "java/lang/invoke/VarHandle") (argsL rest : List Value) {ps : List FieldType} {r : Option FieldType} (hpd : parseMethodDescriptor y.desc = some ⟨ps, r⟩) (hlen : argsL.length = ps.length) {pc : Nat} {Ls : Array Slot} {stk : List Value}
    (hstk : stk = argsL.reverse ++ rest) (has : argsL.toArray = as') (hsize : Ls.size = maxL) (hd : decode bytes pc = .ok (.invokestatic index, 3)) (hf : rm.frames + 1 ≤ R.frames) (hl : (rest.map fun v => v.category).sum + (yl + 11) + rm.locals ≤ R.locals) (hc : cells + rm.cells ≤ R.cells) (hs : slots + rm.slots ≤ R.slots)
    (k : ∀ (T' : State) (L : List Loc) (v : Option Value), Stand p l e R s m args below meth c T' (locs ++ L) (cells + rm.cells) (slots + rm.slots) → Q' v T'.heap L → own_Fin p e below P T' (mkF m (pc + 3) Ls (v.toList ++ rest))) :
    own_Fin p e below P T (mkF m pc Ls stk) := by
  obtain ⟨hx, hZ, hby, hml, hown, hret, hlk, hnm⟩ := K
  obtain ⟨v, _, ⟨T', L', k', n'⟩, -, X', ⟨L, hQ, l1, l2, l3⟩, st⟩ := Jvm.LawKit.callS X hx (y := y) hown (mvT hZ w1) (mvT hZ w2) (mvT hZ w3) (mvT hZ w4) hy (backOf (W := (rest.map fun v => v.category).sum) (M []) hZ w4 w3 hf hl) (g := mkF m pc Ls stk) rfl (hsize.trans hml.symm) (argsL := argsL) (rest := rest) (lenOf hpd hlen) hstk (by show 2 * 0 + _ ≤ _; omega) (hb hby hd) (fun _ _ => ⟨has, eT, hc, hs⟩)
  dsimp only [Pt.U, Pt.locs, Pt.cells, Pt.slots] at X' l1 l2 l3 st hQ
  subst l1 l2 l3
  exact own_seg st (k T' L v X' hQ)
theorem own_callI (K : own_Ctx p Z s m meth c cls bytes maxL ret nm) (X : Stand p l e R s m args below meth c T locs cells slots) (eT : T.heap = h) {y : MethodName} {yb : ByteArray} {yl : Nat} {rm : Room} {as' : Array Value} {Q' : Option Value → Heap → List Loc → Prop}
    (M : own_Met l Z y yb yl none rm as' h Q') (hy1 : y.name = "<init>") {index : Nat} (w1 : (Jvm.Cond.methodLink cls index y).before a0 Z = true) (w2 : (Jvm.Cond.instanceMethod y).before a0 Z = true) (w3 : (Jvm.Cond.initialized y.cls).before a0 Z = true) (w4 : (Jvm.Cond.code y yb yl none).before a0 Z = true)
    (hy : y.cls ≠ "java/lang/invoke/MethodHandle" ∧ y.cls ≠ "java/lang/invoke/VarHandle") (a : Addr) (argsL rest : List Value) {ps : List FieldType} {r : Option FieldType} (hpd : parseMethodDescriptor y.desc = some ⟨ps, r⟩) (hlen : argsL.length = ps.length) {pc : Nat} {Ls : Array Slot} {stk : List Value}
    (hstk : stk = argsL.reverse ++ .ref a :: rest) (has : (.ref a :: argsL).toArray = as') (hsize : Ls.size = maxL) (hd : decode bytes pc = .ok (.invokespecial index, 3)) (hf : rm.frames + 1 ≤ R.frames) (hl : (rest.map fun v => v.category).sum + (yl + 11) + rm.locals ≤ R.locals) (hc : cells + rm.cells ≤ R.cells) (hs : slots + rm.slots ≤ R.slots)
    (k : ∀ (T' : State) (L : List Loc) (v : Option Value), Stand p l e R s m args below meth c T' (locs ++ L) (cells + rm.cells) (slots + rm.slots) → Q' v T'.heap L → own_Fin p e below P T' (mkF m (pc + 3) Ls (v.toList ++ rest))) :
    own_Fin p e below P T (mkF m pc Ls stk) := by
  obtain ⟨hx, hZ, hby, hml, hown, hret, hlk, hnm⟩ := K
  obtain ⟨v, _, ⟨T', L', k', n'⟩, -, X', ⟨L, hQ, l1, l2, l3⟩, st⟩ := X.specialBack hx (y := y) hy1 hown (mvT hZ w1) (mvT hZ w2) (mvT hZ w4) hy (backOf (W := (rest.map fun v => v.category).sum) (M []) hZ w4 w3 hf hl) (g := mkF m pc Ls stk) rfl (hsize.trans hml.symm) (Steps.refl _) (a := a) (argsL := argsL) (rest := rest) (lenOf hpd hlen) hstk (by show 2 * 0 + _ ≤ _; omega) (hb hby hd) (fun _ _ => ⟨has, eT, hc, hs⟩)
  dsimp only [Pt.U, Pt.locs, Pt.cells, Pt.slots] at X' l1 l2 l3 st hQ
  subst l1 l2 l3
  exact own_seg (fun t q => st.trans q) (k T' L v X' hQ)
theorem own_callV (K : own_Ctx p Z s m meth c cls bytes maxL ret nm) (X : Stand p l e R s m args below meth c T locs cells slots) (eT : T.heap = h) {y z : MethodName} {yb : ByteArray} {yl : Nat} {yr : Option FieldType} {rm : Room} {as' : Array Value} {Q' : Option Value → Heap → List Loc → Prop}
    (M : own_Met l Z z yb yl yr rm as' h Q') {index : Nat} {C : String} (w1 : (Jvm.Cond.methodLink cls index y).before a0 Z = true) (w2 : (Jvm.Cond.declares y).before a0 Z = true) (nf : ∀ args, (Jvm.Cond.selects C y z).before args s = true → NotFace s y) (w5 : (Jvm.Cond.selects C y z).before a0 Z = true) (w6 : (Jvm.Cond.instanceMethod z).before a0 Z = true) (w3 : (Jvm.Cond.initialized z.cls).before a0 Z = true) (w4 : (Jvm.Cond.code z yb yl yr).before a0 Z = true)
    (hy : y.cls ≠ "java/lang/invoke/MethodHandle" ∧ y.cls ≠ "java/lang/invoke/VarHandle") (a : Addr) (E : Exa Z h a C) (argsL rest : List Value) {ps : List FieldType} {r : Option FieldType} (hpd : parseMethodDescriptor y.desc = some ⟨ps, r⟩) (hlen : argsL.length = ps.length) {pc : Nat} {Ls : Array Slot} {stk : List Value}
    (hstk : stk = argsL.reverse ++ .ref a :: rest) (has : (.ref a :: argsL).toArray = as') (hsize : Ls.size = maxL) (hd : decode bytes pc = .ok (.invokevirtual index, 3)) (hf : rm.frames + 1 ≤ R.frames) (hl : (rest.map fun v => v.category).sum + (yl + 11) + rm.locals ≤ R.locals) (hc : cells + rm.cells ≤ R.cells) (hs : slots + rm.slots ≤ R.slots)
    (k : ∀ (T' : State) (L : List Loc) (v : Option Value), Stand p l e R s m args below meth c T' (locs ++ L) (cells + rm.cells) (slots + rm.slots) → Q' v T'.heap L → own_Fin p e below P T' (mkF m (pc + 3) Ls (v.toList ++ rest))) :
    own_Fin p e below P T (mkF m pc Ls stk) := by
  obtain ⟨hx, hZ, hby, hml, hown, hret, hlk, hnm⟩ := K
  obtain ⟨cq, kq, qa, qb, qc⟩ := isOf hZ eT E
  obtain ⟨v, _, ⟨T', L', k', n'⟩, -, X', ⟨L, hQ, l1, l2, l3⟩, st⟩ := X.virtualBack hx (y := y) (z := z) hown (mvT hZ w1) (mvT hZ w2) (nf #[] (mvT hZ w5)) (mvT hZ w5) (mvT hZ w6) hy (backOf (W := (rest.map fun v => v.category).sum) (M []) hZ w4 w3 hf hl) qa qc (g := mkF m pc Ls stk) rfl (hsize.trans hml.symm) (Steps.refl _) (argsL := argsL) (rest := rest) (lenOf hpd hlen) hstk (by show 2 * 0 + _ ≤ _; omega) (hb hby hd) (fun _ _ => ⟨has, eT, hc, hs⟩)
  dsimp only [Pt.U, Pt.locs, Pt.cells, Pt.slots] at X' l1 l2 l3 st hQ
  subst l1 l2 l3
  exact own_seg (fun t q => st.trans q) (k T' L v X' hQ)
theorem own_callP (K : own_Ctx p Z s m meth c cls bytes maxL ret nm) (X : Stand p l e R s m args below meth c T locs cells slots) (eT : T.heap = h) {y : MethodName} {yb : ByteArray} {yl : Nat} {yr : Option FieldType} {rm : Room} {as' : Array Value} {Q' : Option Value → Heap → List Loc → Prop}
    (M : own_Met l Z y yb yl yr rm as' h Q') {index kk : Nat} (w1 : (Jvm.Cond.methodLink cls index y).before a0 Z = true) (w2 : (Jvm.Cond.instanceMethod y).before a0 Z = true) (w7 : (Jvm.Cond.instantiable y.cls kk).before a0 Z = true) (w6 : (Jvm.Cond.privateMethod y).before a0 Z = true) (w3 : (Jvm.Cond.initialized y.cls).before a0 Z = true) (w4 : (Jvm.Cond.code y yb yl yr).before a0 Z = true)
    (hy : y.cls ≠ "java/lang/invoke/MethodHandle" ∧ y.cls ≠ "java/lang/invoke/VarHandle") (a : Addr) (E : Exa Z h a y.cls) (argsL rest : List Value) {ps : List FieldType} {r : Option FieldType} (hpd : parseMethodDescriptor y.desc = some ⟨ps, r⟩) (hlen : argsL.length = ps.length) {pc : Nat} {Ls : Array Slot} {stk : List Value}
    (hstk : stk = argsL.reverse ++ .ref a :: rest) (has : (.ref a :: argsL).toArray = as') (hsize : Ls.size = maxL) (hd : decode bytes pc = .ok (.invokevirtual index, 3)) (hf : rm.frames + 1 ≤ R.frames) (hl : (rest.map fun v => v.category).sum + (yl + 11) + rm.locals ≤ R.locals) (hc : cells + rm.cells ≤ R.cells) (hs : slots + rm.slots ≤ R.slots)
    (k : ∀ (T' : State) (L : List Loc) (v : Option Value), Stand p l e R s m args below meth c T' (locs ++ L) (cells + rm.cells) (slots + rm.slots) → Q' v T'.heap L → own_Fin p e below P T' (mkF m (pc + 3) Ls (v.toList ++ rest))) :
    own_Fin p e below P T (mkF m pc Ls stk) := by
  obtain ⟨hx, hZ, hby, hml, hown, hret, hlk, hnm⟩ := K
  obtain ⟨cq, q1, q2⟩ := E.cell
  obtain ⟨v, _, ⟨T', L', k', n'⟩, -, X', ⟨L, hQ, l1, l2, l3⟩, st⟩ := X.privateBack hx (y := y) hown (mvT hZ w1) (mvT hZ w2) (Jvm.Kit.selects_private hy (mvT hZ w7) (mvP hZ w6) (mvT hZ w2)) (Cond.privateMethod_at (mvP hZ w6 (args := #[]))) (mvT hZ w4) hy (backOf (W := (rest.map fun v => v.category).sum) (M []) hZ w4 w3 hf hl) (g := mkF m pc Ls stk) rfl (hsize.trans hml.symm) (Steps.refl _) (a := a) (by rw [eT]; exact q1) q2 (argsL := argsL) (rest := rest) (lenOf hpd hlen) hstk (by show 2 * 0 + _ ≤ _; omega) (hb hby hd) (fun _ _ => ⟨has, eT, hc, hs⟩)
  dsimp only [Pt.U, Pt.locs, Pt.cells, Pt.slots] at X' l1 l2 l3 st hQ
  subst l1 l2 l3
  exact own_seg (fun t q => st.trans q) (k T' L v X' hQ)
theorem own_callF (K : own_Ctx p Z s m meth c cls bytes maxL ret nm) (X : Stand p l e R s m args below meth c T locs cells slots) (eT : T.heap = h) {xi y : MethodName} {yb : ByteArray} {yl : Nat} {yr : Option FieldType} {rm : Room} {as' : Array Value} {Q' : Option Value → Heap → List Loc → Prop}
    (M : own_Met l Z y yb yl yr rm as' h Q') {index count : Nat} {C : String} (w1 : (Jvm.Cond.methodLink cls index xi).before a0 Z = true) (w2 : (Jvm.Cond.declares xi).before a0 Z = true) (w8 : (Jvm.Cond.interfaceMethod xi.cls xi.cls xi.name xi.desc).before a0 Z = true) (w8f : ((Jvm.Cond.interfaceMethod xi.cls xi.cls xi.name xi.desc).onTables && (Jvm.Cond.interfaceMethod xi.cls xi.cls xi.name xi.desc).keepsFace) = true) (w5 : (Jvm.Cond.selects C xi y).before a0 Z = true) (w6 : (Jvm.Cond.instanceMethod y).before a0 Z = true) (w9 : (Jvm.Cond.publicMethod y).before a0 Z = true) (w10 : (Jvm.Cond.unhidden C xi.name xi.desc).before a0 Z = true) (w11 : (Jvm.Cond.castable C xi.cls).before a0 Z = true) (w3 : (Jvm.Cond.initialized y.cls).before a0 Z = true) (w4 : (Jvm.Cond.code y yb yl yr).before a0 Z = true)
    (hy : xi.cls ≠ "java/lang/invoke/MethodHandle" ∧ xi.cls ≠ "java/lang/invoke/VarHandle") (a : Addr) (E : Exa Z h a C) (argsL rest : List Value) {ps : List FieldType} {r : Option FieldType} (hpd : parseMethodDescriptor xi.desc = some ⟨ps, r⟩) (hlen : argsL.length = ps.length) {pc : Nat} {Ls : Array Slot} {stk : List Value}
    (hstk : stk = argsL.reverse ++ .ref a :: rest) (has : (.ref a :: argsL).toArray = as') (hsize : Ls.size = maxL) (hd : decode bytes pc = .ok (.invokeinterface index count, 5)) (hf : rm.frames + 1 ≤ R.frames) (hl : (rest.map fun v => v.category).sum + (yl + 11) + rm.locals ≤ R.locals) (hc : cells + rm.cells ≤ R.cells) (hs : slots + rm.slots ≤ R.slots)
    (k : ∀ (T' : State) (L : List Loc) (v : Option Value), Stand p l e R s m args below meth c T' (locs ++ L) (cells + rm.cells) (slots + rm.slots) → Q' v T'.heap L → own_Fin p e below P T' (mkF m (pc + 5) Ls (v.toList ++ rest))) :
    own_Fin p e below P T (mkF m pc Ls stk) := by
  obtain ⟨hx, hZ, hby, hml, hown, hret, hlk, hnm⟩ := K
  obtain ⟨cq, kq, qa, qb, qc⟩ := isOf hZ eT E
  obtain ⟨v, _, ⟨T', L', k', n'⟩, -, X', ⟨L, hQ, l1, l2, l3⟩, st⟩ := X.interfaceBack hx (xi := xi) (y := y) hown (mvT hZ w1) (mvT hZ w2) (mvT hZ w8 w8f) (mvT hZ w5) (mvT hZ w6) (mvT hZ w9) (mvT hZ w10) (mvT hZ w11) hy (backOf (W := (rest.map fun v => v.category).sum) (M []) hZ w4 w3 hf hl) qa qb qc (g := mkF m pc Ls stk) rfl (hsize.trans hml.symm) (Steps.refl _) (argsL := argsL) (rest := rest) (lenOf hpd hlen) hstk (by show 2 * 0 + _ ≤ _; omega) (hb hby hd) (fun _ _ => ⟨has, eT, hc, hs⟩)
  dsimp only [Pt.U, Pt.locs, Pt.cells, Pt.slots] at X' l1 l2 l3 st hQ
  subst l1 l2 l3
  exact own_seg (fun t q => st.trans q) (k T' L v X' hQ)
/-! fields, objects -/
theorem own_getF (K : own_Ctx p Z s m meth c cls bytes maxL ret nm) (X : Stand p l e R s m args below meth c T locs cells slots) (eT : T.heap = h) {index : Nat} {R0 O n d host : String} {a : Addr} {v : Value} (w : (Jvm.Cond.fieldLink cls index R0 n d).before a0 Z = true ∨ (Jvm.Cond.fieldLinkNest cls index R0 n d host).before a0 Z = true) (via : Via Z R0 O n d) (F : Fld Z h a O n d v)
    {pc : Nat} {Ls : Array Slot} {rest : List Value} (hd : decode bytes pc = .ok (.getfield index, 3)) (k : ∀ T', Stand p l e R s m args below meth c T' locs cells slots → T'.heap = h → own_Fin p e below P T' (mkF m (pc + 3) Ls (v :: rest))) : own_Fin p e below P T (mkF m pc Ls (.ref a :: rest)) := by
  obtain ⟨hx, hZ, hby, hml, hown, hret, hlk, hnm⟩ := K
  obtain ⟨T', X', e', st⟩ := getF X hx hZ hown w via eT F (g := mkF m pc Ls (.ref a :: rest)) rfl rfl (hb hby hd)
  exact own_seg st (k T' X' e')
theorem own_putF (K : own_Ctx p Z s m meth c cls bytes maxL ret nm) (X : Stand p l e R s m args below meth c T locs cells slots) (eT : T.heap = h) {index kk : Nat} {R0 O n d host C : String} {a : Addr} {v old : Value} {ty : FieldType} (w : (Jvm.Cond.fieldLink cls index R0 n d).before a0 Z = true ∨ (Jvm.Cond.fieldLinkNest cls index R0 n d host).before a0 Z = true) (via : Via Z R0 O n d) (F : Fld Z h a O n d old) (E : Exa Z h a C)
    (L : (Jvm.Cond.lays C O n d).before a0 Z = true ∨ ((Jvm.Cond.laysFinal C O n d).before a0 Z = true ∧ cls = O ∧ nm = "<init>")) (wi : (Jvm.Cond.instantiable C kk).before a0 Z = true) (hty : parseFieldDescriptor d = some ty) (hn : narrow ty v = v) (hf : fits ty v = true)
    {pc : Nat} {Ls : Array Slot} {rest : List Value} (hd : decode bytes pc = .ok (.putfield index, 3)) (k : ∀ T' h', Stand p l e R s m args below meth c T' (locs ++ [⟨a, Jvm.RoadKit.slotOf Z O n d⟩]) cells slots → T'.heap = h' → Wr h h' a (Jvm.RoadKit.slotOf Z O n d) v → own_Fin p e below P T' (mkF m (pc + 3) Ls rest)) : own_Fin p e below P T (mkF m pc Ls (v :: .ref a :: rest)) := by
  obtain ⟨hx, hZ, hby, hml, hown, hret, hlk, hnm⟩ := K
  obtain ⟨T', h', X', e', W, st⟩ := putF X hx hZ hown w via eT F E (L.imp id fun q => ⟨q.1, q.2.1, hnm.trans q.2.2⟩) wi hty hn hf (g := mkF m pc Ls (v :: .ref a :: rest)) rfl rfl (hb hby hd)
  exact own_seg st (k T' h' X' e' W)
theorem own_newO (K : own_Ctx p Z s m meth c cls bytes maxL ret nm) (X : Stand p l e R s m args below meth c T locs cells slots) (eT : T.heap = h) {C : String} {index n : Nat} (w : (Jvm.Cond.classLink cls index C).before a0 Z = true) (wi : (Jvm.Cond.instantiable C n).before a0 Z = true) (wz : (Jvm.Cond.initialized C).before a0 Z = true)
    {pc : Nat} {Ls : Array Slot} {stk : List Value} (hd : decode bytes pc = .ok (.new index, 3)) (hc : cells + 1 ≤ R.cells) (hl : slots + n ≤ R.slots)
    (k : ∀ T' h' a, a = h.size → Stand p l e R s m args below meth c T' locs (cells + 1) (slots + n) → T'.heap = h' → Ext h h' → Exa Z h' a C → (∀ {O nm d : String} {ty : FieldType}, Laid Z a0 C O nm d → parseFieldDescriptor d = some ty → Fld Z h' a O nm d (defaultValue ty)) → own_Fin p e below P T' (mkF m (pc + 3) Ls (.ref a :: stk))) : own_Fin p e below P T (mkF m pc Ls stk) := by
  obtain ⟨hx, hZ, hby, hml, hown, hret, hlk, hnm⟩ := K
  obtain ⟨T', h', X', e', E, A, D, -, st⟩ := newO X hx hZ hown w wi wz eT (g := mkF m pc Ls stk) rfl (hb hby hd) hc hl
  exact own_seg st (k T' h' _ rfl X' e' E A D)
theorem own_initO (K : own_Ctx p Z s m meth c cls bytes maxL ret nm) (X : Stand p l e R s m args below meth c T locs cells slots) (eT : T.heap = h) {index : Nat} (w1 : (Jvm.Cond.methodLink cls index Lib.objectInit).before a0 Z = true) (w2 : (Jvm.Cond.instanceMethod Lib.objectInit).before a0 Z = true) (w3 : (Jvm.Cond.code Lib.objectInit ⟨#[0xb1]⟩ 1 none).before a0 Z = true)
    {pc : Nat} {Ls : Array Slot} {a : Addr} {rest : List Value} (hsize : Ls.size = maxL) (hd : decode bytes pc = .ok (.invokespecial index, 3)) (hf : 1 ≤ R.frames) (hl : (rest.map fun v => v.category).sum + 12 ≤ R.locals)
    (k : ∀ T', Stand p l e R s m args below meth c T' locs cells slots → T'.heap = h → own_Fin p e below P T' (mkF m (pc + 3) Ls rest)) : own_Fin p e below P T (mkF m pc Ls (.ref a :: rest)) := by
  obtain ⟨hx, hZ, hby, hml, hown, hret, hlk, hnm⟩ := K
  obtain ⟨T', X', e', st⟩ := initO X hx hZ hown w1 w2 w3 eT (g := mkF m pc Ls (.ref a :: rest)) rfl (hsize.trans hml.symm) rfl (hb hby hd) hf (W := (rest.map fun v => v.category).sum) (by show 2 * 0 + _ ≤ _; omega) hl
  exact own_seg st (k T' X' e')
theorem own_getS (K : own_Ctx p Z s m meth c cls bytes maxL ret nm) (X : Stand p l e R s m args below meth c T locs cells slots) (eT : T.heap = h) {index : Nat} {R0 O n d host : String} {v : Value} (w : (Jvm.Cond.fieldLink cls index R0 n d).before a0 Z = true ∨ (Jvm.Cond.fieldLinkNest cls index R0 n d host).before a0 Z = true) (via : Via Z R0 O n d) (F : Sta Z h O n d v)
    {pc : Nat} {Ls : Array Slot} {stk : List Value} (hd : decode bytes pc = .ok (.getstatic index, 3)) (k : ∀ T', Stand p l e R s m args below meth c T' locs cells slots → T'.heap = h → own_Fin p e below P T' (mkF m (pc + 3) Ls (v :: stk))) : own_Fin p e below P T (mkF m pc Ls stk) := by
  obtain ⟨hx, hZ, hby, hml, hown, hret, hlk, hnm⟩ := K
  obtain ⟨T', X', e', st⟩ := getS2 X hx hZ hown w via eT F (g := mkF m pc Ls stk) rfl (hb hby hd)
  exact own_seg st (k T' X' e')
end Own
/-! ## what an object's fields hold, all at once -/
def own_Obj (Z : State) (h : Heap) (a : Addr) (C : String) (fs : List (String × String × String × Value)) : Prop := Exa Z h a C ∧ ∀ q ∈ fs, Fld Z h a q.1 q.2.1 q.2.2.1 q.2.2.2
def own_Lay (Z : State) (a0 : Array Value) (C : String) (fs : List (String × String × String)) : Prop := ∀ q ∈ fs, Laid Z a0 C q.1 q.2.1 q.2.2 ∧ ∃ t, parseFieldDescriptor q.2.2 = some t
section Obj
variable {Z : State} {a0 : Array Value} {h h' : Heap} {a b : Addr} {C : String} {fs : List (String × String × String × Value)} {ws : List Addr} {sl : Nat} {v : Value}
theorem own_Obj.exa (O : own_Obj Z h a C fs) : Exa Z h a C := O.1
theorem own_Obj.lt (O : own_Obj Z h a C fs) : a < h.size := O.1.lt
theorem own_Obj.get (O : own_Obj Z h a C fs) (i : Nat) {q : String × String × String × Value} (hi : fs[i]? = some q) : Fld Z h a q.1 q.2.1 q.2.2.1 q.2.2.2 := O.2 q (List.mem_of_getElem? hi)
theorem own_Obj.ext (O : own_Obj Z h a C fs) (E : Ext h h') : own_Obj Z h' a C fs := ⟨O.1.ext E, fun q hq => (O.2 q hq).ext E⟩
theorem own_Obj.keep (O : own_Obj Z h a C fs) (K : Keep h h' ws) (n : a ∉ ws) : own_Obj Z h' a C fs := ⟨O.1.keep K, fun q hq => (O.2 q hq).keep K n⟩
theorem own_Obj.other (O : own_Obj Z h b C fs) (W : Wr h h' a sl v) (n : b ≠ a) : own_Obj Z h' b C fs := ⟨O.1.wr W, fun q hq => (O.2 q hq).other W (Or.inl n)⟩
theorem own_Obj.put (O : own_Obj Z h a C fs) {ls : List (String × String × String)} (Y : own_Lay Z a0 C ls) (hls : fs.map (fun q => (q.1, q.2.1, q.2.2.1)) = ls) (hnd : (ls.map (fun q => q.2.1)).Nodup) (i : Nat) {O' n d : String} {old : Value} (hi : fs[i]? = some (O', n, d, old)) (W : Wr h h' a (Jvm.RoadKit.slotOf Z O' n d) v) : own_Obj Z h' a C (fs.set i (O', n, d, v)) := by
  subst hls
  refine ⟨O.1.wr W, fun q hq => ?_⟩
  obtain ⟨j, hj⟩ := List.mem_iff_getElem?.mp hq
  by_cases e : i = j
  · subst e
    have hlt : i < fs.length := (List.getElem?_eq_some_iff.mp hi).1
    rw [List.getElem?_set_self hlt] at hj
    cases hj
    exact (O.get i hi).same W
  · rw [List.getElem?_set_ne e] at hj
    refine (O.get j hj).other W (Or.inr ?_)
    obtain ⟨L1, t1, p1⟩ := Y (q.1, q.2.1, q.2.2.1) (List.mem_map.mpr ⟨q, List.mem_of_getElem? hj, rfl⟩)
    obtain ⟨L2, t2, p2⟩ := Y (O', n, d) (List.mem_map.mpr ⟨(O', n, d, old), List.mem_of_getElem? hi, rfl⟩)
    refine slot_ne L1 L2 ?_ p1 p2
    intro en
    apply e
    rw [List.map_map] at hnd
    have k1 : (fs.map ((fun q : String × String × String => q.2.1) ∘ fun q : String × String × String × Value => (q.1, q.2.1, q.2.2.1)))[i]? = some n := by rw [List.getElem?_map, hi]; rfl
    have k2 : (fs.map ((fun q : String × String × String => q.2.1) ∘ fun q : String × String × String × Value => (q.1, q.2.1, q.2.2.1)))[j]? = some n := by rw [List.getElem?_map, hj, ← en]; rfl
    exact (List.getElem?_inj (List.getElem?_eq_some_iff.mp k1).1 hnd).mp (k1.trans k2.symm)
end Obj
/-! ## an array by the list of all that it holds -/
def own_Arr (Z : State) (h : Heap) (a : Addr) (ty : FieldType) (vs : List Value) : Prop := ∃ cl : Cell, Arr Z h a cl ty ∧ cl.slots.toList = vs
section Arrs
variable {p : Program} {l : Launch} {e : Env} {R : Room} {s : State} {m : MethodId} {args : Array Value} {below : List Frame} {meth : Method} {c : Code} {T : State} {locs : List Loc} {cells slots : Nat} {Z : State} {a0 : Array Value} {h h' : Heap}
  {P : Outcome → State → Prop} {cls : String} {bytes : ByteArray} {maxL : Nat} {ret : Option FieldType} {nm : String} {a b : Addr} {ty : FieldType} {vs : List Value} {ws : List Addr} {sl : Nat} {v : Value}
theorem own_Arr.lt (A : own_Arr Z h a ty vs) : a < h.size := by obtain ⟨cl, A, -⟩ := A; exact A.lt
theorem own_Arr.ext (A : own_Arr Z h a ty vs) (E : Ext h h') : own_Arr Z h' a ty vs := by obtain ⟨cl, A, q⟩ := A; exact ⟨cl, A.ext E, q⟩
theorem own_Arr.other (A : own_Arr Z h b ty vs) (W : Wr h h' a sl v) (n : b ≠ a) : own_Arr Z h' b ty vs := by obtain ⟨cl, A, q⟩ := A; exact ⟨cl, A.other W n, q⟩
theorem own_Arr.keep (A : own_Arr Z h a ty vs) (K : Keep h h' ws) (n : a ∉ ws) : own_Arr Z h' a ty vs := by obtain ⟨cl, A, q⟩ := A; exact ⟨cl, ⟨K.2.1 a cl A.1 n, A.2⟩, q⟩
theorem own_Arr.set (A : own_Arr Z h a ty vs) (W : Wr h h' a sl v) : own_Arr Z h' a ty (vs.set sl v) := by
  obtain ⟨cl, A, q⟩ := A
  exact ⟨_, A.same W, by simp [Cell.setSlot, q]⟩
theorem own_Arr.new {cA : ClassId} {n : Int32} (A : Arr Z h a (newA cA ty n) ty) : own_Arr Z h a ty (List.replicate n.toNatClampNeg (defaultValue ty)) := ⟨_, A, by simp [newA]⟩
theorem own_at {cl : Cell} (q : cl.slots.toList = vs) {i : Nat} (hv : vs[i]? = some v) : cl.slots[i]? = some v := by rw [← hv, ← q, Array.getElem?_toList]
theorem own_in {cl : Cell} (q : cl.slots.toList = vs) {j : Int32} (hj : ¬ j < 0) (hv : vs[j.toNatClampNeg]? = some v) : ¬ (j < 0 ∨ cl.slots.size ≤ j.toNatClampNeg) := by
  rintro (r | r)
  · exact hj r
  · have := (Array.getElem?_eq_some_iff.mp (own_at q hv)).1; omega
theorem own_iaload (K : own_Ctx p Z s m meth c cls bytes maxL ret nm) (X : Stand p l e R s m args below meth c T locs cells slots) (eT : T.heap = h) (A : own_Arr Z h a .int vs) {j : Int32} (hj : ¬ j < 0) (hv : vs[j.toNatClampNeg]? = some v)
    {pc : Nat} {Ls : Array Slot} {rest : List Value} (hd : decode bytes pc = .ok (.iaload, 1)) (k : own_Fin p e below P T (mkF m (pc + 1) Ls (v :: rest))) : own_Fin p e below P T (mkF m pc Ls (.int j :: .ref a :: rest)) := by
  obtain ⟨hx, hZ, hby, -⟩ := K
  obtain ⟨cl, A, q⟩ := A
  exact own_seg (fun t u => X.iaload hx (j := j) (v := v) (by rw [eT]; exact A.1) (State.isArrayOf_alike hZ.alike A.2.1) A.2.2 (own_in q hj hv) (own_at q hv) (g := mkF m pc Ls (.int j :: .ref a :: rest)) rfl rfl (hb hby hd) t u) k
theorem own_laload (K : own_Ctx p Z s m meth c cls bytes maxL ret nm) (X : Stand p l e R s m args below meth c T locs cells slots) (eT : T.heap = h) (A : own_Arr Z h a .long vs) {j : Int32} (hj : ¬ j < 0) (hv : vs[j.toNatClampNeg]? = some v)
    {pc : Nat} {Ls : Array Slot} {rest : List Value} (hd : decode bytes pc = .ok (.laload, 1)) (k : own_Fin p e below P T (mkF m (pc + 1) Ls (v :: rest))) : own_Fin p e below P T (mkF m pc Ls (.int j :: .ref a :: rest)) := by
  obtain ⟨hx, hZ, hby, -⟩ := K
  obtain ⟨cl, A, q⟩ := A
  exact own_seg (fun t u => X.laload hx (j := j) (v := v) (by rw [eT]; exact A.1) (State.isArrayOf_alike hZ.alike A.2.1) A.2.2 (own_in q hj hv) (own_at q hv) (g := mkF m pc Ls (.int j :: .ref a :: rest)) rfl rfl (hb hby hd) t u) k
theorem own_alen (K : own_Ctx p Z s m meth c cls bytes maxL ret nm) (X : Stand p l e R s m args below meth c T locs cells slots) (eT : T.heap = h) (A : own_Arr Z h a ty vs) {n : Int32} (hn : vs.length.toInt32 = n)
    {pc : Nat} {Ls : Array Slot} {rest : List Value} (hd : decode bytes pc = .ok (.arraylength, 1)) (k : own_Fin p e below P T (mkF m (pc + 1) Ls (.int n :: rest))) : own_Fin p e below P T (mkF m pc Ls (.ref a :: rest)) := by
  obtain ⟨hx, hZ, hby, -⟩ := K
  obtain ⟨cl, A, q⟩ := A
  subst q hn
  rw [Array.length_toList] at k
  exact own_seg (fun t u => X.arraylength hx (by rw [eT]; exact A.1) (State.isArrayOf_alike hZ.alike A.2.1) (g := mkF m pc Ls (.ref a :: rest)) rfl rfl (hb hby hd) t u) k
theorem own_iastore (K : own_Ctx p Z s m meth c cls bytes maxL ret nm) (X : Stand p l e R s m args below meth c T locs cells slots) (eT : T.heap = h) (A : own_Arr Z h a .int vs) {j x : Int32} (hj : ¬ j < 0) (hv : j.toNatClampNeg < vs.length)
    {pc : Nat} {Ls : Array Slot} {rest : List Value} (hd : decode bytes pc = .ok (.iastore, 1)) (k : ∀ T' h', Stand p l e R s m args below meth c T' (locs ++ [⟨a, j.toNatClampNeg⟩]) cells slots → T'.heap = h' → Wr h h' a j.toNatClampNeg (.int x) → own_Fin p e below P T' (mkF m (pc + 1) Ls rest)) : own_Fin p e below P T (mkF m pc Ls (.int x :: .int j :: .ref a :: rest)) := by
  obtain ⟨hx, hZ, hby, -⟩ := K
  obtain ⟨cl, A, q⟩ := A
  obtain ⟨T', h', X', e', W, st⟩ := stI X hx hZ eT A (j := j) (x := x) (own_in q hj (List.getElem?_eq_getElem hv)) (g := mkF m pc Ls (.int x :: .int j :: .ref a :: rest)) rfl rfl (hb hby hd)
  exact own_seg st (k T' h' X' e' W)
theorem own_lastore (K : own_Ctx p Z s m meth c cls bytes maxL ret nm) (X : Stand p l e R s m args below meth c T locs cells slots) (eT : T.heap = h) (A : own_Arr Z h a .long vs) {j : Int32} {x : Int64} (hj : ¬ j < 0) (hv : j.toNatClampNeg < vs.length)
    {pc : Nat} {Ls : Array Slot} {rest : List Value} (hd : decode bytes pc = .ok (.lastore, 1)) (k : ∀ T' h', Stand p l e R s m args below meth c T' (locs ++ [⟨a, j.toNatClampNeg⟩]) cells slots → T'.heap = h' → Wr h h' a j.toNatClampNeg (.long x) → own_Fin p e below P T' (mkF m (pc + 1) Ls rest)) : own_Fin p e below P T (mkF m pc Ls (.long x :: .int j :: .ref a :: rest)) := by
  obtain ⟨hx, hZ, hby, -⟩ := K
  obtain ⟨cl, A, q⟩ := A
  obtain ⟨T', h', X', e', W, st⟩ := stJ X hx hZ eT A (j := j) (x := x) (own_in q hj (List.getElem?_eq_getElem hv)) (g := mkF m pc Ls (.long x :: .int j :: .ref a :: rest)) rfl rfl (hb hby hd)
  exact own_seg st (k T' h' X' e' W)
theorem own_newP (K : own_Ctx p Z s m meth c cls bytes maxL ret nm) (X : Stand p l e R s m args below meth c T locs cells slots) (eT : T.heap = h) {aty : ArrayType} (w : (Jvm.Cond.arrayClass (newarray.typeOf aty)).before a0 Z = true) {n : Int32} (hn : ¬ n < 0) (cap : Nat) (hcap : n.toNatClampNeg ≤ cap) (hcb : cap * 8 ≤ 536870912)
    {pc : Nat} {Ls : Array Slot} {rest : List Value} (hd : decode bytes pc = .ok (.newarray aty, 2)) (hc : cells + 1 ≤ R.cells) (hl : slots + cap ≤ R.slots)
    (k : ∀ T' h' a, a = h.size → Stand p l e R s m args below meth c T' locs (cells + 1) (slots + cap) → T'.heap = h' → Ext h h' → own_Arr Z h' a (newarray.typeOf aty) (List.replicate n.toNatClampNeg (defaultValue (newarray.typeOf aty))) → own_Fin p e below P T' (mkF m (pc + 2) Ls (.ref a :: rest))) : own_Fin p e below P T (mkF m pc Ls (.int n :: rest)) := by
  obtain ⟨hx, hZ, hby, -⟩ := K
  obtain ⟨T', h', cA, X', e', E, A, st⟩ := newP X hx hZ w eT (g := mkF m pc Ls (.int n :: rest)) rfl (hb hby hd) rfl hn hcap hcb hc hl
  exact own_seg st (k T' h' _ rfl X' e' E (own_Arr.new A))
end Arrs
/-! ## an array of references, of which only the class and the length are told; a list of ints by a function -/
def own_RArr (Z : State) (h : Heap) (a : Addr) (C : String) (n : Nat) : Prop := ∃ cl : Cell, Arr Z h a cl (.object C) ∧ cl.slots.size = n ∧ Ovr Z cl.cls C
section RArrs
variable {p : Program} {l : Launch} {e : Env} {R : Room} {s : State} {m : MethodId} {args : Array Value} {below : List Frame} {meth : Method} {c : Code} {T : State} {locs : List Loc} {cells slots : Nat} {Z : State} {a0 : Array Value} {h h' : Heap}
  {P : Outcome → State → Prop} {cls : String} {bytes : ByteArray} {maxL : Nat} {ret : Option FieldType} {nm : String} {a b : Addr} {C : String} {n : Nat} {ws : List Addr} {sl : Nat} {v : Value}
theorem own_RArr.lt (A : own_RArr Z h a C n) : a < h.size := by obtain ⟨cl, A, -⟩ := A; exact A.lt
theorem own_RArr.ext (A : own_RArr Z h a C n) (E : Ext h h') : own_RArr Z h' a C n := by obtain ⟨cl, A, q⟩ := A; exact ⟨cl, A.ext E, q⟩
theorem own_RArr.other (A : own_RArr Z h b C n) (W : Wr h h' a sl v) (q : b ≠ a) : own_RArr Z h' b C n := by obtain ⟨cl, A, r⟩ := A; exact ⟨cl, A.other W q, r⟩
theorem own_RArr.keep (A : own_RArr Z h a C n) (K : Keep h h' ws) (q : a ∉ ws) : own_RArr Z h' a C n := by obtain ⟨cl, A, r⟩ := A; exact ⟨cl, ⟨K.2.1 a cl A.1 q, A.2⟩, r⟩
theorem own_RArr.set (A : own_RArr Z h a C n) (W : Wr h h' a sl v) : own_RArr Z h' a C n := by obtain ⟨cl, A, r1, r2⟩ := A; exact ⟨_, A.same W, by rw [sz_set]; exact r1, r2⟩
theorem own_aastore (K : own_Ctx p Z s m meth c cls bytes maxL ret nm) (X : Stand p l e R s m args below meth c T locs cells slots) (eT : T.heap = h) (A : own_RArr Z h a C n) {j : Int32} (hj : ¬ j < 0) (hv : j.toNatClampNeg < n) (F : v = .null ∨ ∃ y, v = .ref y ∧ Ins Z h y C true)
    {pc : Nat} {Ls : Array Slot} {rest : List Value} (hd : decode bytes pc = .ok (.aastore, 1)) (k : ∀ T' h', Stand p l e R s m args below meth c T' (locs ++ [⟨a, j.toNatClampNeg⟩]) cells slots → T'.heap = h' → Wr h h' a j.toNatClampNeg v → own_Fin p e below P T' (mkF m (pc + 1) Ls rest)) : own_Fin p e below P T (mkF m pc Ls (v :: .int j :: .ref a :: rest)) := by
  obtain ⟨hx, hZ, hby, -⟩ := K
  obtain ⟨cl, A, r1, r2⟩ := A
  have S : Sto Z h a v := by
    rcases F with rfl | ⟨y, rfl, I⟩
    · exact Or.inl rfl
    · exact Sto.of A r2 I
  obtain ⟨T', h', X', e', W, st⟩ := stR X hx hZ eT A (j := j) (v := v) (fun q => q.elim hj (fun q => by omega)) rfl S (g := mkF m pc Ls (v :: .int j :: .ref a :: rest)) rfl rfl (hb hby hd)
  exact own_seg st (k T' h' X' e' W)
theorem own_newR (K : own_Ctx p Z s m meth c cls bytes maxL ret nm) (X : Stand p l e R s m args below meth c T locs cells slots) (eT : T.heap = h) {index : Nat} (w1 : (Jvm.Cond.classLink cls index C).before a0 Z = true) (w2 : (Jvm.Cond.arrayOver (.object C)).before a0 Z = true) {z : Int32} (hn : ¬ z < 0) (cap : Nat) (hcap : z.toNatClampNeg = cap) (hcb : cap * 8 ≤ 536870912)
    {pc : Nat} {Ls : Array Slot} {rest : List Value} (hd : decode bytes pc = .ok (.anewarray index, 3)) (hc : cells + 1 ≤ R.cells) (hl : slots + cap ≤ R.slots)
    (k : ∀ T' h' a, a = h.size → Stand p l e R s m args below meth c T' locs (cells + 1) (slots + cap) → T'.heap = h' → Ext h h' → own_RArr Z h' a C cap → own_Fin p e below P T' (mkF m (pc + 3) Ls (.ref a :: rest))) : own_Fin p e below P T (mkF m pc Ls (.int z :: rest)) := by
  obtain ⟨hx, hZ, hby, hml, hown, -⟩ := K
  obtain ⟨T', h', cA, X', e', E, A, O, st⟩ := newR X hx hZ hown w1 w2 eT (g := mkF m pc Ls (.int z :: rest)) rfl (hb hby hd) rfl hn (Nat.le_of_eq hcap) hcb hc hl
  exact own_seg st (k T' h' _ rfl X' e' E ⟨_, A, by rw [sz_new]; exact hcap, O⟩)
end RArrs
def own_L (n : Nat) (f : Nat → Int32) : List Value := (List.range n).map fun i => Value.int (f i)
theorem own_L_len (n : Nat) (f : Nat → Int32) : (own_L n f).length = n := by simp [own_L]
theorem own_L_at {n : Nat} {f : Nat → Int32} {i : Nat} (h : i < n) : (own_L n f)[i]? = some (.int (f i)) := by simp [own_L, h]
theorem own_L_set {n : Nat} {f : Nat → Int32} {i : Nat} {v : Int32} (h : i < n) : (own_L n f).set i (.int v) = own_L n (fun j => if j = i then v else f j) := by
  apply List.ext_getElem?
  intro j
  by_cases e : i = j
  · subst e
    rw [List.getElem?_set_self (by rw [own_L_len]; exact h), own_L_at h, if_pos rfl]
  · rw [List.getElem?_set_ne e]
    by_cases q : j < n
    · rw [own_L_at q, own_L_at q, if_neg (Ne.symm e)]
    · rw [List.getElem?_eq_none (by rw [own_L_len]; omega), List.getElem?_eq_none (by rw [own_L_len]; omega)]
theorem own_L_rep (n : Nat) : List.replicate n (Value.int 0) = own_L n (fun _ => 0) := by
  apply List.ext_getElem?
  intro j
  by_cases q : j < n
  · rw [own_L_at q, List.getElem?_replicate, if_pos q]
  · rw [List.getElem?_replicate, if_neg q, List.getElem?_eq_none (by rw [own_L_len]; omega)]
/-! ## long arrays by a function; System.arraycopy -/
def own_LJ (n : Nat) (f : Nat → Int64) : List Value := (List.range n).map fun i => Value.long (f i)
theorem own_LJ_len (n : Nat) (f : Nat → Int64) : (own_LJ n f).length = n := by simp [own_LJ]
theorem own_LJ_at {n : Nat} {f : Nat → Int64} {i : Nat} (h : i < n) : (own_LJ n f)[i]? = some (.long (f i)) := by simp [own_LJ, h]
theorem own_LJ_ext {n : Nat} {vs : List Value} {f : Nat → Int64} (hl : vs.length = n) (h : ∀ i, i < n → vs[i]? = some (.long (f i))) : vs = own_LJ n f := by
  apply List.ext_getElem?
  intro j
  by_cases q : j < n
  · rw [own_LJ_at q, h j q]
  · rw [List.getElem?_eq_none (by omega), List.getElem?_eq_none (by rw [own_LJ_len]; omega)]
theorem own_LJ_set {n : Nat} {f : Nat → Int64} {i : Nat} {v : Int64} (h : i < n) : (own_LJ n f).set i (.long v) = own_LJ n (fun j => if j = i then v else f j) := by
  apply own_LJ_ext (by rw [List.length_set, own_LJ_len])
  intro j hj
  by_cases e : i = j
  · subst e; rw [List.getElem?_set_self (by rw [own_LJ_len]; exact h), if_pos rfl]
  · rw [List.getElem?_set_ne e, own_LJ_at hj, if_neg (Ne.symm e)]
theorem own_LJ_rep (n : Nat) : List.replicate n (Value.long 0) = own_LJ n (fun _ => 0) := by
  apply own_LJ_ext (by simp)
  intro j hj
  rw [List.getElem?_replicate, if_pos hj]
theorem own_toArv {Z : State} {h : Heap} {a : Addr} {n : Nat} {f : Nat → Int64} (A : own_Arr Z h a .long (own_LJ n f)) (hn : n < 2 ^ 31) : ∃ k, Arv Z h a k .long (Int32.ofNat n) (own_LJ n f) (.long 0) := by
  obtain ⟨cl, A, q⟩ := A
  have hs : cl.slots.size = n := by rw [← Array.length_toList, q, own_LJ_len]
  have hi : (Int32.ofNat n).toInt = n := Int32.toInt_ofNat_of_lt hn
  have hc : (Int32.ofNat n).toNatClampNeg = n := by show (Int32.ofNat n).toInt.toNat = n; rw [hi]; omega
  have e0 : (0 : Int32).toInt = 0 := by decide
  have g : ∀ i, i < n → (own_LJ n f).getD i (.long 0) = .long (f i) := fun i hi => by rw [List.getD_eq_getElem?_getD, own_LJ_at hi]; rfl
  refine ⟨cl.cls, cl, A, rfl, by rw [hc, hs], by rw [Int32.lt_iff_toInt_lt, hi, e0]; omega, fun i hi => ?_, fun i hi => ?_⟩
  · rw [hs] at hi; rw [g i hi]; exact own_at q (own_LJ_at hi)
  · rw [hs] at hi; rw [g i hi]; rfl
theorem own_toArvI {Z : State} {h : Heap} {a : Addr} {n : Nat} {f : Nat → Int32} (A : own_Arr Z h a .int (own_L n f)) (hn : n < 2 ^ 31) : ∃ k, Arv Z h a k .int (Int32.ofNat n) (own_L n f) (.int 0) := by
  obtain ⟨cl, A, q⟩ := A
  have hs : cl.slots.size = n := by rw [← Array.length_toList, q, own_L_len]
  have hi : (Int32.ofNat n).toInt = n := Int32.toInt_ofNat_of_lt hn
  have hc : (Int32.ofNat n).toNatClampNeg = n := by show (Int32.ofNat n).toInt.toNat = n; rw [hi]; omega
  have e0 : (0 : Int32).toInt = 0 := by decide
  have g : ∀ i, i < n → (own_L n f).getD i (.int 0) = .int (f i) := fun i hi => by rw [List.getD_eq_getElem?_getD, own_L_at hi]; rfl
  refine ⟨cl.cls, cl, A, rfl, by rw [hc, hs], by rw [Int32.lt_iff_toInt_lt, hi, e0]; omega, fun i hi => ?_, fun i hi => ?_⟩
  · rw [hs] at hi; rw [g i hi]; exact own_at q (own_L_at hi)
  · rw [hs] at hi; rw [g i hi]; rfl
def own_cp (f' f : Nat → α) (sp dp nn : Nat) : Nat → α := fun i => if dp ≤ i ∧ i < dp + nn then f (i - dp + sp) else f' i
theorem own_ofArv {Z : State} {h : Heap} {a : Addr} {k : ClassId} {n : Nat} {vs : List Value} {f : Nat → Int64} (hn : n < 2 ^ 31) (A : Arv Z h a k .long (Int32.ofNat n) vs (.long 0)) (hv : ∀ i, i < n → vs.getD i (.long 0) = .long (f i)) : own_Arr Z h a .long (own_LJ n f) := by
  obtain ⟨cl, A, -, q, -, H, -⟩ := A
  have hi : (Int32.ofNat n).toInt = n := Int32.toInt_ofNat_of_lt hn
  have hc : (Int32.ofNat n).toNatClampNeg = n := by show (Int32.ofNat n).toInt.toNat = n; rw [hi]; omega
  rw [hc] at q
  refine ⟨cl, A, own_LJ_ext (by rw [Array.length_toList, q]) fun i hi => ?_⟩
  rw [Array.getElem?_toList, H i (by rw [q]; exact hi), hv i hi]
theorem own_ofArvI {Z : State} {h : Heap} {a : Addr} {k : ClassId} {n : Nat} {vs : List Value} {f : Nat → Int32} (hn : n < 2 ^ 31) (A : Arv Z h a k .int (Int32.ofNat n) vs (.int 0)) (hv : ∀ i, i < n → vs.getD i (.int 0) = .int (f i)) : own_Arr Z h a .int (own_L n f) := by
  obtain ⟨cl, A, -, q, -, H, -⟩ := A
  have hi : (Int32.ofNat n).toInt = n := Int32.toInt_ofNat_of_lt hn
  have hc : (Int32.ofNat n).toNatClampNeg = n := by show (Int32.ofNat n).toInt.toNat = n; rw [hi]; omega
  rw [hc] at q
  refine ⟨cl, A, ?_⟩
  apply List.ext_getElem?
  intro j
  by_cases w : j < n
  · rw [own_L_at w, Array.getElem?_toList, H j (by rw [q]; exact w), hv j w]
  · rw [List.getElem?_eq_none (by rw [Array.length_toList, q]; omega), List.getElem?_eq_none (by rw [own_L_len]; omega)]
theorem own_cp_get {n n' sp dp nn : Nat} {vs vd : List Value} {d : Value} (hl : vd.length = n') (h5 : dp + nn ≤ n') (i : Nat) (hi : i < n') :
    (vd.take dp ++ (List.range nn).map (fun i => vs.getD (sp + i) d) ++ vd.drop (dp + nn)).getD i d = if dp ≤ i ∧ i < dp + nn then vs.getD (i - dp + sp) d else vd.getD i d := by
  simp only [List.getD_eq_getElem?_getD]
  by_cases h1 : i < dp
  · rw [List.append_assoc, List.getElem?_append_left (by rw [List.length_take]; omega), List.getElem?_take_of_lt h1, if_neg (by omega)]
  · by_cases h2 : i < dp + nn
    · rw [if_pos ⟨by omega, h2⟩, List.getElem?_append_left (by simp; omega), List.getElem?_append_right (by rw [List.length_take]; omega)]
      have e1 : i - (List.take dp vd).length = i - dp := by rw [List.length_take]; omega
      rw [e1, List.getElem?_map, List.getElem?_range (by omega)]
      simp only [Option.map_some, Option.getD_some, Nat.add_comm sp]
    · rw [if_neg (by omega), List.getElem?_append_right (by simp; omega), List.getElem?_drop]
      congr 2
      simp; omega
section Cp
variable {p : Program} {l : Launch} {e : Env} {R : Room} {s : State} {m : MethodId} {args : Array Value} {below : List Frame} {meth : Method} {c : Code} {T : State} {locs : List Loc} {cells slots : Nat} {Z : State} {a0 : Array Value} {h : Heap}
  {P : Outcome → State → Prop} {cls : String} {bytes : ByteArray} {maxL : Nat} {ret : Option FieldType} {nm : String} {a b : Addr}
theorem own_cpJ (K : own_Ctx p Z s m meth c cls bytes maxL ret nm) (X : Stand p l e R s m args below meth c T locs cells slots) (eT : T.heap = h) {index : Nat} (w1 : (Jvm.Cond.methodLink cls index Jvm.Stand.acN).before a0 Z = true) (w2 : (Jvm.Cond.native Jvm.Stand.acN).before a0 Z = true) (w3 : (Jvm.Cond.static Jvm.Stand.acN).before a0 Z = true) (w4 : (Jvm.Cond.initialized "java/lang/System").before a0 Z = true)
    {n n' : Nat} {f f' : Nat → Int64} (A : own_Arr Z h a .long (own_LJ n f)) (B : own_Arr Z h b .long (own_LJ n' f')) (hn : n < 2 ^ 30) (hn' : n' < 2 ^ 30) (sp dp nn : Nat) (h4 : sp + nn ≤ n) (h5 : dp + nn ≤ n') {n0 : Nat} (N : Fr n0 locs) (ge : n0 ≤ b)
    {pc : Nat} {Ls : Array Slot} {rest : List Value} (hsize : Ls.size = maxL) (hd : decode bytes pc = .ok (.invokestatic index, 3)) (hf : 1 ≤ R.frames) (hlo : (rest.map fun v => v.category).sum + (nativeFrameWords "java/lang/System" "arraycopy" 5 + 11) ≤ R.locals)
    (k : ∀ T' h' L, Stand p l e R s m args below meth c T' L cells slots → T'.heap = h' → Fr n0 L → Keep h h' [b] → own_Arr Z h' b .long (own_LJ n' (own_cp f' f sp dp nn)) → own_Fin p e below P T' (mkF m (pc + 3) Ls rest)) :
    own_Fin p e below P T (mkF m pc Ls (.int (Int32.ofNat nn) :: .int (Int32.ofNat dp) :: .ref b :: .int (Int32.ofNat sp) :: .ref a :: rest)) := by
  obtain ⟨hx, hZ, hby, hml, hown, -⟩ := K
  obtain ⟨ka, A⟩ := own_toArv A (by omega)
  obtain ⟨kb, B⟩ := own_toArv B (by omega)
  have cl : ∀ k : Nat, k < 2 ^ 31 → (Int32.ofNat k).toNatClampNeg = k := fun k hk => by show (Int32.ofNat k).toInt.toNat = k; rw [Int32.toInt_ofNat_of_lt hk]; omega
  have e0 : (0 : Int32).toInt = 0 := by decide
  have nn' : ∀ k : Nat, k < 2 ^ 31 → ¬ Int32.ofNat k < 0 := fun k hk => by rw [Int32.lt_iff_toInt_lt, Int32.toInt_ofNat_of_lt hk, e0]; omega
  obtain ⟨T', h', L, X', e', N', K', B', st⟩ := cpA X hx hZ hown w1 w2 w3 w4 eT A B (us := (List.range nn).map fun i => (own_LJ n f).getD (sp + i) (.long 0)) (Or.inl ⟨rfl, rfl⟩) (nn' sp (by omega)) (nn' dp (by omega)) (nn' nn (by omega)) (by rw [cl sp (by omega), cl nn (by omega), cl n (by omega)]; exact h4) (by rw [cl dp (by omega), cl nn (by omega), cl n' (by omega)]; exact h5) (by rw [cl sp (by omega), cl nn (by omega)]) (by rw [cl dp (by omega), cl nn (by omega), own_LJ_len]; exact h5) N ge
    (g := mkF m pc Ls (.int (Int32.ofNat nn) :: .int (Int32.ofNat dp) :: .ref b :: .int (Int32.ofNat sp) :: .ref a :: rest)) rfl (hsize.trans hml.symm) rfl (hb hby hd) hf (W := (rest.map fun v => v.category).sum) (by show 2 * 0 + _ ≤ _; omega) hlo
  rw [cl dp (by omega), cl nn (by omega)] at B'
  refine own_seg st (k T' h' L X' e' N' K' (own_ofArv (by omega) B' fun i hi => ?_))
  rw [own_cp_get (n := n) (own_LJ_len _ _) h5 i hi, own_cp]
  split
  · rename_i q
    rw [List.getD_eq_getElem?_getD, own_LJ_at (by omega)]; rfl
  · rw [List.getD_eq_getElem?_getD, own_LJ_at hi]; rfl
theorem own_cpI (K : own_Ctx p Z s m meth c cls bytes maxL ret nm) (X : Stand p l e R s m args below meth c T locs cells slots) (eT : T.heap = h) {index : Nat} (w1 : (Jvm.Cond.methodLink cls index Jvm.Stand.acN).before a0 Z = true) (w2 : (Jvm.Cond.native Jvm.Stand.acN).before a0 Z = true) (w3 : (Jvm.Cond.static Jvm.Stand.acN).before a0 Z = true) (w4 : (Jvm.Cond.initialized "java/lang/System").before a0 Z = true)
    {n n' : Nat} {f f' : Nat → Int32} (A : own_Arr Z h a .int (own_L n f)) (B : own_Arr Z h b .int (own_L n' f')) (hn : n < 2 ^ 30) (hn' : n' < 2 ^ 30) (sp dp nn : Nat) (h4 : sp + nn ≤ n) (h5 : dp + nn ≤ n') {n0 : Nat} (N : Fr n0 locs) (ge : n0 ≤ b)
    {pc : Nat} {Ls : Array Slot} {rest : List Value} (hsize : Ls.size = maxL) (hd : decode bytes pc = .ok (.invokestatic index, 3)) (hf : 1 ≤ R.frames) (hlo : (rest.map fun v => v.category).sum + (nativeFrameWords "java/lang/System" "arraycopy" 5 + 11) ≤ R.locals)
    (k : ∀ T' h' L, Stand p l e R s m args below meth c T' L cells slots → T'.heap = h' → Fr n0 L → Keep h h' [b] → own_Arr Z h' b .int (own_L n' (own_cp f' f sp dp nn)) → own_Fin p e below P T' (mkF m (pc + 3) Ls rest)) :
    own_Fin p e below P T (mkF m pc Ls (.int (Int32.ofNat nn) :: .int (Int32.ofNat dp) :: .ref b :: .int (Int32.ofNat sp) :: .ref a :: rest)) := by
  obtain ⟨hx, hZ, hby, hml, hown, -⟩ := K
  obtain ⟨ka, A⟩ := own_toArvI A (by omega)
  obtain ⟨kb, B⟩ := own_toArvI B (by omega)
  have cl : ∀ k : Nat, k < 2 ^ 31 → (Int32.ofNat k).toNatClampNeg = k := fun k hk => by show (Int32.ofNat k).toInt.toNat = k; rw [Int32.toInt_ofNat_of_lt hk]; omega
  have e0 : (0 : Int32).toInt = 0 := by decide
  have nn' : ∀ k : Nat, k < 2 ^ 31 → ¬ Int32.ofNat k < 0 := fun k hk => by rw [Int32.lt_iff_toInt_lt, Int32.toInt_ofNat_of_lt hk, e0]; omega
  obtain ⟨T', h', L, X', e', N', K', B', st⟩ := cpA X hx hZ hown w1 w2 w3 w4 eT A B (us := (List.range nn).map fun i => (own_L n f).getD (sp + i) (.int 0)) (Or.inl ⟨rfl, rfl⟩) (nn' sp (by omega)) (nn' dp (by omega)) (nn' nn (by omega)) (by rw [cl sp (by omega), cl nn (by omega), cl n (by omega)]; exact h4) (by rw [cl dp (by omega), cl nn (by omega), cl n' (by omega)]; exact h5) (by rw [cl sp (by omega), cl nn (by omega)]) (by rw [cl dp (by omega), cl nn (by omega), own_L_len]; exact h5) N ge
    (g := mkF m pc Ls (.int (Int32.ofNat nn) :: .int (Int32.ofNat dp) :: .ref b :: .int (Int32.ofNat sp) :: .ref a :: rest)) rfl (hsize.trans hml.symm) rfl (hb hby hd) hf (W := (rest.map fun v => v.category).sum) (by show 2 * 0 + _ ≤ _; omega) hlo
  rw [cl dp (by omega), cl nn (by omega)] at B'
  refine own_seg st (k T' h' L X' e' N' K' (own_ofArvI (by omega) B' fun i hi => ?_))
  rw [own_cp_get (n := n) (own_L_len _ _) h5 i hi, own_cp]
  split
  · rename_i q
    rw [List.getD_eq_getElem?_getD, own_L_at (by omega)]; rfl
  · rw [List.getD_eq_getElem?_getD, own_L_at hi]; rfl
end Cp
/-! ## the wide end: a walk that may resolve String constants -/
def own_PW (s : State) (rm : Room) (Q : Option Value → Heap → List Loc → Prop) : Outcome → State → Prop :=
  fun o t => ∃ v L, o = .returned v ∧ Q v t.heap L ∧ ReturnedEndW s o t L rm.cells rm.slots
def own_MetW (l : Launch) (Z : State) (y : MethodName) (bytes : ByteArray) (maxL : Nat) (ret : Option FieldType) (rm : Room) (as' : Array Value) (h : Heap) (Q : Option Value → Heap → List Loc → Prop) : Prop :=
  ∀ ws, MetFree l y (head1 (Jvm.Cond.code y bytes maxL ret :: ws) rm) (fun a U => a = as' ∧ Z.Warmed39 U.vm ∧ U.heap = h) (fun _ _ _ _ _ => True) (fun _ U o U' => ∃ v L, o = .returned v ∧ Q v U'.heap L ∧ ReturnedEndW U o U' L rm.cells rm.slots)
theorem own_enterW {l : Launch} {Z : State} {y : MethodName} {bytes : ByteArray} {maxL : Nat} {ret : Option FieldType} {rm : Room} {as' : Array Value} {h : Heap} {Q : Option Value → Heap → List Loc → Prop} {Ls : Array Slot}
    (hpl : plainFor y = true) (hef : ∀ m, entryFrame m as' maxL = mkF m 0 Ls [])
    (body : ∀ (p : Program) (e : Env) (s : State) (m : MethodId) (below : List Frame) (meth : Method) (c : Code) (T : State), own_Ctx p Z (s.setVm s.vm) m meth c y.cls bytes maxL ret y.name → Stand p l e rm (s.setVm s.vm) m as' below meth c T [] 0 0 → T.heap = h → s.Since s.vm 0 → own_Fin p e below (own_PW s rm Q) T (mkF m 0 Ls [])) :
    own_MetW l Z y bytes maxL ret rm as' h Q := by
  intro ws
  refine MetFree.of_bodySF hpl hisR ?_
  intro p e s m args below meth c s₁ Bd hml0 hP hK
  obtain ⟨rfl, hZ, hh⟩ := hP
  have q := body p e s m below meth c s₁ ⟨Bd.exec, hZ, Bd.bytes, hml0, findClass_of_methodNamed Bd.named, Bd.returns, BodyLoose.notSynchronized Bd, (name_of_methodNamed Bd.named Bd.method).1⟩ (Stand.of_body Bd) (by rw [← hh, Bd.state]; rfl) ((State.WarmedH.refl s).since 0)
  rw [← hef m] at q
  exact q
section OwnW
variable {p : Program} {l : Launch} {e : Env} {R : Room} {s : State} {vm0 : Vm} {m : MethodId} {args : Array Value} {below : List Frame} {meth : Method} {c : Code} {T : State} {locs : List Loc} {cells slots : Nat} {Z : State} {a0 : Array Value} {h : Heap}
  {P : Outcome → State → Prop} {cls : String} {bytes : ByteArray} {maxL : Nat} {ret : Option FieldType} {nm : String} {Q : Option Value → Heap → List Loc → Prop}
theorem own_outW (K : own_Ctx p Z (s.setVm vm0) m meth c cls bytes maxL ret nm) (X : Stand p l e R (s.setVm vm0) m args below meth c T locs cells slots) {k0 : Nat} (hS : s.Since vm0 k0) (hk : k0 ≤ T.heap.size) {v : Option Value} (hv : ret = none → v = none) {g : JFrame}
    (st : ∀ fs, (∀ (f : JFrame) (acts : List Action), f.method = m → f.locked = none → f.entered = [] → (doReturn e (T.setTop f) acts v).1 = T.setFrames fs) → Steps p.tables e below (T.setTop g) (T.setFrames fs))
    (hQ : Q v T.heap locs) (hc : cells ≤ R.cells) (hs : slots ≤ R.slots) : own_Fin p e below (own_PW s R Q) T g := by
  obtain ⟨hx, hZ, hby, hml, hown, hret, hlk, hnm⟩ := K
  obtain ⟨fs, hr, hrun, hended, h1, h2, h3, h4⟩ := X.leaveW hS hk (v := v) (fun q => hv (hret ▸ q)) hlk
  exact ⟨_, _, st fs hr, hrun, hended, _, _, rfl, hQ, ⟨_, rfl⟩, h2, h3, h4.mono hc hs⟩
theorem own_retNW {t : FieldType} (K : own_Ctx p Z (s.setVm vm0) m meth c cls bytes maxL (some t) nm) (ht : t = .boolean ∨ t = .byte ∨ t = .char ∨ t = .short) (X : Stand p l e R (s.setVm vm0) m args below meth c T locs cells slots) {k0 : Nat} (hS : s.Since vm0 k0) (hk : k0 ≤ T.heap.size) {pc : Nat} {Ls : Array Slot} {z : Int32} {rest : List Value}
    (hd : decode bytes pc = .ok (.ireturn, 1)) (hQ : Q (some (.int (nar t z))) T.heap locs) (hc : cells ≤ R.cells) (hs : slots ≤ R.slots) : own_Fin p e below (own_PW s R Q) T (mkF m pc Ls (.int z :: rest)) :=
  own_outW K X hS hk (fun q => nomatch q) (fun fs hr => retN X K.1 K.2.2.2.2.2.1 ht (hb K.2.2.1 hd) hr) hQ hc hs
theorem own_retVW (K : own_Ctx p Z (s.setVm vm0) m meth c cls bytes maxL none nm) (X : Stand p l e R (s.setVm vm0) m args below meth c T locs cells slots) {k0 : Nat} (hS : s.Since vm0 k0) (hk : k0 ≤ T.heap.size) {pc : Nat} {Ls : Array Slot} (hd : decode bytes pc = .ok (.return_, 1))
    (hQ : Q none T.heap locs) (hc : cells ≤ R.cells) (hs : slots ≤ R.slots) : own_Fin p e below (own_PW s R Q) T (mkF m pc Ls []) :=
  own_outW K X hS hk (fun _ => rfl) (fun fs hr => X.returnOut K.1 K.2.2.2.2.2.1 (hb K.2.2.1 hd) hr) hQ hc hs
theorem own_ldcS (K : own_Ctx p Z (s.setVm vm0) m meth c cls bytes maxL ret nm) (X : Stand p l e R (s.setVm vm0) m args below meth c T locs cells slots) (eT : T.heap = h) {k0 : Nat} (hS : s.Since vm0 k0) (hk : k0 ≤ h.size) {text : String} {index : Nat} (w : (Jvm.Cond.stringLink cls index text).before a0 Z = true) (wS : ∀ a ∈ Bundle.stringAtoms, a.before a0 Z = true)
    {pc : Nat} {Ls : Array Slot} {stk : List Value} (hd : decode bytes pc = .ok (.ldc index, 2)) (n : Nat) (hn : 4 * text.toList.length ≤ n) (hbig : n ≤ 536870912) (hc : cells + 2 ≤ R.cells) (hl : slots + (n + 4) ≤ R.slots)
    (k : ∀ (a : Addr) (T' : State) (h' : Heap) (k1 : Nat), own_Ctx p Z (s.setVm T'.vm) m meth c cls bytes maxL ret nm → Stand p l e R (s.setVm T'.vm) m args below meth c T' locs (cells + 2) (slots + (n + 4)) → T'.heap = h' → Ext h h' → s.Since T'.vm k1 → k1 ≤ h'.size → own_Fin p e below P T' (mkF m (pc + 2) Ls (.ref a :: stk))) : own_Fin p e below P T (mkF m pc Ls stk) := by
  obtain ⟨hx, hZ, hby, hml, hown, hret, hlk, hnm⟩ := K
  obtain ⟨a, T', h', k1, X', e', E, hS', hk', hZ', hown', st⟩ := ldcS X hx hZ hown w wS eT hS hk (g := mkF m pc Ls stk) rfl (hb hby hd) hn hbig hc hl
  exact own_seg st (k a T' h' k1 ⟨hx, hZ', hby, hml, hown', hret, hlk, hnm⟩ X' e' E hS' hk')
theorem own_callIW (K : own_Ctx p Z (s.setVm vm0) m meth c cls bytes maxL ret nm) (X : Stand p l e R (s.setVm vm0) m args below meth c T locs cells slots) (eT : T.heap = h) {k0 : Nat} (hS : s.Since vm0 k0) (hk : k0 ≤ h.size) {y : MethodName} {yb : ByteArray} {yl : Nat} {rm : Room} {as' : Array Value} {Q' : Option Value → Heap → List Loc → Prop}
    (M : own_MetW l Z y yb yl none rm as' h Q') (hy1 : y.name = "<init>") {index : Nat} (w1 : (Jvm.Cond.methodLink cls index y).before a0 Z = true) (w2 : (Jvm.Cond.instanceMethod y).before a0 Z = true) (w3 : (Jvm.Cond.initialized y.cls).before a0 Z = true) (w4 : (Jvm.Cond.code y yb yl none).before a0 Z = true)
    (hy : y.cls ≠ "java/lang/invoke/MethodHandle" ∧ y.cls ≠ "java/lang/invoke/VarHandle") (a : Addr) (argsL rest : List Value) {ps : List FieldType} {r : Option FieldType} (hpd : parseMethodDescriptor y.desc = some ⟨ps, r⟩) (hlen : argsL.length = ps.length) {pc : Nat} {Ls : Array Slot} {stk : List Value}
    (hstk : stk = argsL.reverse ++ .ref a :: rest) (has : (.ref a :: argsL).toArray = as') (hsize : Ls.size = maxL) (hd : decode bytes pc = .ok (.invokespecial index, 3)) (hf : rm.frames + 1 ≤ R.frames) (hl : (rest.map fun v => v.category).sum + (yl + 11) + rm.locals ≤ R.locals) (hc : cells + rm.cells ≤ R.cells) (hs : slots + rm.slots ≤ R.slots)
    (k : ∀ (T' : State) (L : List Loc) (v : Option Value) (k1 : Nat), own_Ctx p Z (s.setVm T'.vm) m meth c cls bytes maxL ret nm → Stand p l e R (s.setVm T'.vm) m args below meth c T' (locs ++ L) (cells + rm.cells) (slots + rm.slots) → s.Since T'.vm k1 → k1 ≤ T'.heap.size → Q' v T'.heap L → own_Fin p e below P T' (mkF m (pc + 3) Ls (v.toList ++ rest))) :
    own_Fin p e below P T (mkF m pc Ls stk) := by
  obtain ⟨hx, hZ, hby, hml, hown, hret, hlk, hnm⟩ := K
  obtain ⟨v, _, ⟨T', L', k', n'⟩, -, X', hS', hgr, ⟨L, hQ, l1, l2, l3⟩, st⟩ := X.specialBackS hx (y := y) hy1 hown (mvT hZ w1) (mvT hZ w2) (mvT hZ w4) hy (backOfS (W := (rest.map fun v => v.category).sum) (M []) hZ w4 w3 hf hl) (g := mkF m pc Ls stk) rfl (hsize.trans hml.symm) (Steps.refl _) (a := a) (argsL := argsL) (rest := rest) (lenOf hpd hlen) hstk (by show 2 * 0 + _ ≤ _; omega) (hb hby hd) (fun _ _ => ⟨has, eT, hc, hs⟩)
  dsimp only [Pt.U, Pt.locs, Pt.cells, Pt.slots] at X' l1 l2 l3 st hQ hS' hgr
  subst l1 l2 l3
  have hS2 : s.Since T'.vm T'.heap.size := hS.trans hS' (Nat.le_trans hk (by rw [← eT]; exact hgr))
  have hZ2 : Z.Warmed39 (s.setVm T'.vm).vm := State.Warmed39.trans (t := s.setVm vm0) hZ hS'.1
  have hown2 : (s.setVm T'.vm).vm.findClass cls = some m.cls := by rw [show (s.setVm T'.vm).vm = T'.vm from rfl, hS'.1.alike.findClass]; exact hown
  exact own_seg (fun t q => st.trans q) (k T' L v _ ⟨hx, hZ2, hby, hml, hown2, hret, hlk, hnm⟩ X' hS2 (Nat.le_refl _) hQ)
end OwnW
/-! ## byte arrays by a function, char arrays -/
def own_B (n : Nat) (g : Nat → Int8) : List Value := (List.range n).map fun i => Value.int (g i).toInt32
theorem own_B_len (n : Nat) (g : Nat → Int8) : (own_B n g).length = n := by simp [own_B]
theorem own_B_at {n : Nat} {g : Nat → Int8} {i : Nat} (h : i < n) : (own_B n g)[i]? = some (.int (g i).toInt32) := by simp [own_B, h]
def own_u8 (g : Nat → Int8) (i : Nat) (x : Int32) : Nat → Int8 := fun j => if j = i then x.toInt8 else g j
theorem own_B_set {n : Nat} {g : Nat → Int8} {i : Nat} {x : Int32} (h : i < n) : (own_B n g).set i (.int x.toInt8.toInt32) = own_B n (own_u8 g i x) := by
  apply List.ext_getElem?
  intro j
  rw [List.getElem?_set]
  by_cases e : i = j
  · subst e
    rw [if_pos rfl, if_pos (by rw [own_B_len]; exact h), own_B_at h]; unfold own_u8; rw [if_pos rfl]
  · rw [if_neg e]
    by_cases w : j < n
    · rw [own_B_at w, own_B_at w]; unfold own_u8; rw [if_neg (fun q => e q.symm)]
    · rw [List.getElem?_eq_none (by rw [own_B_len]; omega), List.getElem?_eq_none (by rw [own_B_len]; omega)]
theorem own_B_rep (n : Nat) : List.replicate n (Value.int 0) = own_B n (fun _ => 0) := by
  apply List.ext_getElem?
  intro j
  by_cases w : j < n
  · rw [own_B_at w, List.getElem?_replicate, if_pos w]; rfl
  · rw [List.getElem?_eq_none (by rw [List.length_replicate]; omega), List.getElem?_eq_none (by rw [own_B_len]; omega)]
def own_Byt (Z : State) (h : Heap) (a : Addr) (n : Nat) (g : Nat → Int8) : Prop := own_Arr Z h a .byte (own_B n g) ∧ Exa Z h a "[B"
section OwnBf
variable {Z : State} {h h' : Heap} {a b : Addr} {n : Nat} {g : Nat → Int8} {ws : List Addr} {sl : Nat} {v : Value}
theorem own_Byt.lt (A : own_Byt Z h a n g) : a < h.size := A.1.lt
theorem own_Byt.ext (A : own_Byt Z h a n g) (E : Ext h h') : own_Byt Z h' a n g := ⟨A.1.ext E, A.2.ext E⟩
theorem own_Byt.other (A : own_Byt Z h b n g) (W : Wr h h' a sl v) (q : b ≠ a) : own_Byt Z h' b n g := ⟨A.1.other W q, A.2.wr W⟩
theorem own_Byt.keep (A : own_Byt Z h a n g) (K : Keep h h' ws) (q : a ∉ ws) : own_Byt Z h' a n g := ⟨A.1.keep K q, A.2.keep K⟩
theorem own_Byt.set {i : Nat} {x : Int32} (A : own_Byt Z h a n g) (hi : i < n) (W : Wr h h' a i (.int (nar .byte x))) : own_Byt Z h' a n (own_u8 g i x) := by
  refine ⟨?_, A.2.wr W⟩
  have q := A.1.set W
  rw [show (.int (nar .byte x) : Value) = .int x.toInt8.toInt32 from rfl, own_B_set hi] at q
  exact q
theorem own_fit8 (x : Int8) : fits .byte (.int x.toInt32) = true := Jvm.Free.SBG.fits_of_int8 x
end OwnBf
section OwnBs
variable {p : Program} {l : Launch} {e : Env} {R : Room} {s : State} {m : MethodId} {args : Array Value} {below : List Frame} {meth : Method} {c : Code} {T : State} {locs : List Loc} {cells slots : Nat} {Z : State} {a0 : Array Value} {h : Heap}
  {P : Outcome → State → Prop} {cls : String} {bytes : ByteArray} {maxL : Nat} {ret : Option FieldType} {nm : String} {a b : Addr} {n : Nat} {g : Nat → Int8} {vs : List Value} {v : Value}
theorem own_baload (K : own_Ctx p Z s m meth c cls bytes maxL ret nm) (X : Stand p l e R s m args below meth c T locs cells slots) (eT : T.heap = h) (A : own_Byt Z h a n g) {j : Int32} (i : Nat) (hj : ¬ j < 0) (hi : j.toNatClampNeg = i) (hn : i < n)
    {pc : Nat} {Ls : Array Slot} {rest : List Value} (hd : decode bytes pc = .ok (.baload, 1)) (k : own_Fin p e below P T (mkF m (pc + 1) Ls (.int (g i).toInt32 :: rest))) : own_Fin p e below P T (mkF m pc Ls (.int j :: .ref a :: rest)) := by
  obtain ⟨hx, hZ, hby, -⟩ := K
  obtain ⟨⟨cl, A, q⟩, -⟩ := A
  have hv : (own_B n g)[j.toNatClampNeg]? = some (.int (g i).toInt32) := by rw [hi]; exact own_B_at hn
  exact own_seg (fun t u => X.baloadBytes hx (j := j) (v := .int (g i).toInt32) (by rw [eT]; exact A.1) (State.isArrayOf_alike hZ.alike A.2.1) A.2.2 (own_in q hj hv) (own_at q hv) (g := mkF m pc Ls (.int j :: .ref a :: rest)) rfl rfl (hb hby hd) t u) k
theorem own_caload (K : own_Ctx p Z s m meth c cls bytes maxL ret nm) (X : Stand p l e R s m args below meth c T locs cells slots) (eT : T.heap = h) (A : own_Arr Z h a .char vs) {j : Int32} (hj : ¬ j < 0) (hv : vs[j.toNatClampNeg]? = some v)
    {pc : Nat} {Ls : Array Slot} {rest : List Value} (hd : decode bytes pc = .ok (.caload, 1)) (k : own_Fin p e below P T (mkF m (pc + 1) Ls (v :: rest))) : own_Fin p e below P T (mkF m pc Ls (.int j :: .ref a :: rest)) := by
  obtain ⟨hx, hZ, hby, -⟩ := K
  obtain ⟨cl, A, q⟩ := A
  exact own_seg (fun t u => X.caload hx (j := j) (v := v) (by rw [eT]; exact A.1) (State.isArrayOf_alike hZ.alike A.2.1) A.2.2 (own_in q hj hv) (own_at q hv) (g := mkF m pc Ls (.int j :: .ref a :: rest)) rfl rfl (hb hby hd) t u) k
theorem own_bastoreN (K : own_Ctx p Z s m meth c cls bytes maxL ret nm) (X : Stand p l e R s m args below meth c T locs cells slots) (eT : T.heap = h) (A : own_Byt Z h a n g) {j x : Int32} (i : Nat) (hj : ¬ j < 0) (hi : j.toNatClampNeg = i) (hn : i < n)
    {pc : Nat} {Ls : Array Slot} {rest : List Value} (hd : decode bytes pc = .ok (.bastore, 1)) (k : ∀ T' h', Stand p l e R s m args below meth c T' (locs ++ [⟨a, i⟩]) cells slots → T'.heap = h' → Wr h h' a i (.int (nar .byte x)) → own_Fin p e below P T' (mkF m (pc + 1) Ls rest)) : own_Fin p e below P T (mkF m pc Ls (.int x :: .int j :: .ref a :: rest)) := by
  obtain ⟨hx, hZ, hby, -⟩ := K
  obtain ⟨⟨cl, A, q⟩, -⟩ := A
  subst hi
  obtain ⟨T', h', X', e', W, st⟩ := stB X hx hZ eT A (j := j) (x := x) (own_in q hj (own_B_at hn)) (g := mkF m pc Ls (.int x :: .int j :: .ref a :: rest)) rfl rfl (hb hby hd)
  exact own_seg st (k T' h' X' e' W)
theorem own_castoreN (K : own_Ctx p Z s m meth c cls bytes maxL ret nm) (X : Stand p l e R s m args below meth c T locs cells slots) (eT : T.heap = h) (A : own_Arr Z h a .char vs) {j x : Int32} (hj : ¬ j < 0) (hv : j.toNatClampNeg < vs.length)
    {pc : Nat} {Ls : Array Slot} {rest : List Value} (hd : decode bytes pc = .ok (.castore, 1)) (k : ∀ T' h', Stand p l e R s m args below meth c T' (locs ++ [⟨a, j.toNatClampNeg⟩]) cells slots → T'.heap = h' → Wr h h' a j.toNatClampNeg (.int (nar .char x)) → own_Fin p e below P T' (mkF m (pc + 1) Ls rest)) : own_Fin p e below P T (mkF m pc Ls (.int x :: .int j :: .ref a :: rest)) := by
  obtain ⟨hx, hZ, hby, -⟩ := K
  obtain ⟨cl, A, q⟩ := A
  obtain ⟨T', h', X', e', W, st⟩ := stC X hx hZ eT A (j := j) (x := x) (own_in q hj (List.getElem?_eq_getElem hv)) (g := mkF m pc Ls (.int x :: .int j :: .ref a :: rest)) rfl rfl (hb hby hd)
  exact own_seg st (k T' h' X' e' W)
theorem own_newB (K : own_Ctx p Z s m meth c cls bytes maxL ret nm) (X : Stand p l e R s m args below meth c T locs cells slots) (eT : T.heap = h) (w : (Jvm.Cond.arrayClass .byte).before a0 Z = true) {z : Int32} (n : Nat) (hn : ¬ z < 0) (hz : z.toNatClampNeg = n) (cap : Nat) (hcap : n ≤ cap) (hcb : cap * 8 ≤ 536870912)
    {pc : Nat} {Ls : Array Slot} {rest : List Value} (hd : decode bytes pc = .ok (.newarray .byte, 2)) (hc : cells + 1 ≤ R.cells) (hl : slots + cap ≤ R.slots)
    (k : ∀ T' h' a, a = h.size → Stand p l e R s m args below meth c T' locs (cells + 1) (slots + cap) → T'.heap = h' → Ext h h' → own_Byt Z h' a n (fun _ => 0) → own_Fin p e below P T' (mkF m (pc + 2) Ls (.ref a :: rest))) : own_Fin p e below P T (mkF m pc Ls (.int z :: rest)) := by
  obtain ⟨hx, hZ, hby, -⟩ := K
  subst hz
  obtain ⟨T', h', cA, X', e', E, A, A2, st⟩ := newPE X hx hZ (aty := .byte) w eT (g := mkF m pc Ls (.int z :: rest)) rfl (hb hby hd) rfl hn hcap hcb hc hl (ad := "[B") (by decide)
  exact own_seg st (k T' h' _ rfl X' e' E ⟨by rw [← own_B_rep]; exact own_Arr.new A, A2⟩)
theorem own_cloneB (K : own_Ctx p Z s m meth c cls bytes maxL ret nm) (X : Stand p l e R s m args below meth c T locs cells slots) (eT : T.heap = h) {index : Nat} (w1 : (Jvm.Cond.methodLink cls index ⟨"[B", "clone", "()Ljava/lang/Object;"⟩).before a0 Z = true) (w2 : (Jvm.Cond.sameMethod "[B" "java/lang/Object" "clone" "()Ljava/lang/Object;").before a0 Z = true) (w3 : (Jvm.Cond.native ⟨"java/lang/Object", "clone", "()Ljava/lang/Object;"⟩).before a0 Z = true)
    (w4 : (Jvm.Cond.instanceMethod ⟨"java/lang/Object", "clone", "()Ljava/lang/Object;"⟩).before a0 Z = true) (w5 : (Jvm.Cond.selects "[B" ⟨"[B", "clone", "()Ljava/lang/Object;"⟩ ⟨"java/lang/Object", "clone", "()Ljava/lang/Object;"⟩).before a0 Z = true) (w6 : (Jvm.Cond.castable "[B" "java/lang/Cloneable").before a0 Z = true)
    (A : own_Byt Z h a n g) (cap : Nat) (hcap : n ≤ cap) {pc : Nat} {Ls : Array Slot} {rest : List Value} (hsize : Ls.size = maxL) (hd : decode bytes pc = .ok (.invokevirtual index, 3)) (hf : 1 ≤ R.frames) (hl : (rest.map fun v => v.category).sum + 14 ≤ R.locals) (hc : cells + 1 ≤ R.cells) (hsl : slots + cap ≤ R.slots)
    (k : ∀ T' h' b, b = h.size → Stand p l e R s m args below meth c T' locs (cells + 1) (slots + cap) → T'.heap = h' → Ext h h' → own_Byt Z h' b n g → own_Fin p e below P T' (mkF m (pc + 3) Ls (.ref b :: rest))) : own_Fin p e below P T (mkF m pc Ls (.ref a :: rest)) := by
  obtain ⟨hx, hZ, hby, hml, hown, -⟩ := K
  obtain ⟨⟨cl, A, q⟩, E⟩ := A
  have hsz : cl.slots.size = n := by rw [← Array.length_toList, q, own_B_len]
  have FC : FitC Z cl := fitC_of A fun i hi v hv => by
    have q2 : cl.slots.toList[i]? = some v := by rw [Array.getElem?_toList]; exact hv
    rw [q, own_B_at (by omega)] at q2
    cases q2; exact own_fit8 _
  obtain ⟨T', h', X', e', ex, A', E', st⟩ := cloneA X hx hZ hown w1 w2 w3 w4 w5 w6 eT A E FC (g := mkF m pc Ls (.ref a :: rest)) rfl (hsize.trans hml.symm) rfl (hb hby hd) hf (W := (rest.map fun v => v.category).sum) (by show 2 * 0 + _ ≤ _; omega) hl (by omega) hc hsl
  exact own_seg st (k T' h' _ rfl X' e' ex ⟨⟨cloneOf cl, A', q⟩, E'⟩)
end OwnBs
theorem own_aqeqT {x y : Value} (h : x = y) : XT.acmp .eq x y = true := by subst h; simp [XT.acmp]
theorem own_aqeqF {x y : Value} (h : ¬ x = y) : XT.acmp .eq x y = false := by simp [XT.acmp, h]
theorem own_aqneT {x y : Value} (h : x = y) : XT.acmp .ne x y = false := by subst h; simp [XT.acmp]
theorem own_aqneF {x y : Value} (h : ¬ x = y) : XT.acmp .ne x y = true := by simp [XT.acmp, h]
theorem own_toArvB {Z : State} {h : Heap} {a : Addr} {n : Nat} {f : Nat → Int8} (A : own_Arr Z h a .byte (own_B n f)) (hn : n < 2 ^ 31) : ∃ k, Arv Z h a k .byte (Int32.ofNat n) (own_B n f) (.int 0) := by
  obtain ⟨cl, A, q⟩ := A
  have hs : cl.slots.size = n := by rw [← Array.length_toList, q, own_B_len]
  have hi : (Int32.ofNat n).toInt = n := Int32.toInt_ofNat_of_lt hn
  have hc : (Int32.ofNat n).toNatClampNeg = n := by show (Int32.ofNat n).toInt.toNat = n; rw [hi]; omega
  have e0 : (0 : Int32).toInt = 0 := by decide
  have g : ∀ i, i < n → (own_B n f).getD i (.int 0) = .int (f i).toInt32 := fun i hi => by rw [List.getD_eq_getElem?_getD, own_B_at hi]; rfl
  refine ⟨cl.cls, cl, A, rfl, by rw [hc, hs], by rw [Int32.lt_iff_toInt_lt, hi, e0]; omega, fun i hi => ?_, fun i hi => ?_⟩
  · rw [hs] at hi; rw [g i hi]; exact own_at q (own_B_at hi)
  · rw [hs] at hi; rw [g i hi]; exact own_fit8 _
theorem own_ofArvB {Z : State} {h : Heap} {a : Addr} {k : ClassId} {n : Nat} {vs : List Value} {f : Nat → Int8} (hn : n < 2 ^ 31) (A : Arv Z h a k .byte (Int32.ofNat n) vs (.int 0)) (hv : ∀ i, i < n → vs.getD i (.int 0) = .int (f i).toInt32) : own_Arr Z h a .byte (own_B n f) := by
  obtain ⟨cl, A, -, q, -, H, -⟩ := A
  have hi : (Int32.ofNat n).toInt = n := Int32.toInt_ofNat_of_lt hn
  have hc : (Int32.ofNat n).toNatClampNeg = n := by show (Int32.ofNat n).toInt.toNat = n; rw [hi]; omega
  rw [hc] at q
  refine ⟨cl, A, ?_⟩
  apply List.ext_getElem?
  intro j
  by_cases w : j < n
  · rw [own_B_at w, Array.getElem?_toList, H j (by rw [q]; exact w), hv j w]
  · rw [List.getElem?_eq_none (by rw [Array.length_toList, q]; omega), List.getElem?_eq_none (by rw [own_B_len]; omega)]
section CpB
variable {p : Program} {l : Launch} {e : Env} {R : Room} {s : State} {m : MethodId} {args : Array Value} {below : List Frame} {meth : Method} {c : Code} {T : State} {locs : List Loc} {cells slots : Nat} {Z : State} {a0 : Array Value} {h : Heap}
  {P : Outcome → State → Prop} {cls : String} {bytes : ByteArray} {maxL : Nat} {ret : Option FieldType} {nm : String} {a b : Addr}
theorem own_cpB (K : own_Ctx p Z s m meth c cls bytes maxL ret nm) (X : Stand p l e R s m args below meth c T locs cells slots) (eT : T.heap = h) {index : Nat} (w1 : (Jvm.Cond.methodLink cls index Jvm.Stand.acN).before a0 Z = true) (w2 : (Jvm.Cond.native Jvm.Stand.acN).before a0 Z = true) (w3 : (Jvm.Cond.static Jvm.Stand.acN).before a0 Z = true) (w4 : (Jvm.Cond.initialized "java/lang/System").before a0 Z = true)
    {n n' : Nat} {f f' : Nat → Int8} (A : own_Arr Z h a .byte (own_B n f)) (B : own_Byt Z h b n' f') (hn : n < 2 ^ 30) (hn' : n' < 2 ^ 30) (sp dp nn : Nat) (h4 : sp + nn ≤ n) (h5 : dp + nn ≤ n') {n0 : Nat} (N : Fr n0 locs) (ge : n0 ≤ b)
    {pc : Nat} {Ls : Array Slot} {rest : List Value} (hsize : Ls.size = maxL) (hd : decode bytes pc = .ok (.invokestatic index, 3)) (hf : 1 ≤ R.frames) (hlo : (rest.map fun v => v.category).sum + (nativeFrameWords "java/lang/System" "arraycopy" 5 + 11) ≤ R.locals)
    (k : ∀ T' h' L, Stand p l e R s m args below meth c T' L cells slots → T'.heap = h' → Fr n0 L → Keep h h' [b] → own_Byt Z h' b n' (own_cp f' f sp dp nn) → own_Fin p e below P T' (mkF m (pc + 3) Ls rest)) :
    own_Fin p e below P T (mkF m pc Ls (.int (Int32.ofNat nn) :: .int (Int32.ofNat dp) :: .ref b :: .int (Int32.ofNat sp) :: .ref a :: rest)) := by
  obtain ⟨hx, hZ, hby, hml, hown, -⟩ := K
  obtain ⟨ka, A⟩ := own_toArvB A (by omega)
  obtain ⟨B, EB⟩ := B
  obtain ⟨kb, B⟩ := own_toArvB B (by omega)
  have cl : ∀ k : Nat, k < 2 ^ 31 → (Int32.ofNat k).toNatClampNeg = k := fun k hk => by show (Int32.ofNat k).toInt.toNat = k; rw [Int32.toInt_ofNat_of_lt hk]; omega
  have e0 : (0 : Int32).toInt = 0 := by decide
  have nn' : ∀ k : Nat, k < 2 ^ 31 → ¬ Int32.ofNat k < 0 := fun k hk => by rw [Int32.lt_iff_toInt_lt, Int32.toInt_ofNat_of_lt hk, e0]; omega
  obtain ⟨T', h', L, X', e', N', K', B', st⟩ := cpA X hx hZ hown w1 w2 w3 w4 eT A B (us := (List.range nn).map fun i => (own_B n f).getD (sp + i) (.int 0)) (Or.inl ⟨rfl, rfl⟩) (nn' sp (by omega)) (nn' dp (by omega)) (nn' nn (by omega)) (by rw [cl sp (by omega), cl nn (by omega), cl n (by omega)]; exact h4) (by rw [cl dp (by omega), cl nn (by omega), cl n' (by omega)]; exact h5) (by rw [cl sp (by omega), cl nn (by omega)]) (by rw [cl dp (by omega), cl nn (by omega), own_B_len]; exact h5) N ge
    (g := mkF m pc Ls (.int (Int32.ofNat nn) :: .int (Int32.ofNat dp) :: .ref b :: .int (Int32.ofNat sp) :: .ref a :: rest)) rfl (hsize.trans hml.symm) rfl (hb hby hd) hf (W := (rest.map fun v => v.category).sum) (by show 2 * 0 + _ ≤ _; omega) hlo
  rw [cl dp (by omega), cl nn (by omega)] at B'
  refine own_seg st (k T' h' L X' e' N' K' ⟨own_ofArvB (by omega) B' fun i hi => ?_, EB.keep K'⟩)
  rw [own_cp_get (n := n) (own_B_len _ _) h5 i hi, own_cp]
  split
  · rename_i q
    rw [List.getD_eq_getElem?_getD, own_B_at (by omega)]; rfl
  · rw [List.getD_eq_getElem?_getD, own_B_at hi]; rfl
end CpB
/-! ## doubles, moved and compared -/
section Dbl
variable {tb : Tables} [Ours tb] {e : Env} {below : List Frame} {T target : State} {m : MethodId} {c : Code} {g : JFrame}
theorem own_dloadN (h : At T m c below) (hx : tb.exec = Jvm.exec) (hg : g.method = m) {k : Fin 4} {v : UInt64} (hd : decode c.code g.pc = .ok (.dload_n k, 1)) (hl : g.locals[k.val]? = some (.val (.double v)))
    (hr : Steps tb e below (T.setTop { g with pc := g.pc + 1, stack := .double v :: g.stack }) target) : Steps tb e below (T.setTop g) target := by
  subst hg
  jvm_step h [h.top, hx, hd, hl]
  exact hr
theorem own_dload (h : At T m c below) (hx : tb.exec = Jvm.exec) (hg : g.method = m) {k : Nat} {v : UInt64} (hd : decode c.code g.pc = .ok (.dload k, 2)) (hl : g.locals[k]? = some (.val (.double v)))
    (hr : Steps tb e below (T.setTop { g with pc := g.pc + 2, stack := .double v :: g.stack }) target) : Steps tb e below (T.setTop g) target := by
  subst hg
  jvm_step h [h.top, hx, hd, hl]
  exact hr
theorem own_dstore (h : At T m c below) (hx : tb.exec = Jvm.exec) (hg : g.method = m) {k : Nat} {x : UInt64} {rest : List Value} {l' : Array Slot} (hd : decode c.code g.pc = .ok (.dstore k, 2)) (hs : g.stack = .double x :: rest) (hl : storeLocals g.locals k (.double x) = some l')
    (hr : Steps tb e below (T.setTop { g with pc := g.pc + 2, stack := rest, locals := l' }) target) : Steps tb e below (T.setTop g) target := by
  subst hg
  jvm_step h [h.top, hx, hd, hs, hl]
  exact hr
theorem own_i2d (h : At T m c below) (hx : tb.exec = Jvm.exec) (hg : g.method = m) {x : Int32} {rest : List Value} (hd : decode c.code g.pc = .ok (.i2d, 1)) (hs : g.stack = .int x :: rest)
    (hr : Steps tb e below (T.setTop { g with pc := g.pc + 1, stack := .double (FP.i2d x) :: rest }) target) : Steps tb e below (T.setTop g) target := by
  subst hg
  jvm_step h [h.top, hx, hd, hs, i2d.wp_sem]
  exact hr
theorem own_dconst0 (h : At T m c below) (hx : tb.exec = Jvm.exec) (hg : g.method = m) (hd : decode c.code g.pc = .ok (.dconst 0, 1))
    (hr : Steps tb e below (T.setTop { g with pc := g.pc + 1, stack := .double 0 :: g.stack }) target) : Steps tb e below (T.setTop g) target := by
  subst hg
  jvm_step h [h.top, hx, hd, dconst.wp_sem]
  exact hr
theorem own_dcmpl (h : At T m c below) (hx : tb.exec = Jvm.exec) (hg : g.method = m) {x y : UInt64} {rest : List Value} (hd : decode c.code g.pc = .ok (.dcmp .l, 1)) (hs : g.stack = .double y :: .double x :: rest)
    (hr : Steps tb e below (T.setTop { g with pc := g.pc + 1, stack := .int (FP.cmpInt (-1) (FP.dcmp x y)) :: rest }) target) : Steps tb e below (T.setTop g) target := by
  subst hg
  have q : cmpValue (FP.dcmp x y) .l = FP.cmpInt (-1) (FP.dcmp x y) := by
    cases FP.dcmp x y with
    | none => rfl
    | some o => cases o <;> rfl
  rw [← q] at hr
  jvm_step h [h.top, hx, hd, hs, dcmp.wp_sem]
  exact hr
end Dbl
section DblK
variable {p : Program} {l : Launch} {e : Env} {R : Room} {s : State} {m : MethodId} {args : Array Value} {below : List Frame} {meth : Method} {c : Code} {T : State} {locs : List Loc} {cells slots : Nat} {Z : State} {a0 : Array Value} {h : Heap}
  {P : Outcome → State → Prop} {cls : String} {bytes : ByteArray} {maxL : Nat} {ret : Option FieldType} {nm : String} {Q : Option Value → Heap → List Loc → Prop} {a : Addr}
def own_QD (r : UInt64) (h0 : Heap) (n0 : Nat) (v : Option Value) (h : Heap) (L : List Loc) : Prop := v = some (.double r) ∧ Fr n0 L ∧ h = h0
theorem own_retD (K : own_Ctx p Z s m meth c cls bytes maxL (some .double) nm) (X : Stand p l e R s m args below meth c T locs cells slots) {pc : Nat} {Ls : Array Slot} {z : UInt64} {rest : List Value}
    (hd : decode bytes pc = .ok (.dreturn, 1)) (hQ : Q (some (.double z)) T.heap locs) (hc : cells ≤ R.cells) (hs : slots ≤ R.slots) : own_Fin p e below (own_P s R Q) T (mkF m pc Ls (.double z :: rest)) :=
  own_retO K X rfl (Or.inr (Or.inr (Or.inl ⟨rfl, rfl, z, rfl⟩))) hd hQ hc hs
theorem own_castY (K : own_Ctx p Z s m meth c cls bytes maxL ret nm) (X : Stand p l e R s m args below meth c T locs cells slots) (eT : T.heap = h) {C : String} {index : Nat} (w : (Jvm.Cond.classLink cls index C).before a0 Z = true) (I : Ins Z h a C true)
    {pc : Nat} {Ls : Array Slot} {rest : List Value} (hd : decode bytes pc = .ok (.checkcast index, 3)) (k : ∀ T', Stand p l e R s m args below meth c T' locs cells slots → T'.heap = h → own_Fin p e below P T' (mkF m (pc + 3) Ls (.ref a :: rest))) : own_Fin p e below P T (mkF m pc Ls (.ref a :: rest)) := by
  obtain ⟨hx, hZ, hby, hml, hown, -⟩ := K
  obtain ⟨T', X', e', st⟩ := castY X hx hZ hown w eT I (g := mkF m pc Ls (.ref a :: rest)) rfl rfl (hb hby hd)
  exact own_seg st (k T' X' e')
theorem own_instY (K : own_Ctx p Z s m meth c cls bytes maxL ret nm) (X : Stand p l e R s m args below meth c T locs cells slots) (eT : T.heap = h) {C : String} {index : Nat} (w : (Jvm.Cond.classLink cls index C).before a0 Z = true) (I : Ins Z h a C true)
    {pc : Nat} {Ls : Array Slot} {rest : List Value} (hd : decode bytes pc = .ok (.instanceof index, 3)) (k : ∀ T', Stand p l e R s m args below meth c T' locs cells slots → T'.heap = h → own_Fin p e below P T' (mkF m (pc + 3) Ls (.int 1 :: rest))) : own_Fin p e below P T (mkF m pc Ls (.ref a :: rest)) := by
  obtain ⟨hx, hZ, hby, hml, hown, -⟩ := K
  obtain ⟨T', X', e', st⟩ := instY X hx hZ hown w eT I (g := mkF m pc Ls (.ref a :: rest)) rfl rfl (hb hby hd)
  exact own_seg st (k T' X' e')
/-- instanceof, whatever the answer -/
theorem own_instAny (K : own_Ctx p Z s m meth c cls bytes maxL ret nm) (X : Stand p l e R s m args below meth c T locs cells slots) (eT : T.heap = h) {C D : String} {index : Nat} (w : (Jvm.Cond.classLink cls index D).before a0 Z = true) (E : Exa Z h a C)
    {pc : Nat} {Ls : Array Slot} {rest : List Value} (hd : decode bytes pc = .ok (.instanceof index, 3)) (k1 : ∀ T', Stand p l e R s m args below meth c T' locs cells slots → T'.heap = h → own_Fin p e below P T' (mkF m (pc + 3) Ls (.int 1 :: rest)))
    (k0 : ∀ T', Stand p l e R s m args below meth c T' locs cells slots → T'.heap = h → own_Fin p e below P T' (mkF m (pc + 3) Ls (.int 0 :: rest))) : own_Fin p e below P T (mkF m pc Ls (.ref a :: rest)) := by
  obtain ⟨cT, hT⟩ : ∃ cT, Z.vm.findClass D = some cT := by
    cases hc : Z.vm.findClass D with
    | some c => exact ⟨c, rfl⟩
    | none => simp [Cond.before, Cond.holds, Cond.value, State.classLinks, hc] at w
  obtain ⟨cell, kc, h1, h2, h3, h4, h5⟩ := E
  by_cases q : Z.vm.assignable cell.cls cT = true
  · exact own_instY K X eT w ⟨cell, cT, h1, hT, by simp [h4, q]⟩ hd k1
  · obtain ⟨hx, hZ, hby, hml, hown, -⟩ := K
    obtain ⟨T', X', e', st⟩ := instNo X hx hZ hown w eT ⟨cell, kc, h1, h2, h3, h4, h5⟩ ⟨cell.cls, cT, h2, hT, by simpa using q⟩ (g := mkF m pc Ls (.ref a :: rest)) rfl rfl (hb hby hd)
    exact own_seg st (k0 T' X' e')
/-- getfield by an entry that has been resolved -/
theorem own_getFRef (K : own_Ctx p Z s m meth c cls bytes maxL ret nm) (X : Stand p l e R s m args below meth c T locs cells slots) (eT : T.heap = h) {index : Nat} {O n d : String} {v : Value} (w : (Jvm.Cond.fieldRef cls index O n d).before a0 Z = true) (F : Fld Z h a O n d v)
    {pc : Nat} {Ls : Array Slot} {rest : List Value} (hd : decode bytes pc = .ok (.getfield index, 3)) (k : own_Fin p e below P T (mkF m (pc + 3) Ls (v :: rest))) : own_Fin p e below P T (mkF m pc Ls (.ref a :: rest)) := by
  obtain ⟨hx, hZ, hby, hml, hown, -⟩ := K
  have hT : Z.Warmed39 T.vm := wtrans hZ X.warmed
  have w2 : (Jvm.Cond.fieldRef cls index O n d).before a0 (Z.setVm T.vm) = true := Cond.fieldRef_warmed39 hT w
  have hcl : (Z.setVm T.vm).vm.findClass cls = some m.cls := by
    show T.vm.findClass cls = _
    rw [X.warmed.alike.findClass]; exact hown
  obtain ⟨cf, k', i, f, h1, hr⟩ := Cond.fieldRef_spec hcl w2
  obtain ⟨cell, cf0, k0, i0, f0, g1, g2, g3, g4, -, -, g7⟩ := F
  obtain ⟨k2, hi, -⟩ := State.fieldFound?_setVm (s := Z) hT.alike g2
  cases h1.symm.trans hi
  refine own_seg (fun t u => ?_) k
  jvm_step X.here [hx, hb hby hd, getfield.wp_ready (e := e) (s := T) (c := cf) (field := f) (a := a) (rest := rest) (cell := cell) (v := v) (f := mkF m pc Ls (.ref a :: rest)) X.here.top hr g3 rfl (by rw [eT]; exact g1) g4 g7]
  exact u
theorem own_bastore (K : own_Ctx p Z s m meth c cls bytes maxL ret nm) (X : Stand p l e R s m args below meth c T locs cells slots) (eT : T.heap = h) {vs : List Value} (A : own_Arr Z h a .byte vs) {j x : Int32} (hj : ¬ j < 0) (hv : j.toNatClampNeg < vs.length)
    {pc : Nat} {Ls : Array Slot} {rest : List Value} (hd : decode bytes pc = .ok (.bastore, 1)) (k : ∀ T' h' v', Stand p l e R s m args below meth c T' (locs ++ [⟨a, j.toNatClampNeg⟩]) cells slots → T'.heap = h' → Wr h h' a j.toNatClampNeg v' → own_Fin p e below P T' (mkF m (pc + 1) Ls rest)) : own_Fin p e below P T (mkF m pc Ls (.int x :: .int j :: .ref a :: rest)) := by
  obtain ⟨hx, hZ, hby, -⟩ := K
  obtain ⟨cl, A, q⟩ := A
  obtain ⟨T', h', X', e', W, st⟩ := stB X hx hZ eT A (j := j) (x := x) (own_in q hj (List.getElem?_eq_getElem hv)) (g := mkF m pc Ls (.int x :: .int j :: .ref a :: rest)) rfl rfl (hb hby hd)
  exact own_seg st (k T' h' _ X' e' W)
end DblK
section OwnMir
variable {p : Program} {l : Launch} {e : Env} {R : Room} {s : State} {m : MethodId} {args : Array Value} {below : List Frame} {meth : Method} {c : Code} {T : State} {locs : List Loc} {cells slots : Nat} {Z : State} {a0 : Array Value} {h : Heap}
  {P : Outcome → State → Prop} {cls : String} {bytes : ByteArray} {maxL : Nat} {ret : Option FieldType} {nm : String} {a mr : Addr}
theorem own_ldcM (K : own_Ctx p Z s m meth c cls bytes maxL ret nm) (X : Stand p l e R s m args below meth c T locs cells slots) (eT : T.heap = h) {index : Nat} {C : String} (w : (Jvm.Cond.classLink cls index C).before a0 Z = true) (M : Mir Z C mr)
    {pc : Nat} {Ls : Array Slot} {stk : List Value} (hd : decode bytes pc = .ok (.ldc index, 2)) (k : ∀ T', Stand p l e R s m args below meth c T' locs cells slots → T'.heap = h → own_Fin p e below P T' (mkF m (pc + 2) Ls (.ref mr :: stk))) : own_Fin p e below P T (mkF m pc Ls stk) := by
  obtain ⟨hx, hZ, hby, hml, hown, -⟩ := K
  obtain ⟨cc, kc, m1, m2, m3, -⟩ := M
  obtain ⟨k', q, ek⟩ := hZ.alike.2.2 _ _ m2
  have q1 : s.vm.findClass C = some cc := by rw [hZ.alike.findClass]; exact m1
  have q3 : k'.mirror = some mr := by rw [ek]; exact m3
  have hev : (Term.mirror C).eval args s none [] s = some (.ref mr) := by simp [Term.eval, q1, q, q3]
  obtain ⟨vm', X', st⟩ := X.ldcMirror hx hown (mvT hZ w) hev (g := mkF m pc Ls stk) rfl (hb hby hd)
  exact own_seg st (k _ X' eT)
theorem own_gclsI (K : own_Ctx p Z s m meth c cls bytes maxL ret nm) (X : Stand p l e R s m args below meth c T locs cells slots) (eT : T.heap = h) {index count : Nat} {I C : String}
    (w1 : (Jvm.Cond.methodLink cls index ⟨I, "getClass", "()Ljava/lang/Class;"⟩).before a0 Z = true) (w2 : (Jvm.Cond.declares ⟨"java/lang/Object", "getClass", "()Ljava/lang/Class;"⟩).before a0 Z = true) (w3 : (Jvm.Cond.interfaceMethod I "java/lang/Object" "getClass" "()Ljava/lang/Class;").before a0 Z = true)
    (w4 : (Jvm.Cond.selects C ⟨I, "getClass", "()Ljava/lang/Class;"⟩ ⟨"java/lang/Object", "getClass", "()Ljava/lang/Class;"⟩).before a0 Z = true) (w5 : (Jvm.Cond.instanceMethod ⟨"java/lang/Object", "getClass", "()Ljava/lang/Class;"⟩).before a0 Z = true) (w6 : (Jvm.Cond.publicMethod ⟨"java/lang/Object", "getClass", "()Ljava/lang/Class;"⟩).before a0 Z = true)
    (w7 : (Jvm.Cond.unhidden C "getClass" "()Ljava/lang/Class;").before a0 Z = true) (w8 : (Jvm.Cond.castable C I).before a0 Z = true) (w9 : (Jvm.Cond.native ⟨"java/lang/Object", "getClass", "()Ljava/lang/Class;"⟩).before a0 Z = true) (hI : I ≠ "java/lang/invoke/MethodHandle" ∧ I ≠ "java/lang/invoke/VarHandle") (hO : I ≠ "java/lang/Object")
    (E : Exa Z h a C) (M : Mir Z C mr) {pc : Nat} {Ls : Array Slot} {rest : List Value} (hsize : Ls.size = maxL) (hd : decode bytes pc = .ok (.invokeinterface index count, 5)) (hf : 1 ≤ R.frames) (hl : (rest.map fun v => v.category).sum + (nativeFrameWords "java/lang/Object" "getClass" 1 + 11) ≤ R.locals)
    (k : ∀ T', Stand p l e R s m args below meth c T' locs cells slots → T'.heap = h → own_Fin p e below P T' (mkF m (pc + 5) Ls (.ref mr :: rest))) : own_Fin p e below P T (mkF m pc Ls (.ref a :: rest)) := by
  obtain ⟨hx, hZ, hby, hml, hown, -⟩ := K
  obtain ⟨cB, kB, i1, i2, i3⟩ := isOf hZ eT E
  obtain ⟨cc, kc, m1, m2, m3, -⟩ := M
  rw [hZ.alike.findClass] at i1
  cases i1.symm.trans m1
  obtain ⟨k', q, ek⟩ := hZ.alike.2.2 _ _ m2
  obtain ⟨vm', X', st⟩ := X.getClassOfI hx (xi := ⟨I, "getClass", "()Ljava/lang/Class;"⟩) hown (mvT hZ w1) (mvT hZ w2) (Jvm.Free.ULB.iface_rides hZ.alike w3) (mvT hZ w4) (mvT hZ w5) (mvT hZ w6) (mvT hZ w7) (mvT hZ w8) (mvT hZ w9) hI hO rfl rfl (by rw [hZ.alike.findClass]; exact m1) q i3 (by rw [ek]; exact m3) (g := mkF m pc Ls (.ref a :: rest)) rfl (hsize.trans hml.symm) rfl (hb hby hd) hf (by show 2 * 0 + _ + _ ≤ _; omega)
  exact own_seg st (k _ X' eT)
end OwnMir
theorem own_i0 : (0 : Int32).toInt = 0 := by decide
theorem own_i1 : (1 : Int32).toInt = 1 := by decide
theorem own_of {k : Nat} (h : k < 2 ^ 31) : (Int32.ofNat k).toInt = k := Int32.toInt_ofNat_of_lt h
theorem own_nn {k : Nat} (h : k < 2 ^ 31) : ¬ Int32.ofNat k < 0 := by rw [Int32.lt_iff_toInt_lt, own_of h, own_i0]; omega
theorem own_cl {k : Nat} (h : k < 2 ^ 31) : (Int32.ofNat k).toNatClampNeg = k := by show (Int32.ofNat k).toInt.toNat = k; rw [own_of h]; omega
theorem own_add1 {k : Nat} (h : k < 2 ^ 30) : Int32.ofNat k + 1 = Int32.ofNat (k + 1) := by
  apply Int32.toInt_inj.mp
  rw [Jvm.Kit.i32_add (by rw [own_of (by omega), own_i1]; omega) (by rw [own_of (by omega), own_i1]; omega), own_of (by omega), own_of (by omega), own_i1]; omega
theorem own_sub1 {k : Nat} (h : k < 2 ^ 30) : Int32.ofNat (k + 1) - 1 = Int32.ofNat k := by
  apply Int32.toInt_inj.mp
  rw [Jvm.Kit.i32_sub (by rw [own_of (by omega), own_i1]; omega) (by rw [own_of (by omega), own_i1]; omega), own_of (by omega), own_of (by omega), own_i1]; omega
theorem own_sub1' {v : Nat} (h : v < 2 ^ 30) (nz : v ≠ 0) : Int32.ofNat v - 1 = Int32.ofNat (v - 1) := by
  obtain ⟨w, rfl⟩ : ∃ w, v = w + 1 := ⟨v - 1, by omega⟩
  exact own_sub1 (by omega)
theorem own_ofz {k : Nat} (h : k < 2 ^ 31) : Int32.ofNat k = 0 ↔ k = 0 := by
  rw [← Int32.toInt_inj, own_of h, own_i0]; omega
theorem own_inj {j k : Nat} (hj : j < 2 ^ 31) (hk : k < 2 ^ 31) : Int32.ofNat j = Int32.ofNat k ↔ j = k := by
  rw [← Int32.toInt_inj, own_of hj, own_of hk]; omega

--CUT
def own_QW (w : Addr) (F : Heap → Prop) (h0 : Heap) (n0 : Nat) (v : Option Value) (h : Heap) (L : List Loc) : Prop := v = none ∧ Fr n0 L ∧ Keep h0 h [w] ∧ F h
def own_QN (ws : List Addr) (F : Addr → Heap → Prop) (h0 : Heap) (n0 : Nat) (v : Option Value) (h : Heap) (L : List Loc) : Prop := ∃ b : Addr, v = some (.ref b) ∧ Fr n0 L ∧ Keep h0 h ws ∧ F b h ∧ h0.size ≤ b
theorem own_pn2 : plainName "java/util/AbstractMap" = true := by first | (simp [plainName, overriddenIn]; done) | decide +kernel
theorem d2_0 : decode jdk_71_method_1_code 0 = .ok (.aload_n 0, 1) := by decide +kernel
theorem d2_1 : decode jdk_71_method_1_code 1 = .ok (.invokespecial 1, 3) := by decide +kernel
theorem d2_4 : decode jdk_71_method_1_code 4 = .ok (.return_, 1) := by decide +kernel
set_option maxRecDepth 65536 in
set_option maxHeartbeats 40000000 in
theorem rmAM (l : Launch) (Z : State) (a0 : Array Value) (hw : ∀ d ∈ tables_1, d.before a0 Z = true) (t : Addr) (h0 : Heap) (n0 : Nat) (Z0 : n0 ≤ h0.size)  :
    own_Met l Z (⟨"java/util/AbstractMap", "<init>", "()V"⟩ : MethodName) jdk_71_method_1_code 1 none ({ frames := 1, cells := 0, slots := 0, locals := 12 } : Room) #[(.ref t)] h0 (own_QV h0 n0) := by
  refine own_enter (plainFor_of_name own_pn2) (fun m => by first | (simp [entryFrame, mkF, argsToLocals, Value.category, maxLocals]; done) | rfl) (Ls := #[.val (.ref t)]) ?_
  intro p e s m below meth c T0 K X0 e0
  have hx := K.1
  have hZ := K.2.1
  have hby := K.2.2.1
  have hown := K.2.2.2.2.1
  have N0 := Fr.nil n0
  show own_Fin p e below _ T0 (mkF m 0 #[.val (.ref t)] [])
  refine own_seg (T' := T0) (g' := (mkF m 1 #[.val (.ref t)] [(.ref t)])) (fun tg kt => ?_) ?_
  · show Steps p.tables e below (T0.setTop (mkF m 0 #[.val (.ref t)] [])) tg
    refine XS.aloadN X0.here hx rfl (hb hby d2_0) rfl rfl ?_
    exact kt
  refine own_initO K X0 e0 (hw _ (List.mem_of_getElem? (i := 14) rfl)) (hw _ (List.mem_of_getElem? (i := 15) rfl)) (hw _ (List.mem_of_getElem? (i := 16) rfl)) rfl d2_1 (by decide) (Nat.le_of_ble_eq_true rfl) ?_
  intro T1 X1 e1
  show own_Fin p e below _ T1 (mkF m 4 #[.val (.ref t)] [])
  exact own_retV K X1 d2_4 (⟨rfl, N0, e1⟩) (by decide) (by decide)
theorem own_pn10 : plainName "java/util/AbstractCollection" = true := by first | (simp [plainName, overriddenIn]; done) | decide +kernel
theorem d10_0 : decode jdk_22_method_1_code 0 = .ok (.aload_n 0, 1) := by decide +kernel
theorem d10_1 : decode jdk_22_method_1_code 1 = .ok (.invokespecial 1, 3) := by decide +kernel
theorem d10_4 : decode jdk_22_method_1_code 4 = .ok (.return_, 1) := by decide +kernel
set_option maxRecDepth 65536 in
set_option maxHeartbeats 40000000 in
theorem rmAO (l : Launch) (Z : State) (a0 : Array Value) (hw : ∀ d ∈ tables_1, d.before a0 Z = true) (t : Addr) (h0 : Heap) (n0 : Nat) (Z0 : n0 ≤ h0.size)  :
    own_Met l Z (⟨"java/util/AbstractCollection", "<init>", "()V"⟩ : MethodName) jdk_22_method_1_code 1 none ({ frames := 1, cells := 0, slots := 0, locals := 12 } : Room) #[(.ref t)] h0 (own_QV h0 n0) := by
  refine own_enter (plainFor_of_name own_pn10) (fun m => by first | (simp [entryFrame, mkF, argsToLocals, Value.category, maxLocals]; done) | rfl) (Ls := #[.val (.ref t)]) ?_
  intro p e s m below meth c T0 K X0 e0
  have hx := K.1
  have hZ := K.2.1
  have hby := K.2.2.1
  have hown := K.2.2.2.2.1
  have N0 := Fr.nil n0
  show own_Fin p e below _ T0 (mkF m 0 #[.val (.ref t)] [])
  refine own_seg (T' := T0) (g' := (mkF m 1 #[.val (.ref t)] [(.ref t)])) (fun tg kt => ?_) ?_
  · show Steps p.tables e below (T0.setTop (mkF m 0 #[.val (.ref t)] [])) tg
    refine XS.aloadN X0.here hx rfl (hb hby d10_0) rfl rfl ?_
    exact kt
  refine own_initO K X0 e0 (hw _ (List.mem_of_getElem? (i := 86) rfl)) (hw _ (List.mem_of_getElem? (i := 15) rfl)) (hw _ (List.mem_of_getElem? (i := 16) rfl)) rfl d10_1 (by decide) (Nat.le_of_ble_eq_true rfl) ?_
  intro T1 X1 e1
  show own_Fin p e below _ T1 (mkF m 4 #[.val (.ref t)] [])
  exact own_retV K X1 d10_4 (⟨rfl, N0, e1⟩) (by decide) (by decide)
theorem own_pn9 : plainName "java/util/AbstractSet" = true := by first | (simp [plainName, overriddenIn]; done) | decide +kernel
theorem d9_0 : decode jdk_91_method_1_code 0 = .ok (.aload_n 0, 1) := by decide +kernel
theorem d9_1 : decode jdk_91_method_1_code 1 = .ok (.invokespecial 1, 3) := by decide +kernel
theorem own_pd0 : parseMethodDescriptor "()V" = some ⟨[], none⟩ := by decide +kernel
theorem d9_4 : decode jdk_91_method_1_code 4 = .ok (.return_, 1) := by decide +kernel
set_option maxRecDepth 65536 in
set_option maxHeartbeats 40000000 in
theorem rmAS (l : Launch) (Z : State) (a0 : Array Value) (hw : ∀ d ∈ tables_1, d.before a0 Z = true) (t : Addr) (h0 : Heap) (n0 : Nat) (Z0 : n0 ≤ h0.size)  :
    own_Met l Z (⟨"java/util/AbstractSet", "<init>", "()V"⟩ : MethodName) jdk_91_method_1_code 1 none ({ frames := 2, cells := 0, slots := 0, locals := 24 } : Room) #[(.ref t)] h0 (own_QV h0 n0) := by
  refine own_enter (plainFor_of_name own_pn9) (fun m => by first | (simp [entryFrame, mkF, argsToLocals, Value.category, maxLocals]; done) | rfl) (Ls := #[.val (.ref t)]) ?_
  intro p e s m below meth c T0 K X0 e0
  have hx := K.1
  have hZ := K.2.1
  have hby := K.2.2.1
  have hown := K.2.2.2.2.1
  have N0 := Fr.nil n0
  show own_Fin p e below _ T0 (mkF m 0 #[.val (.ref t)] [])
  refine own_seg (T' := T0) (g' := (mkF m 1 #[.val (.ref t)] [(.ref t)])) (fun tg kt => ?_) ?_
  · show Steps p.tables e below (T0.setTop (mkF m 0 #[.val (.ref t)] [])) tg
    refine XS.aloadN X0.here hx rfl (hb hby d9_0) rfl rfl ?_
    exact kt
  refine own_callI K X0 e0 (rmAO l Z a0 hw t h0 n0 Z0 ) rfl (hw _ (List.mem_of_getElem? (i := 80) rfl)) (hw _ (List.mem_of_getElem? (i := 81) rfl)) (hw _ (List.mem_of_getElem? (i := 84) rfl)) (hw _ (List.mem_of_getElem? (i := 85) rfl)) (by decide) t [] [] own_pd0 rfl rfl rfl rfl d9_1 (by decide) (Nat.le_of_ble_eq_true rfl) (by decide) (by decide) ?_
  intro T1 L1 v1 X1 hQ1
  obtain ⟨rfl, Nq1, e1⟩ := hQ1
  have N1 := Fr.app N0 Nq1
  show own_Fin p e below _ T1 (mkF m 4 #[.val (.ref t)] [])
  exact own_retV K X1 d9_4 (⟨rfl, N1, e1⟩) (by decide) (by decide)
theorem own_pn1 : plainName "java/util/HashMap" = true := by first | (simp [plainName, overriddenIn]; done) | decide +kernel
theorem d1_0 : decode jdk_69_method_7_code 0 = .ok (.aload_n 0, 1) := by decide +kernel
theorem d1_1 : decode jdk_69_method_7_code 1 = .ok (.invokespecial 43, 3) := by decide +kernel
theorem d1_4 : decode jdk_69_method_7_code 4 = .ok (.aload_n 0, 1) := by decide +kernel
theorem d1_5 : decode jdk_69_method_7_code 5 = .ok (.ldc 92, 2) := by decide +kernel
theorem d1_7 : decode jdk_69_method_7_code 7 = .ok (.putfield 81, 3) := by decide +kernel
theorem own_lay_HashMap {Z : State} {a0 : Array Value} (hw : ∀ d ∈ tables_1, d.before a0 Z = true) : own_Lay Z a0 "java/util/HashMap" [("java/util/HashMap", "loadFactor", "F"), ("java/util/HashMap", "entrySet", "Ljava/util/Set;"), ("java/util/HashMap", "modCount", "I"), ("java/util/HashMap", "table", "[Ljava/util/HashMap$Node;")] := by
  intro q hq
  simp only [List.mem_cons, List.not_mem_nil, or_false] at hq
  rcases hq with rfl | rfl | rfl | rfl
  · exact ⟨Or.inr (hw _ (List.mem_of_getElem? (i := 19) rfl)), _, (by decide : parseFieldDescriptor "F" = some .float)⟩
  · exact ⟨Or.inl (hw _ (List.mem_of_getElem? (i := 64) rfl)), _, (by decide : parseFieldDescriptor "Ljava/util/Set;" = some (.object "java/util/Set"))⟩
  · exact ⟨Or.inl (hw _ (List.mem_of_getElem? (i := 113) rfl)), _, (by decide : parseFieldDescriptor "I" = some .int)⟩
  · exact ⟨Or.inl (hw _ (List.mem_of_getElem? (i := 117) rfl)), _, (by decide : parseFieldDescriptor "[Ljava/util/HashMap$Node;" = some (.array (.object "java/util/HashMap$Node")))⟩
theorem own_nd_HashMap : ((([("java/util/HashMap", "loadFactor", "F"), ("java/util/HashMap", "entrySet", "Ljava/util/Set;"), ("java/util/HashMap", "modCount", "I"), ("java/util/HashMap", "table", "[Ljava/util/HashMap$Node;")] : List (String × String × String))).map (fun q => q.2.1)).Nodup := by decide +kernel
theorem d1_10 : decode jdk_69_method_7_code 10 = .ok (.return_, 1) := by decide +kernel
set_option maxRecDepth 65536 in
set_option maxHeartbeats 40000000 in
theorem rmHM_H (l : Launch) (Z : State) (a0 : Array Value) (hw : ∀ d ∈ tables_1, d.before a0 Z = true) (t : Addr) (h0 : Heap) (n0 : Nat) (Z0 : n0 ≤ h0.size) (O_t : own_Obj Z h0 t "java/util/HashMap" [("java/util/HashMap", "loadFactor", "F", (.float 0)), ("java/util/HashMap", "entrySet", "Ljava/util/Set;", .null), ("java/util/HashMap", "modCount", "I", (.int (0 : Int32))), ("java/util/HashMap", "table", "[Ljava/util/HashMap$Node;", .null)]) (f_t : n0 ≤ t) :
    own_Met l Z (⟨"java/util/HashMap", "<init>", "()V"⟩ : MethodName) jdk_69_method_7_code 1 none ({ frames := 2, cells := 0, slots := 0, locals := 24 } : Room) #[(.ref t)] h0 (own_QW t (fun h => own_Obj Z h t "java/util/HashMap" [("java/util/HashMap", "loadFactor", "F", (.float (1061158912 : UInt32))), ("java/util/HashMap", "entrySet", "Ljava/util/Set;", .null), ("java/util/HashMap", "modCount", "I", (.int (0 : Int32))), ("java/util/HashMap", "table", "[Ljava/util/HashMap$Node;", .null)]) h0 n0) := by
  refine own_enter (plainFor_of_name own_pn1) (fun m => by first | (simp [entryFrame, mkF, argsToLocals, Value.category, maxLocals]; done) | rfl) (Ls := #[.val (.ref t)]) ?_
  intro p e s m below meth c T0 K X0 e0
  have hx := K.1
  have hZ := K.2.1
  have hby := K.2.2.1
  have hown := K.2.2.2.2.1
  have N0 := Fr.nil n0
  have K0 : Keep h0 h0 [t] := Keep.refl _ _
  show own_Fin p e below _ T0 (mkF m 0 #[.val (.ref t)] [])
  refine own_seg (T' := T0) (g' := (mkF m 1 #[.val (.ref t)] [(.ref t)])) (fun tg kt => ?_) ?_
  · show Steps p.tables e below (T0.setTop (mkF m 0 #[.val (.ref t)] [])) tg
    refine XS.aloadN X0.here hx rfl (hb hby d1_0) rfl rfl ?_
    exact kt
  refine own_callI K X0 e0 (rmAM l Z a0 hw t h0 n0 Z0 ) rfl (hw _ (List.mem_of_getElem? (i := 8) rfl)) (hw _ (List.mem_of_getElem? (i := 9) rfl)) (hw _ (List.mem_of_getElem? (i := 12) rfl)) (hw _ (List.mem_of_getElem? (i := 13) rfl)) (by decide) t [] [] own_pd0 rfl rfl rfl rfl d1_1 (by decide) (Nat.le_of_ble_eq_true rfl) (by decide) (by decide) ?_
  intro T1 L1 v1 X1 hQ1
  obtain ⟨rfl, Nq1, e1⟩ := hQ1
  have N1 := Fr.app N0 Nq1
  show own_Fin p e below _ T1 (mkF m 4 #[.val (.ref t)] [])
  refine own_seg (T' := T1) (g' := (mkF m 7 #[.val (.ref t)] [(.float (1061158912 : UInt32)), (.ref t)])) (fun tg kt => ?_) ?_
  · show Steps p.tables e below (T1.setTop (mkF m 4 #[.val (.ref t)] [])) tg
    refine XS.aloadN X1.here hx rfl (hb hby d1_4) rfl rfl ?_
    show Steps p.tables e below (T1.setTop (mkF m 5 #[.val (.ref t)] [(.ref t)])) tg
    refine X1.ldcFloatC hx hown (mvT hZ (hw _ (List.mem_of_getElem? (i := 17) rfl))) (g := (mkF m 5 #[.val (.ref t)] [(.ref t)])) rfl (hb hby d1_5) _ ?_
    exact kt
  refine own_putF K X1 e1 (host := "") (Or.inl (hw _ (List.mem_of_getElem? (i := 18) rfl))) Via.refl (O_t.get 0 rfl) O_t.exa (Or.inr ⟨(hw _ (List.mem_of_getElem? (i := 19) rfl)), rfl, rfl⟩) (hw _ (List.mem_of_getElem? (i := 3) rfl)) (ty := .float) (by decide) rfl rfl d1_7 ?_
  intro T2 h2 X2 e2 W2
  have O_t_2 : own_Obj Z h2 t "java/util/HashMap" [("java/util/HashMap", "loadFactor", "F", (.float (1061158912 : UInt32))), ("java/util/HashMap", "entrySet", "Ljava/util/Set;", .null), ("java/util/HashMap", "modCount", "I", (.int (0 : Int32))), ("java/util/HashMap", "table", "[Ljava/util/HashMap$Node;", .null)] := O_t.put (own_lay_HashMap hw) rfl own_nd_HashMap 0 rfl W2
  have Z2 : n0 ≤ h2.size := by rw [Wr.size W2]; exact Z0
  have N2 := Fr.snoc X2 N1 f_t
  have K2 := K0.wr W2 (Or.inl (List.mem_of_getElem? (i := 0) rfl))
  show own_Fin p e below _ T2 (mkF m 10 #[.val (.ref t)] [])
  exact own_retV K X2 d1_10 (by rw [e2]; exact ⟨rfl, N2, K2, O_t_2⟩) (by decide) (by decide)
theorem own_lay_LinkedHashMap {Z : State} {a0 : Array Value} (hw : ∀ d ∈ tables_1, d.before a0 Z = true) : own_Lay Z a0 "java/util/LinkedHashMap" [("java/util/HashMap", "loadFactor", "F"), ("java/util/LinkedHashMap", "putMode", "I"), ("java/util/LinkedHashMap", "accessOrder", "Z")] := by
  intro q hq
  simp only [List.mem_cons, List.not_mem_nil, or_false] at hq
  rcases hq with rfl | rfl | rfl
  · exact ⟨Or.inr (hw _ (List.mem_of_getElem? (i := 49) rfl)), _, (by decide : parseFieldDescriptor "F" = some .float)⟩
  · exact ⟨Or.inl (hw _ (List.mem_of_getElem? (i := 51) rfl)), _, (by decide : parseFieldDescriptor "I" = some .int)⟩
  · exact ⟨Or.inr (hw _ (List.mem_of_getElem? (i := 53) rfl)), _, (by decide : parseFieldDescriptor "Z" = some .boolean)⟩
theorem own_nd_LinkedHashMap : ((([("java/util/HashMap", "loadFactor", "F"), ("java/util/LinkedHashMap", "putMode", "I"), ("java/util/LinkedHashMap", "accessOrder", "Z")] : List (String × String × String))).map (fun q => q.2.1)).Nodup := by decide +kernel
set_option maxRecDepth 65536 in
set_option maxHeartbeats 40000000 in
theorem rmHM_L (l : Launch) (Z : State) (a0 : Array Value) (hw : ∀ d ∈ tables_1, d.before a0 Z = true) (t : Addr) (h0 : Heap) (n0 : Nat) (Z0 : n0 ≤ h0.size) (O_t : own_Obj Z h0 t "java/util/LinkedHashMap" [("java/util/HashMap", "loadFactor", "F", (.float 0)), ("java/util/LinkedHashMap", "putMode", "I", (.int (0 : Int32))), ("java/util/LinkedHashMap", "accessOrder", "Z", (.int (0 : Int32)))]) (f_t : n0 ≤ t) :
    own_Met l Z (⟨"java/util/HashMap", "<init>", "()V"⟩ : MethodName) jdk_69_method_7_code 1 none ({ frames := 2, cells := 0, slots := 0, locals := 24 } : Room) #[(.ref t)] h0 (own_QW t (fun h => own_Obj Z h t "java/util/LinkedHashMap" [("java/util/HashMap", "loadFactor", "F", (.float (1061158912 : UInt32))), ("java/util/LinkedHashMap", "putMode", "I", (.int (0 : Int32))), ("java/util/LinkedHashMap", "accessOrder", "Z", (.int (0 : Int32)))]) h0 n0) := by
  refine own_enter (plainFor_of_name own_pn1) (fun m => by first | (simp [entryFrame, mkF, argsToLocals, Value.category, maxLocals]; done) | rfl) (Ls := #[.val (.ref t)]) ?_
  intro p e s m below meth c T0 K X0 e0
  have hx := K.1
  have hZ := K.2.1
  have hby := K.2.2.1
  have hown := K.2.2.2.2.1
  have N0 := Fr.nil n0
  have K0 : Keep h0 h0 [t] := Keep.refl _ _
  show own_Fin p e below _ T0 (mkF m 0 #[.val (.ref t)] [])
  refine own_seg (T' := T0) (g' := (mkF m 1 #[.val (.ref t)] [(.ref t)])) (fun tg kt => ?_) ?_
  · show Steps p.tables e below (T0.setTop (mkF m 0 #[.val (.ref t)] [])) tg
    refine XS.aloadN X0.here hx rfl (hb hby d1_0) rfl rfl ?_
    exact kt
  refine own_callI K X0 e0 (rmAM l Z a0 hw t h0 n0 Z0 ) rfl (hw _ (List.mem_of_getElem? (i := 8) rfl)) (hw _ (List.mem_of_getElem? (i := 9) rfl)) (hw _ (List.mem_of_getElem? (i := 12) rfl)) (hw _ (List.mem_of_getElem? (i := 13) rfl)) (by decide) t [] [] own_pd0 rfl rfl rfl rfl d1_1 (by decide) (Nat.le_of_ble_eq_true rfl) (by decide) (by decide) ?_
  intro T1 L1 v1 X1 hQ1
  obtain ⟨rfl, Nq1, e1⟩ := hQ1
  have N1 := Fr.app N0 Nq1
  show own_Fin p e below _ T1 (mkF m 4 #[.val (.ref t)] [])
  refine own_seg (T' := T1) (g' := (mkF m 7 #[.val (.ref t)] [(.float (1061158912 : UInt32)), (.ref t)])) (fun tg kt => ?_) ?_
  · show Steps p.tables e below (T1.setTop (mkF m 4 #[.val (.ref t)] [])) tg
    refine XS.aloadN X1.here hx rfl (hb hby d1_4) rfl rfl ?_
    show Steps p.tables e below (T1.setTop (mkF m 5 #[.val (.ref t)] [(.ref t)])) tg
    refine X1.ldcFloatC hx hown (mvT hZ (hw _ (List.mem_of_getElem? (i := 17) rfl))) (g := (mkF m 5 #[.val (.ref t)] [(.ref t)])) rfl (hb hby d1_5) _ ?_
    exact kt
  refine own_putF K X1 e1 (host := "") (Or.inl (hw _ (List.mem_of_getElem? (i := 18) rfl))) Via.refl (O_t.get 0 rfl) O_t.exa (Or.inr ⟨(hw _ (List.mem_of_getElem? (i := 49) rfl)), rfl, rfl⟩) (hw _ (List.mem_of_getElem? (i := 40) rfl)) (ty := .float) (by decide) rfl rfl d1_7 ?_
  intro T2 h2 X2 e2 W2
  have O_t_2 : own_Obj Z h2 t "java/util/LinkedHashMap" [("java/util/HashMap", "loadFactor", "F", (.float (1061158912 : UInt32))), ("java/util/LinkedHashMap", "putMode", "I", (.int (0 : Int32))), ("java/util/LinkedHashMap", "accessOrder", "Z", (.int (0 : Int32)))] := O_t.put (own_lay_LinkedHashMap hw) rfl own_nd_LinkedHashMap 0 rfl W2
  have Z2 : n0 ≤ h2.size := by rw [Wr.size W2]; exact Z0
  have N2 := Fr.snoc X2 N1 f_t
  have K2 := K0.wr W2 (Or.inl (List.mem_of_getElem? (i := 0) rfl))
  show own_Fin p e below _ T2 (mkF m 10 #[.val (.ref t)] [])
  exact own_retV K X2 d1_10 (by rw [e2]; exact ⟨rfl, N2, K2, O_t_2⟩) (by decide) (by decide)
theorem own_pn6 : plainName "java/util/LinkedHashMap" = true := by first | (simp [plainName, overriddenIn]; done) | decide +kernel
theorem d6_0 : decode jdk_94_method_16_code 0 = .ok (.aload_n 0, 1) := by decide +kernel
theorem d6_1 : decode jdk_94_method_16_code 1 = .ok (.invokespecial 87, 3) := by decide +kernel
theorem d6_4 : decode jdk_94_method_16_code 4 = .ok (.aload_n 0, 1) := by decide +kernel
theorem d6_5 : decode jdk_94_method_16_code 5 = .ok (.iconst 0, 1) := by decide +kernel
theorem d6_6 : decode jdk_94_method_16_code 6 = .ok (.putfield 1, 3) := by decide +kernel
theorem d6_9 : decode jdk_94_method_16_code 9 = .ok (.aload_n 0, 1) := by decide +kernel
theorem d6_10 : decode jdk_94_method_16_code 10 = .ok (.iconst 0, 1) := by decide +kernel
theorem d6_11 : decode jdk_94_method_16_code 11 = .ok (.putfield 64, 3) := by decide +kernel
theorem d6_14 : decode jdk_94_method_16_code 14 = .ok (.return_, 1) := by decide +kernel
set_option maxRecDepth 65536 in
set_option maxHeartbeats 40000000 in
theorem rmLH (l : Launch) (Z : State) (a0 : Array Value) (hw : ∀ d ∈ tables_1, d.before a0 Z = true) (t : Addr) (h0 : Heap) (n0 : Nat) (Z0 : n0 ≤ h0.size) (O_t : own_Obj Z h0 t "java/util/LinkedHashMap" [("java/util/HashMap", "loadFactor", "F", (.float 0)), ("java/util/LinkedHashMap", "putMode", "I", (.int (0 : Int32))), ("java/util/LinkedHashMap", "accessOrder", "Z", (.int (0 : Int32)))]) (f_t : n0 ≤ t) :
    own_Met l Z (⟨"java/util/LinkedHashMap", "<init>", "()V"⟩ : MethodName) jdk_94_method_16_code 1 none ({ frames := 3, cells := 0, slots := 0, locals := 40 } : Room) #[(.ref t)] h0 (own_QW t (fun h => own_Obj Z h t "java/util/LinkedHashMap" [("java/util/HashMap", "loadFactor", "F", (.float (1061158912 : UInt32))), ("java/util/LinkedHashMap", "putMode", "I", (.int (0 : Int32))), ("java/util/LinkedHashMap", "accessOrder", "Z", (.int (0 : Int32)))]) h0 n0) := by
  refine own_enter (plainFor_of_name own_pn6) (fun m => by first | (simp [entryFrame, mkF, argsToLocals, Value.category, maxLocals]; done) | rfl) (Ls := #[.val (.ref t)]) ?_
  intro p e s m below meth c T0 K X0 e0
  have hx := K.1
  have hZ := K.2.1
  have hby := K.2.2.1
  have hown := K.2.2.2.2.1
  have N0 := Fr.nil n0
  have K0 : Keep h0 h0 [t] := Keep.refl _ _
  show own_Fin p e below _ T0 (mkF m 0 #[.val (.ref t)] [])
  refine own_seg (T' := T0) (g' := (mkF m 1 #[.val (.ref t)] [(.ref t)])) (fun tg kt => ?_) ?_
  · show Steps p.tables e below (T0.setTop (mkF m 0 #[.val (.ref t)] [])) tg
    refine XS.aloadN X0.here hx rfl (hb hby d6_0) rfl rfl ?_
    exact kt
  refine own_callI K X0 e0 (rmHM_L l Z a0 hw t h0 n0 Z0 O_t f_t) rfl (hw _ (List.mem_of_getElem? (i := 45) rfl)) (hw _ (List.mem_of_getElem? (i := 6) rfl)) (hw _ (List.mem_of_getElem? (i := 4) rfl)) (hw _ (List.mem_of_getElem? (i := 7) rfl)) (by decide) t [] [] own_pd0 rfl rfl rfl rfl d6_1 (by decide) (Nat.le_of_ble_eq_true rfl) (by decide) (by decide) ?_
  intro T1 L1 v1 X1 hQ1
  obtain ⟨h1, e1⟩ : ∃ z, T1.heap = z := ⟨_, rfl⟩
  rw [e1] at hQ1
  obtain ⟨rfl, Nq1, Kq1, Oq1_t⟩ := hQ1
  have N1 := Fr.app N0 Nq1
  have Z1 : n0 ≤ h1.size := Nat.le_trans Z0 Kq1.1
  have K1 := Keep.trans K0 Kq1 (allS (Or.inl (List.mem_of_getElem? (i := 0) rfl)) all0)
  show own_Fin p e below _ T1 (mkF m 4 #[.val (.ref t)] [])
  refine own_seg (T' := T1) (g' := (mkF m 6 #[.val (.ref t)] [(.int (0 : Int32)), (.ref t)])) (fun tg kt => ?_) ?_
  · show Steps p.tables e below (T1.setTop (mkF m 4 #[.val (.ref t)] [])) tg
    refine XS.aloadN X1.here hx rfl (hb hby d6_4) rfl rfl ?_
    show Steps p.tables e below (T1.setTop (mkF m 5 #[.val (.ref t)] [(.ref t)])) tg
    refine XS.iconst X1.here hx rfl (hb hby d6_5) ?_
    exact kt
  refine own_putF K X1 e1 (host := "") (Or.inl (hw _ (List.mem_of_getElem? (i := 50) rfl))) Via.refl (Oq1_t.get 1 rfl) Oq1_t.exa (Or.inl (hw _ (List.mem_of_getElem? (i := 51) rfl))) (hw _ (List.mem_of_getElem? (i := 40) rfl)) (ty := .int) (by decide) rfl rfl d6_6 ?_
  intro T2 h2 X2 e2 W2
  have O_t_2 : own_Obj Z h2 t "java/util/LinkedHashMap" [("java/util/HashMap", "loadFactor", "F", (.float (1061158912 : UInt32))), ("java/util/LinkedHashMap", "putMode", "I", (.int (0 : Int32))), ("java/util/LinkedHashMap", "accessOrder", "Z", (.int (0 : Int32)))] := Oq1_t.put (own_lay_LinkedHashMap hw) rfl own_nd_LinkedHashMap 1 rfl W2
  have Z2 : n0 ≤ h2.size := by rw [Wr.size W2]; exact Z1
  have N2 := Fr.snoc X2 N1 f_t
  have K2 := K1.wr W2 (Or.inl (List.mem_of_getElem? (i := 0) rfl))
  show own_Fin p e below _ T2 (mkF m 9 #[.val (.ref t)] [])
  refine own_seg (T' := T2) (g' := (mkF m 11 #[.val (.ref t)] [(.int (0 : Int32)), (.ref t)])) (fun tg kt => ?_) ?_
  · show Steps p.tables e below (T2.setTop (mkF m 9 #[.val (.ref t)] [])) tg
    refine XS.aloadN X2.here hx rfl (hb hby d6_9) rfl rfl ?_
    show Steps p.tables e below (T2.setTop (mkF m 10 #[.val (.ref t)] [(.ref t)])) tg
    refine XS.iconst X2.here hx rfl (hb hby d6_10) ?_
    exact kt
  refine own_putF K X2 e2 (host := "") (Or.inl (hw _ (List.mem_of_getElem? (i := 52) rfl))) Via.refl (O_t_2.get 2 rfl) O_t_2.exa (Or.inr ⟨(hw _ (List.mem_of_getElem? (i := 53) rfl)), rfl, rfl⟩) (hw _ (List.mem_of_getElem? (i := 40) rfl)) (ty := .boolean) (by decide) rfl rfl d6_11 ?_
  intro T3 h3 X3 e3 W3
  have O_t_3 : own_Obj Z h3 t "java/util/LinkedHashMap" [("java/util/HashMap", "loadFactor", "F", (.float (1061158912 : UInt32))), ("java/util/LinkedHashMap", "putMode", "I", (.int (0 : Int32))), ("java/util/LinkedHashMap", "accessOrder", "Z", (.int (0 : Int32)))] := O_t_2.put (own_lay_LinkedHashMap hw) rfl own_nd_LinkedHashMap 2 rfl W3
  have Z3 : n0 ≤ h3.size := by rw [Wr.size W3]; exact Z2
  have N3 := Fr.snoc X3 N2 f_t
  have K3 := K2.wr W3 (Or.inl (List.mem_of_getElem? (i := 0) rfl))
  show own_Fin p e below _ T3 (mkF m 14 #[.val (.ref t)] [])
  exact own_retV K X3 d6_14 (by rw [e3]; exact ⟨rfl, N3, K3, O_t_3⟩) (by decide) (by decide)
theorem own_pn8 : plainName "java/util/HashMap$EntrySet" = true := by first | (simp [plainName, overriddenIn]; done) | decide +kernel
theorem d8_0 : decode jdk_111_method_1_code 0 = .ok (.aload_n 0, 1) := by decide +kernel
theorem d8_1 : decode jdk_111_method_1_code 1 = .ok (.aload_n 1, 1) := by decide +kernel
theorem d8_2 : decode jdk_111_method_1_code 2 = .ok (.putfield 1, 3) := by decide +kernel
theorem own_lay_HashMap_EntrySet {Z : State} {a0 : Array Value} (hw : ∀ d ∈ tables_1, d.before a0 Z = true) : own_Lay Z a0 "java/util/HashMap$EntrySet" [("java/util/HashMap$EntrySet", "this$0", "Ljava/util/HashMap;")] := by
  intro q hq
  simp only [List.mem_cons, List.not_mem_nil, or_false] at hq
  rcases hq with rfl
  · exact ⟨Or.inr (hw _ (List.mem_of_getElem? (i := 73) rfl)), _, (by decide : parseFieldDescriptor "Ljava/util/HashMap;" = some (.object "java/util/HashMap"))⟩
theorem own_nd_HashMap_EntrySet : ((([("java/util/HashMap$EntrySet", "this$0", "Ljava/util/HashMap;")] : List (String × String × String))).map (fun q => q.2.1)).Nodup := by decide +kernel
theorem d8_5 : decode jdk_111_method_1_code 5 = .ok (.aload_n 0, 1) := by decide +kernel
theorem d8_6 : decode jdk_111_method_1_code 6 = .ok (.invokespecial 7, 3) := by decide +kernel
theorem d8_9 : decode jdk_111_method_1_code 9 = .ok (.return_, 1) := by decide +kernel
set_option maxRecDepth 65536 in
set_option maxHeartbeats 40000000 in
theorem rmES (l : Launch) (Z : State) (a0 : Array Value) (hw : ∀ d ∈ tables_1, d.before a0 Z = true) (t hm : Addr) (h0 : Heap) (n0 : Nat) (Z0 : n0 ≤ h0.size) (O_t : own_Obj Z h0 t "java/util/HashMap$EntrySet" [("java/util/HashMap$EntrySet", "this$0", "Ljava/util/HashMap;", .null)]) (f_t : n0 ≤ t) :
    own_Met l Z (⟨"java/util/HashMap$EntrySet", "<init>", "(Ljava/util/HashMap;)V"⟩ : MethodName) jdk_111_method_1_code 2 none ({ frames := 3, cells := 0, slots := 0, locals := 40 } : Room) #[(.ref t), (.ref hm)] h0 (own_QW t (fun h => own_Obj Z h t "java/util/HashMap$EntrySet" [("java/util/HashMap$EntrySet", "this$0", "Ljava/util/HashMap;", (.ref hm))]) h0 n0) := by
  refine own_enter (plainFor_of_name own_pn8) (fun m => by first | (simp [entryFrame, mkF, argsToLocals, Value.category, maxLocals]; done) | rfl) (Ls := #[.val (.ref t), .val (.ref hm)]) ?_
  intro p e s m below meth c T0 K X0 e0
  have hx := K.1
  have hZ := K.2.1
  have hby := K.2.2.1
  have hown := K.2.2.2.2.1
  have N0 := Fr.nil n0
  have K0 : Keep h0 h0 [t] := Keep.refl _ _
  show own_Fin p e below _ T0 (mkF m 0 #[.val (.ref t), .val (.ref hm)] [])
  refine own_seg (T' := T0) (g' := (mkF m 2 #[.val (.ref t), .val (.ref hm)] [(.ref hm), (.ref t)])) (fun tg kt => ?_) ?_
  · show Steps p.tables e below (T0.setTop (mkF m 0 #[.val (.ref t), .val (.ref hm)] [])) tg
    refine XS.aloadN X0.here hx rfl (hb hby d8_0) rfl rfl ?_
    show Steps p.tables e below (T0.setTop (mkF m 1 #[.val (.ref t), .val (.ref hm)] [(.ref t)])) tg
    refine XS.aloadN X0.here hx rfl (hb hby d8_1) rfl rfl ?_
    exact kt
  refine own_putF K X0 e0 (host := "") (Or.inl (hw _ (List.mem_of_getElem? (i := 72) rfl))) Via.refl (O_t.get 0 rfl) O_t.exa (Or.inr ⟨(hw _ (List.mem_of_getElem? (i := 73) rfl)), rfl, rfl⟩) (hw _ (List.mem_of_getElem? (i := 66) rfl)) (ty := (.object "java/util/HashMap")) (by decide) rfl rfl d8_2 ?_
  intro T1 h1 X1 e1 W1
  have O_t_1 : own_Obj Z h1 t "java/util/HashMap$EntrySet" [("java/util/HashMap$EntrySet", "this$0", "Ljava/util/HashMap;", (.ref hm))] := O_t.put (own_lay_HashMap_EntrySet hw) rfl own_nd_HashMap_EntrySet 0 rfl W1
  have Z1 : n0 ≤ h1.size := by rw [Wr.size W1]; exact Z0
  have N1 := Fr.snoc X1 N0 f_t
  have K1 := K0.wr W1 (Or.inl (List.mem_of_getElem? (i := 0) rfl))
  show own_Fin p e below _ T1 (mkF m 5 #[.val (.ref t), .val (.ref hm)] [])
  refine own_seg (T' := T1) (g' := (mkF m 6 #[.val (.ref t), .val (.ref hm)] [(.ref t)])) (fun tg kt => ?_) ?_
  · show Steps p.tables e below (T1.setTop (mkF m 5 #[.val (.ref t), .val (.ref hm)] [])) tg
    refine XS.aloadN X1.here hx rfl (hb hby d8_5) rfl rfl ?_
    exact kt
  refine own_callI K X1 e1 (rmAS l Z a0 hw t h1 n0 Z1 ) rfl (hw _ (List.mem_of_getElem? (i := 74) rfl)) (hw _ (List.mem_of_getElem? (i := 75) rfl)) (hw _ (List.mem_of_getElem? (i := 78) rfl)) (hw _ (List.mem_of_getElem? (i := 79) rfl)) (by decide) t [] [] own_pd0 rfl rfl rfl rfl d8_6 (by decide) (Nat.le_of_ble_eq_true rfl) (by decide) (by decide) ?_
  intro T2 L2 v2 X2 hQ2
  obtain ⟨rfl, Nq2, e2⟩ := hQ2
  have N2 := Fr.app N1 Nq2
  show own_Fin p e below _ T2 (mkF m 9 #[.val (.ref t), .val (.ref hm)] [])
  exact own_retV K X2 d8_9 (by rw [e2]; exact ⟨rfl, N2, K1, O_t_1⟩) (by decide) (by decide)
theorem own_pn7 : plainName "java/util/HashMap" = true := by first | (simp [plainName, overriddenIn]; done) | decide +kernel
theorem d7_0 : decode jdk_69_method_29_code 0 = .ok (.aload_n 0, 1) := by decide +kernel
theorem d7_1 : decode jdk_69_method_29_code 1 = .ok (.getfield 266, 3) := by decide +kernel
theorem d7_4 : decode jdk_69_method_29_code 4 = .ok (.dup, 1) := by decide +kernel
theorem d7_5 : decode jdk_69_method_29_code 5 = .ok (.astore_n 1, 1) := by decide +kernel
theorem d7_6 : decode jdk_69_method_29_code 6 = .ok (.ifnonnull 19, 3) := by decide +kernel
theorem d7_9 : decode jdk_69_method_29_code 9 = .ok (.aload_n 0, 1) := by decide +kernel
theorem d7_10 : decode jdk_69_method_29_code 10 = .ok (.new 268, 3) := by decide +kernel
theorem d7_13 : decode jdk_69_method_29_code 13 = .ok (.dup, 1) := by decide +kernel
theorem d7_14 : decode jdk_69_method_29_code 14 = .ok (.aload_n 0, 1) := by decide +kernel
theorem d7_15 : decode jdk_69_method_29_code 15 = .ok (.invokespecial 270, 3) := by decide +kernel
theorem own_pd1 : parseMethodDescriptor "(Ljava/util/HashMap;)V" = some ⟨[(.object "java/util/HashMap")], none⟩ := by decide +kernel
theorem d7_18 : decode jdk_69_method_29_code 18 = .ok (.dup_x1, 1) := by decide +kernel
theorem d7_19 : decode jdk_69_method_29_code 19 = .ok (.putfield 266, 3) := by decide +kernel
theorem d7_22 : decode jdk_69_method_29_code 22 = .ok (.goto 4, 3) := by decide +kernel
theorem d7_26 : decode jdk_69_method_29_code 26 = .ok (.areturn, 1) := by decide +kernel
set_option maxRecDepth 65536 in
set_option maxHeartbeats 40000000 in
theorem rmNS (l : Launch) (Z : State) (a0 : Array Value) (hw : ∀ d ∈ tables_1, d.before a0 Z = true) (hm : Addr) (h0 : Heap) (n0 : Nat) (Z0 : n0 ≤ h0.size) (O_hm : own_Obj Z h0 hm "java/util/HashMap" [("java/util/HashMap", "loadFactor", "F", (.float (1061158912 : UInt32))), ("java/util/HashMap", "entrySet", "Ljava/util/Set;", .null), ("java/util/HashMap", "modCount", "I", (.int (0 : Int32))), ("java/util/HashMap", "table", "[Ljava/util/HashMap$Node;", .null)]) (f_hm : n0 ≤ hm) :
    own_Met l Z (⟨"java/util/HashMap", "entrySet", "()Ljava/util/Set;"⟩ : MethodName) jdk_69_method_29_code 2 (some (.object "java/util/Set")) ({ frames := 4, cells := 1, slots := 1, locals := 60 } : Room) #[(.ref hm)] h0 (own_QN [hm] (fun b h => own_Obj Z h b "java/util/HashMap$EntrySet" [("java/util/HashMap$EntrySet", "this$0", "Ljava/util/HashMap;", (.ref hm))] ∧ own_Obj Z h hm "java/util/HashMap" [("java/util/HashMap", "loadFactor", "F", (.float (1061158912 : UInt32))), ("java/util/HashMap", "entrySet", "Ljava/util/Set;", (.ref b)), ("java/util/HashMap", "modCount", "I", (.int (0 : Int32))), ("java/util/HashMap", "table", "[Ljava/util/HashMap$Node;", .null)]) h0 n0) := by
  refine own_enter (plainFor_of_name own_pn7) (fun m => by first | (simp [entryFrame, mkF, argsToLocals, Value.category, maxLocals]; done) | rfl) (Ls := #[.val (.ref hm), .unset]) ?_
  intro p e s m below meth c T0 K X0 e0
  have hx := K.1
  have hZ := K.2.1
  have hby := K.2.2.1
  have hown := K.2.2.2.2.1
  have N0 := Fr.nil n0
  have K0 : Keep h0 h0 [hm] := Keep.refl _ _
  show own_Fin p e below _ T0 (mkF m 0 #[.val (.ref hm), .unset] [])
  refine own_seg (T' := T0) (g' := (mkF m 1 #[.val (.ref hm), .unset] [(.ref hm)])) (fun tg kt => ?_) ?_
  · show Steps p.tables e below (T0.setTop (mkF m 0 #[.val (.ref hm), .unset] [])) tg
    refine XS.aloadN X0.here hx rfl (hb hby d7_0) rfl rfl ?_
    exact kt
  refine own_getF K X0 e0 (host := "") (Or.inl (hw _ (List.mem_of_getElem? (i := 63) rfl))) Via.refl (O_hm.get 1 rfl) d7_1 ?_
  intro T1 X1 e1
  show own_Fin p e below _ T1 (mkF m 4 #[.val (.ref hm), .unset] [.null])
  refine own_seg (T' := T1) (g' := (mkF m 10 #[.val (.ref hm), .val .null] [(.ref hm)])) (fun tg kt => ?_) ?_
  · show Steps p.tables e below (T1.setTop (mkF m 4 #[.val (.ref hm), .unset] [.null])) tg
    refine XS.dup X1.here hx rfl (hb hby d7_4) rfl rfl ?_
    show Steps p.tables e below (T1.setTop (mkF m 5 #[.val (.ref hm), .unset] [.null, .null])) tg
    refine XS.astoreN X1.here hx rfl (hb hby d7_5) rfl rfl (l' := #[.val (.ref hm), .val .null]) rfl ?_
    show Steps p.tables e below (T1.setTop (mkF m 6 #[.val (.ref hm), .val .null] [.null])) tg
    refine XS.ifnonnullNo X1.here hx rfl (hb hby d7_6) rfl ?_
    show Steps p.tables e below (T1.setTop (mkF m 9 #[.val (.ref hm), .val .null] [])) tg
    refine XS.aloadN X1.here hx rfl (hb hby d7_9) rfl rfl ?_
    exact kt
  refine own_newO K X1 e1 (hw _ (List.mem_of_getElem? (i := 65) rfl)) (hw _ (List.mem_of_getElem? (i := 66) rfl)) (hw _ (List.mem_of_getElem? (i := 67) rfl)) d7_10 (by decide) (by decide) ?_
  intro T2 h2 b2 g2 X2 e2 E2 A2 D2
  have ne_hm_b2 : hm ≠ b2 := Nat.ne_of_lt (Nat.lt_of_lt_of_eq O_hm.lt g2.symm)
  have ne_b2_hm := ne_hm_b2.symm
  have O_hm_2 : own_Obj Z h2 hm "java/util/HashMap" [("java/util/HashMap", "loadFactor", "F", (.float (1061158912 : UInt32))), ("java/util/HashMap", "entrySet", "Ljava/util/Set;", .null), ("java/util/HashMap", "modCount", "I", (.int (0 : Int32))), ("java/util/HashMap", "table", "[Ljava/util/HashMap$Node;", .null)] := O_hm.ext E2
  have f_b2 : n0 ≤ b2 := Nat.le_trans Z0 (Nat.le_of_eq g2.symm)
  have Z2 : n0 ≤ h2.size := Nat.le_trans Z0 E2.1
  have sz_b2 : h0.size ≤ b2 := Nat.le_trans K0.1 (Nat.le_of_eq g2.symm)
  have K2 := K0.ext E2
  have O_b2_2 : own_Obj Z h2 b2 "java/util/HashMap$EntrySet" [("java/util/HashMap$EntrySet", "this$0", "Ljava/util/HashMap;", .null)] := ⟨A2, by
    intro q hq
    simp only [List.mem_cons, List.not_mem_nil, or_false] at hq
    rcases hq with rfl
    · exact D2 (Or.inr (hw _ (List.mem_of_getElem? (i := 73) rfl))) (ty := (.object "java/util/HashMap")) (by decide)⟩
  show own_Fin p e below _ T2 (mkF m 13 #[.val (.ref hm), .val .null] [(.ref b2), (.ref hm)])
  refine own_seg (T' := T2) (g' := (mkF m 15 #[.val (.ref hm), .val .null] [(.ref hm), (.ref b2), (.ref b2), (.ref hm)])) (fun tg kt => ?_) ?_
  · show Steps p.tables e below (T2.setTop (mkF m 13 #[.val (.ref hm), .val .null] [(.ref b2), (.ref hm)])) tg
    refine XS.dup X2.here hx rfl (hb hby d7_13) rfl rfl ?_
    show Steps p.tables e below (T2.setTop (mkF m 14 #[.val (.ref hm), .val .null] [(.ref b2), (.ref b2), (.ref hm)])) tg
    refine XS.aloadN X2.here hx rfl (hb hby d7_14) rfl rfl ?_
    exact kt
  refine own_callI K X2 e2 (rmES l Z a0 hw b2 hm h2 n0 Z2 O_b2_2 f_b2) rfl (hw _ (List.mem_of_getElem? (i := 68) rfl)) (hw _ (List.mem_of_getElem? (i := 69) rfl)) (hw _ (List.mem_of_getElem? (i := 67) rfl)) (hw _ (List.mem_of_getElem? (i := 71) rfl)) (by decide) b2 [(.ref hm)] [(.ref b2), (.ref hm)] own_pd1 rfl rfl rfl rfl d7_15 (by decide) (Nat.le_of_ble_eq_true rfl) (by decide) (by decide) ?_
  intro T3 L3 v3 X3 hQ3
  obtain ⟨h3, e3⟩ : ∃ z, T3.heap = z := ⟨_, rfl⟩
  rw [e3] at hQ3
  obtain ⟨rfl, Nq3, Kq3, Oq3_b2⟩ := hQ3
  have N3 := Fr.app N0 Nq3
  have O_hm_3 : own_Obj Z h3 hm "java/util/HashMap" [("java/util/HashMap", "loadFactor", "F", (.float (1061158912 : UInt32))), ("java/util/HashMap", "entrySet", "Ljava/util/Set;", .null), ("java/util/HashMap", "modCount", "I", (.int (0 : Int32))), ("java/util/HashMap", "table", "[Ljava/util/HashMap$Node;", .null)] := O_hm_2.keep Kq3 (ninS ne_hm_b2 nin0)
  have Z3 : n0 ≤ h3.size := Nat.le_trans Z2 Kq3.1
  have K3 := Keep.trans K2 Kq3 (allS (Or.inr sz_b2) all0)
  show own_Fin p e below _ T3 (mkF m 18 #[.val (.ref hm), .val .null] [(.ref b2), (.ref hm)])
  refine own_seg (T' := T3) (g' := (mkF m 19 #[.val (.ref hm), .val .null] [(.ref b2), (.ref hm), (.ref b2)])) (fun tg kt => ?_) ?_
  · show Steps p.tables e below (T3.setTop (mkF m 18 #[.val (.ref hm), .val .null] [(.ref b2), (.ref hm)])) tg
    refine XS.dupX1 X3.here hx rfl (hb hby d7_18) rfl rfl rfl ?_
    exact kt
  refine own_putF K X3 e3 (host := "") (Or.inl (hw _ (List.mem_of_getElem? (i := 63) rfl))) Via.refl (O_hm_3.get 1 rfl) O_hm_3.exa (Or.inl (hw _ (List.mem_of_getElem? (i := 64) rfl))) (hw _ (List.mem_of_getElem? (i := 3) rfl)) (ty := (.object "java/util/Set")) (by decide) rfl rfl d7_19 ?_
  intro T4 h4 X4 e4 W4
  have O_b2_4 : own_Obj Z h4 b2 "java/util/HashMap$EntrySet" [("java/util/HashMap$EntrySet", "this$0", "Ljava/util/HashMap;", (.ref hm))] := Oq3_b2.other W4 ne_b2_hm
  have O_hm_4 : own_Obj Z h4 hm "java/util/HashMap" [("java/util/HashMap", "loadFactor", "F", (.float (1061158912 : UInt32))), ("java/util/HashMap", "entrySet", "Ljava/util/Set;", (.ref b2)), ("java/util/HashMap", "modCount", "I", (.int (0 : Int32))), ("java/util/HashMap", "table", "[Ljava/util/HashMap$Node;", .null)] := O_hm_3.put (own_lay_HashMap hw) rfl own_nd_HashMap 1 rfl W4
  have Z4 : n0 ≤ h4.size := by rw [Wr.size W4]; exact Z3
  have N4 := Fr.snoc X4 N3 f_hm
  have K4 := K3.wr W4 (Or.inl (List.mem_of_getElem? (i := 0) rfl))
  show own_Fin p e below _ T4 (mkF m 22 #[.val (.ref hm), .val .null] [(.ref b2)])
  refine own_seg (T' := T4) (g' := (mkF m 26 #[.val (.ref hm), .val .null] [(.ref b2)])) (fun tg kt => ?_) ?_
  · show Steps p.tables e below (T4.setTop (mkF m 22 #[.val (.ref hm), .val .null] [(.ref b2)])) tg
    refine XS.goto X4.here hx rfl (pc0 := 22) (pc' := 26) rfl (hb hby d7_22) (by decide) (by decide) ?_
    exact kt
  exact own_retA K rfl X4 rfl d7_26 (by rw [e4]; exact ⟨b2, rfl, N4, K4, ⟨O_b2_4, O_hm_4⟩, sz_b2⟩) (by decide) (by decide)
theorem own_pn13 : plainName "java/util/HashMap$HashIterator" = true := by first | (simp [plainName, overriddenIn]; done) | decide +kernel
theorem d13_0 : decode jdk_99_method_1_code 0 = .ok (.aload_n 0, 1) := by decide +kernel
theorem d13_1 : decode jdk_99_method_1_code 1 = .ok (.aload_n 1, 1) := by decide +kernel
theorem d13_2 : decode jdk_99_method_1_code 2 = .ok (.putfield 1, 3) := by decide +kernel
theorem own_lay_HashMap_EntryIterator {Z : State} {a0 : Array Value} (hw : ∀ d ∈ tables_1, d.before a0 Z = true) : own_Lay Z a0 "java/util/HashMap$EntryIterator" [("java/util/HashMap$HashIterator", "this$0", "Ljava/util/HashMap;"), ("java/util/HashMap$HashIterator", "expectedModCount", "I"), ("java/util/HashMap$HashIterator", "next", "Ljava/util/HashMap$Node;"), ("java/util/HashMap$HashIterator", "current", "Ljava/util/HashMap$Node;"), ("java/util/HashMap$HashIterator", "index", "I")] := by
  intro q hq
  simp only [List.mem_cons, List.not_mem_nil, or_false] at hq
  rcases hq with rfl | rfl | rfl | rfl | rfl
  · exact ⟨Or.inr (hw _ (List.mem_of_getElem? (i := 110) rfl)), _, (by decide : parseFieldDescriptor "Ljava/util/HashMap;" = some (.object "java/util/HashMap"))⟩
  · exact ⟨Or.inl (hw _ (List.mem_of_getElem? (i := 115) rfl)), _, (by decide : parseFieldDescriptor "I" = some .int)⟩
  · exact ⟨Or.inl (hw _ (List.mem_of_getElem? (i := 119) rfl)), _, (by decide : parseFieldDescriptor "Ljava/util/HashMap$Node;" = some (.object "java/util/HashMap$Node"))⟩
  · exact ⟨Or.inl (hw _ (List.mem_of_getElem? (i := 121) rfl)), _, (by decide : parseFieldDescriptor "Ljava/util/HashMap$Node;" = some (.object "java/util/HashMap$Node"))⟩
  · exact ⟨Or.inl (hw _ (List.mem_of_getElem? (i := 123) rfl)), _, (by decide : parseFieldDescriptor "I" = some .int)⟩
theorem own_nd_HashMap_EntryIterator : ((([("java/util/HashMap$HashIterator", "this$0", "Ljava/util/HashMap;"), ("java/util/HashMap$HashIterator", "expectedModCount", "I"), ("java/util/HashMap$HashIterator", "next", "Ljava/util/HashMap$Node;"), ("java/util/HashMap$HashIterator", "current", "Ljava/util/HashMap$Node;"), ("java/util/HashMap$HashIterator", "index", "I")] : List (String × String × String))).map (fun q => q.2.1)).Nodup := by decide +kernel
theorem d13_5 : decode jdk_99_method_1_code 5 = .ok (.aload_n 0, 1) := by decide +kernel
theorem d13_6 : decode jdk_99_method_1_code 6 = .ok (.invokespecial 7, 3) := by decide +kernel
theorem d13_9 : decode jdk_99_method_1_code 9 = .ok (.aload_n 0, 1) := by decide +kernel
theorem d13_10 : decode jdk_99_method_1_code 10 = .ok (.aload_n 1, 1) := by decide +kernel
theorem d13_11 : decode jdk_99_method_1_code 11 = .ok (.getfield 13, 3) := by decide +kernel
theorem d13_14 : decode jdk_99_method_1_code 14 = .ok (.putfield 19, 3) := by decide +kernel
theorem d13_17 : decode jdk_99_method_1_code 17 = .ok (.aload_n 1, 1) := by decide +kernel
theorem d13_18 : decode jdk_99_method_1_code 18 = .ok (.getfield 22, 3) := by decide +kernel
theorem d13_21 : decode jdk_99_method_1_code 21 = .ok (.astore_n 2, 1) := by decide +kernel
theorem d13_22 : decode jdk_99_method_1_code 22 = .ok (.aload_n 0, 1) := by decide +kernel
theorem d13_23 : decode jdk_99_method_1_code 23 = .ok (.aload_n 0, 1) := by decide +kernel
theorem d13_24 : decode jdk_99_method_1_code 24 = .ok (.aconst_null, 1) := by decide +kernel
theorem d13_25 : decode jdk_99_method_1_code 25 = .ok (.dup_x1, 1) := by decide +kernel
theorem d13_26 : decode jdk_99_method_1_code 26 = .ok (.putfield 26, 3) := by decide +kernel
theorem d13_29 : decode jdk_99_method_1_code 29 = .ok (.putfield 30, 3) := by decide +kernel
theorem d13_32 : decode jdk_99_method_1_code 32 = .ok (.aload_n 0, 1) := by decide +kernel
theorem d13_33 : decode jdk_99_method_1_code 33 = .ok (.iconst 0, 1) := by decide +kernel
theorem d13_34 : decode jdk_99_method_1_code 34 = .ok (.putfield 33, 3) := by decide +kernel
theorem d13_37 : decode jdk_99_method_1_code 37 = .ok (.aload_n 2, 1) := by decide +kernel
theorem d13_38 : decode jdk_99_method_1_code 38 = .ok (.ifnull 40, 3) := by decide +kernel
theorem d13_78 : decode jdk_99_method_1_code 78 = .ok (.return_, 1) := by decide +kernel
set_option maxRecDepth 65536 in
set_option maxHeartbeats 40000000 in
theorem rmHI (l : Launch) (Z : State) (a0 : Array Value) (hw : ∀ d ∈ tables_1, d.before a0 Z = true) (t hm es : Addr) (h0 : Heap) (n0 : Nat) (Z0 : n0 ≤ h0.size) (O_t : own_Obj Z h0 t "java/util/HashMap$EntryIterator" [("java/util/HashMap$HashIterator", "this$0", "Ljava/util/HashMap;", .null), ("java/util/HashMap$HashIterator", "expectedModCount", "I", (.int (0 : Int32))), ("java/util/HashMap$HashIterator", "next", "Ljava/util/HashMap$Node;", .null), ("java/util/HashMap$HashIterator", "current", "Ljava/util/HashMap$Node;", .null), ("java/util/HashMap$HashIterator", "index", "I", (.int (0 : Int32)))]) (O_hm : own_Obj Z h0 hm "java/util/HashMap" [("java/util/HashMap", "loadFactor", "F", (.float (1061158912 : UInt32))), ("java/util/HashMap", "entrySet", "Ljava/util/Set;", (.ref es)), ("java/util/HashMap", "modCount", "I", (.int (0 : Int32))), ("java/util/HashMap", "table", "[Ljava/util/HashMap$Node;", .null)]) (f_t : n0 ≤ t) (ne_t_hm : t ≠ hm) (ne_hm_t : hm ≠ t) :
    own_Met l Z (⟨"java/util/HashMap$HashIterator", "<init>", "(Ljava/util/HashMap;)V"⟩ : MethodName) jdk_99_method_1_code 3 none ({ frames := 1, cells := 0, slots := 0, locals := 12 } : Room) #[(.ref t), (.ref hm)] h0 (own_QW t (fun h => own_Obj Z h t "java/util/HashMap$EntryIterator" [("java/util/HashMap$HashIterator", "this$0", "Ljava/util/HashMap;", (.ref hm)), ("java/util/HashMap$HashIterator", "expectedModCount", "I", (.int (0 : Int32))), ("java/util/HashMap$HashIterator", "next", "Ljava/util/HashMap$Node;", .null), ("java/util/HashMap$HashIterator", "current", "Ljava/util/HashMap$Node;", .null), ("java/util/HashMap$HashIterator", "index", "I", (.int (0 : Int32)))]) h0 n0) := by
  refine own_enter (plainFor_of_name own_pn13) (fun m => by first | (simp [entryFrame, mkF, argsToLocals, Value.category, maxLocals]; done) | rfl) (Ls := #[.val (.ref t), .val (.ref hm), .unset]) ?_
  intro p e s m below meth c T0 K X0 e0
  have hx := K.1
  have hZ := K.2.1
  have hby := K.2.2.1
  have hown := K.2.2.2.2.1
  have N0 := Fr.nil n0
  have K0 : Keep h0 h0 [t] := Keep.refl _ _
  show own_Fin p e below _ T0 (mkF m 0 #[.val (.ref t), .val (.ref hm), .unset] [])
  refine own_seg (T' := T0) (g' := (mkF m 2 #[.val (.ref t), .val (.ref hm), .unset] [(.ref hm), (.ref t)])) (fun tg kt => ?_) ?_
  · show Steps p.tables e below (T0.setTop (mkF m 0 #[.val (.ref t), .val (.ref hm), .unset] [])) tg
    refine XS.aloadN X0.here hx rfl (hb hby d13_0) rfl rfl ?_
    show Steps p.tables e below (T0.setTop (mkF m 1 #[.val (.ref t), .val (.ref hm), .unset] [(.ref t)])) tg
    refine XS.aloadN X0.here hx rfl (hb hby d13_1) rfl rfl ?_
    exact kt
  refine own_putF K X0 e0 (host := "") (Or.inl (hw _ (List.mem_of_getElem? (i := 109) rfl))) Via.refl (O_t.get 0 rfl) O_t.exa (Or.inr ⟨(hw _ (List.mem_of_getElem? (i := 110) rfl)), rfl, rfl⟩) (hw _ (List.mem_of_getElem? (i := 97) rfl)) (ty := (.object "java/util/HashMap")) (by decide) rfl rfl d13_2 ?_
  intro T1 h1 X1 e1 W1
  have O_hm_1 : own_Obj Z h1 hm "java/util/HashMap" [("java/util/HashMap", "loadFactor", "F", (.float (1061158912 : UInt32))), ("java/util/HashMap", "entrySet", "Ljava/util/Set;", (.ref es)), ("java/util/HashMap", "modCount", "I", (.int (0 : Int32))), ("java/util/HashMap", "table", "[Ljava/util/HashMap$Node;", .null)] := O_hm.other W1 ne_hm_t
  have O_t_1 : own_Obj Z h1 t "java/util/HashMap$EntryIterator" [("java/util/HashMap$HashIterator", "this$0", "Ljava/util/HashMap;", (.ref hm)), ("java/util/HashMap$HashIterator", "expectedModCount", "I", (.int (0 : Int32))), ("java/util/HashMap$HashIterator", "next", "Ljava/util/HashMap$Node;", .null), ("java/util/HashMap$HashIterator", "current", "Ljava/util/HashMap$Node;", .null), ("java/util/HashMap$HashIterator", "index", "I", (.int (0 : Int32)))] := O_t.put (own_lay_HashMap_EntryIterator hw) rfl own_nd_HashMap_EntryIterator 0 rfl W1
  have Z1 : n0 ≤ h1.size := by rw [Wr.size W1]; exact Z0
  have N1 := Fr.snoc X1 N0 f_t
  have K1 := K0.wr W1 (Or.inl (List.mem_of_getElem? (i := 0) rfl))
  show own_Fin p e below _ T1 (mkF m 5 #[.val (.ref t), .val (.ref hm), .unset] [])
  refine own_seg (T' := T1) (g' := (mkF m 6 #[.val (.ref t), .val (.ref hm), .unset] [(.ref t)])) (fun tg kt => ?_) ?_
  · show Steps p.tables e below (T1.setTop (mkF m 5 #[.val (.ref t), .val (.ref hm), .unset] [])) tg
    refine XS.aloadN X1.here hx rfl (hb hby d13_5) rfl rfl ?_
    exact kt
  refine own_initO K X1 e1 (hw _ (List.mem_of_getElem? (i := 111) rfl)) (hw _ (List.mem_of_getElem? (i := 15) rfl)) (hw _ (List.mem_of_getElem? (i := 16) rfl)) rfl d13_6 (by decide) (Nat.le_of_ble_eq_true rfl) ?_
  intro T2 X2 e2
  show own_Fin p e below _ T2 (mkF m 9 #[.val (.ref t), .val (.ref hm), .unset] [])
  refine own_seg (T' := T2) (g' := (mkF m 11 #[.val (.ref t), .val (.ref hm), .unset] [(.ref hm), (.ref t)])) (fun tg kt => ?_) ?_
  · show Steps p.tables e below (T2.setTop (mkF m 9 #[.val (.ref t), .val (.ref hm), .unset] [])) tg
    refine XS.aloadN X2.here hx rfl (hb hby d13_9) rfl rfl ?_
    show Steps p.tables e below (T2.setTop (mkF m 10 #[.val (.ref t), .val (.ref hm), .unset] [(.ref t)])) tg
    refine XS.aloadN X2.here hx rfl (hb hby d13_10) rfl rfl ?_
    exact kt
  refine own_getF K X2 e2 (host := "") (Or.inl (hw _ (List.mem_of_getElem? (i := 112) rfl))) Via.refl (O_hm_1.get 2 rfl) d13_11 ?_
  intro T3 X3 e3
  show own_Fin p e below _ T3 (mkF m 14 #[.val (.ref t), .val (.ref hm), .unset] [(.int (0 : Int32)), (.ref t)])
  refine own_putF K X3 e3 (host := "") (Or.inl (hw _ (List.mem_of_getElem? (i := 114) rfl))) Via.refl (O_t_1.get 1 rfl) O_t_1.exa (Or.inl (hw _ (List.mem_of_getElem? (i := 115) rfl))) (hw _ (List.mem_of_getElem? (i := 97) rfl)) (ty := .int) (by decide) rfl rfl d13_14 ?_
  intro T4 h4 X4 e4 W4
  have O_hm_4 : own_Obj Z h4 hm "java/util/HashMap" [("java/util/HashMap", "loadFactor", "F", (.float (1061158912 : UInt32))), ("java/util/HashMap", "entrySet", "Ljava/util/Set;", (.ref es)), ("java/util/HashMap", "modCount", "I", (.int (0 : Int32))), ("java/util/HashMap", "table", "[Ljava/util/HashMap$Node;", .null)] := O_hm_1.other W4 ne_hm_t
  have O_t_4 : own_Obj Z h4 t "java/util/HashMap$EntryIterator" [("java/util/HashMap$HashIterator", "this$0", "Ljava/util/HashMap;", (.ref hm)), ("java/util/HashMap$HashIterator", "expectedModCount", "I", (.int (0 : Int32))), ("java/util/HashMap$HashIterator", "next", "Ljava/util/HashMap$Node;", .null), ("java/util/HashMap$HashIterator", "current", "Ljava/util/HashMap$Node;", .null), ("java/util/HashMap$HashIterator", "index", "I", (.int (0 : Int32)))] := O_t_1.put (own_lay_HashMap_EntryIterator hw) rfl own_nd_HashMap_EntryIterator 1 rfl W4
  have Z4 : n0 ≤ h4.size := by rw [Wr.size W4]; exact Z1
  have N4 := Fr.snoc X4 N1 f_t
  have K4 := K1.wr W4 (Or.inl (List.mem_of_getElem? (i := 0) rfl))
  show own_Fin p e below _ T4 (mkF m 17 #[.val (.ref t), .val (.ref hm), .unset] [])
  refine own_seg (T' := T4) (g' := (mkF m 18 #[.val (.ref t), .val (.ref hm), .unset] [(.ref hm)])) (fun tg kt => ?_) ?_
  · show Steps p.tables e below (T4.setTop (mkF m 17 #[.val (.ref t), .val (.ref hm), .unset] [])) tg
    refine XS.aloadN X4.here hx rfl (hb hby d13_17) rfl rfl ?_
    exact kt
  refine own_getF K X4 e4 (host := "") (Or.inl (hw _ (List.mem_of_getElem? (i := 116) rfl))) Via.refl (O_hm_4.get 3 rfl) d13_18 ?_
  intro T5 X5 e5
  show own_Fin p e below _ T5 (mkF m 21 #[.val (.ref t), .val (.ref hm), .unset] [.null])
  refine own_seg (T' := T5) (g' := (mkF m 26 #[.val (.ref t), .val (.ref hm), .val .null] [.null, (.ref t), .null, (.ref t)])) (fun tg kt => ?_) ?_
  · show Steps p.tables e below (T5.setTop (mkF m 21 #[.val (.ref t), .val (.ref hm), .unset] [.null])) tg
    refine XS.astoreN X5.here hx rfl (hb hby d13_21) rfl rfl (l' := #[.val (.ref t), .val (.ref hm), .val .null]) rfl ?_
    show Steps p.tables e below (T5.setTop (mkF m 22 #[.val (.ref t), .val (.ref hm), .val .null] [])) tg
    refine XS.aloadN X5.here hx rfl (hb hby d13_22) rfl rfl ?_
    show Steps p.tables e below (T5.setTop (mkF m 23 #[.val (.ref t), .val (.ref hm), .val .null] [(.ref t)])) tg
    refine XS.aloadN X5.here hx rfl (hb hby d13_23) rfl rfl ?_
    show Steps p.tables e below (T5.setTop (mkF m 24 #[.val (.ref t), .val (.ref hm), .val .null] [(.ref t), (.ref t)])) tg
    refine XS.aconstNull X5.here hx rfl (hb hby d13_24) ?_
    show Steps p.tables e below (T5.setTop (mkF m 25 #[.val (.ref t), .val (.ref hm), .val .null] [.null, (.ref t), (.ref t)])) tg
    refine XS.dupX1 X5.here hx rfl (hb hby d13_25) rfl rfl rfl ?_
    exact kt
  refine own_putF K X5 e5 (host := "") (Or.inl (hw _ (List.mem_of_getElem? (i := 118) rfl))) Via.refl (O_t_4.get 2 rfl) O_t_4.exa (Or.inl (hw _ (List.mem_of_getElem? (i := 119) rfl))) (hw _ (List.mem_of_getElem? (i := 97) rfl)) (ty := (.object "java/util/HashMap$Node")) (by decide) rfl rfl d13_26 ?_
  intro T6 h6 X6 e6 W6
  have O_hm_6 : own_Obj Z h6 hm "java/util/HashMap" [("java/util/HashMap", "loadFactor", "F", (.float (1061158912 : UInt32))), ("java/util/HashMap", "entrySet", "Ljava/util/Set;", (.ref es)), ("java/util/HashMap", "modCount", "I", (.int (0 : Int32))), ("java/util/HashMap", "table", "[Ljava/util/HashMap$Node;", .null)] := O_hm_4.other W6 ne_hm_t
  have O_t_6 : own_Obj Z h6 t "java/util/HashMap$EntryIterator" [("java/util/HashMap$HashIterator", "this$0", "Ljava/util/HashMap;", (.ref hm)), ("java/util/HashMap$HashIterator", "expectedModCount", "I", (.int (0 : Int32))), ("java/util/HashMap$HashIterator", "next", "Ljava/util/HashMap$Node;", .null), ("java/util/HashMap$HashIterator", "current", "Ljava/util/HashMap$Node;", .null), ("java/util/HashMap$HashIterator", "index", "I", (.int (0 : Int32)))] := O_t_4.put (own_lay_HashMap_EntryIterator hw) rfl own_nd_HashMap_EntryIterator 2 rfl W6
  have Z6 : n0 ≤ h6.size := by rw [Wr.size W6]; exact Z4
  have N6 := Fr.snoc X6 N4 f_t
  have K6 := K4.wr W6 (Or.inl (List.mem_of_getElem? (i := 0) rfl))
  show own_Fin p e below _ T6 (mkF m 29 #[.val (.ref t), .val (.ref hm), .val .null] [.null, (.ref t)])
  refine own_putF K X6 e6 (host := "") (Or.inl (hw _ (List.mem_of_getElem? (i := 120) rfl))) Via.refl (O_t_6.get 3 rfl) O_t_6.exa (Or.inl (hw _ (List.mem_of_getElem? (i := 121) rfl))) (hw _ (List.mem_of_getElem? (i := 97) rfl)) (ty := (.object "java/util/HashMap$Node")) (by decide) rfl rfl d13_29 ?_
  intro T7 h7 X7 e7 W7
  have O_hm_7 : own_Obj Z h7 hm "java/util/HashMap" [("java/util/HashMap", "loadFactor", "F", (.float (1061158912 : UInt32))), ("java/util/HashMap", "entrySet", "Ljava/util/Set;", (.ref es)), ("java/util/HashMap", "modCount", "I", (.int (0 : Int32))), ("java/util/HashMap", "table", "[Ljava/util/HashMap$Node;", .null)] := O_hm_6.other W7 ne_hm_t
  have O_t_7 : own_Obj Z h7 t "java/util/HashMap$EntryIterator" [("java/util/HashMap$HashIterator", "this$0", "Ljava/util/HashMap;", (.ref hm)), ("java/util/HashMap$HashIterator", "expectedModCount", "I", (.int (0 : Int32))), ("java/util/HashMap$HashIterator", "next", "Ljava/util/HashMap$Node;", .null), ("java/util/HashMap$HashIterator", "current", "Ljava/util/HashMap$Node;", .null), ("java/util/HashMap$HashIterator", "index", "I", (.int (0 : Int32)))] := O_t_6.put (own_lay_HashMap_EntryIterator hw) rfl own_nd_HashMap_EntryIterator 3 rfl W7
  have Z7 : n0 ≤ h7.size := by rw [Wr.size W7]; exact Z6
  have N7 := Fr.snoc X7 N6 f_t
  have K7 := K6.wr W7 (Or.inl (List.mem_of_getElem? (i := 0) rfl))
  show own_Fin p e below _ T7 (mkF m 32 #[.val (.ref t), .val (.ref hm), .val .null] [])
  refine own_seg (T' := T7) (g' := (mkF m 34 #[.val (.ref t), .val (.ref hm), .val .null] [(.int (0 : Int32)), (.ref t)])) (fun tg kt => ?_) ?_
  · show Steps p.tables e below (T7.setTop (mkF m 32 #[.val (.ref t), .val (.ref hm), .val .null] [])) tg
    refine XS.aloadN X7.here hx rfl (hb hby d13_32) rfl rfl ?_
    show Steps p.tables e below (T7.setTop (mkF m 33 #[.val (.ref t), .val (.ref hm), .val .null] [(.ref t)])) tg
    refine XS.iconst X7.here hx rfl (hb hby d13_33) ?_
    exact kt
  refine own_putF K X7 e7 (host := "") (Or.inl (hw _ (List.mem_of_getElem? (i := 122) rfl))) Via.refl (O_t_7.get 4 rfl) O_t_7.exa (Or.inl (hw _ (List.mem_of_getElem? (i := 123) rfl))) (hw _ (List.mem_of_getElem? (i := 97) rfl)) (ty := .int) (by decide) rfl rfl d13_34 ?_
  intro T8 h8 X8 e8 W8
  have O_hm_8 : own_Obj Z h8 hm "java/util/HashMap" [("java/util/HashMap", "loadFactor", "F", (.float (1061158912 : UInt32))), ("java/util/HashMap", "entrySet", "Ljava/util/Set;", (.ref es)), ("java/util/HashMap", "modCount", "I", (.int (0 : Int32))), ("java/util/HashMap", "table", "[Ljava/util/HashMap$Node;", .null)] := O_hm_7.other W8 ne_hm_t
  have O_t_8 : own_Obj Z h8 t "java/util/HashMap$EntryIterator" [("java/util/HashMap$HashIterator", "this$0", "Ljava/util/HashMap;", (.ref hm)), ("java/util/HashMap$HashIterator", "expectedModCount", "I", (.int (0 : Int32))), ("java/util/HashMap$HashIterator", "next", "Ljava/util/HashMap$Node;", .null), ("java/util/HashMap$HashIterator", "current", "Ljava/util/HashMap$Node;", .null), ("java/util/HashMap$HashIterator", "index", "I", (.int (0 : Int32)))] := O_t_7.put (own_lay_HashMap_EntryIterator hw) rfl own_nd_HashMap_EntryIterator 4 rfl W8
  have Z8 : n0 ≤ h8.size := by rw [Wr.size W8]; exact Z7
  have N8 := Fr.snoc X8 N7 f_t
  have K8 := K7.wr W8 (Or.inl (List.mem_of_getElem? (i := 0) rfl))
  show own_Fin p e below _ T8 (mkF m 37 #[.val (.ref t), .val (.ref hm), .val .null] [])
  refine own_seg (T' := T8) (g' := (mkF m 78 #[.val (.ref t), .val (.ref hm), .val .null] [])) (fun tg kt => ?_) ?_
  · show Steps p.tables e below (T8.setTop (mkF m 37 #[.val (.ref t), .val (.ref hm), .val .null] [])) tg
    refine XS.aloadN X8.here hx rfl (hb hby d13_37) rfl rfl ?_
    show Steps p.tables e below (T8.setTop (mkF m 38 #[.val (.ref t), .val (.ref hm), .val .null] [.null])) tg
    refine XS.ifnullYes X8.here hx rfl (pc0 := 38) (pc' := 78) rfl (hb hby d13_38) rfl (by decide) (by decide) ?_
    exact kt
  exact own_retV K X8 d13_78 (by rw [e8]; exact ⟨rfl, N8, K8, O_t_8⟩) (by decide) (by decide)
theorem own_pn12 : plainName "java/util/HashMap$EntryIterator" = true := by first | (simp [plainName, overriddenIn]; done) | decide +kernel
theorem d12_0 : decode jdk_142_method_1_code 0 = .ok (.aload_n 0, 1) := by decide +kernel
theorem d12_1 : decode jdk_142_method_1_code 1 = .ok (.aload_n 1, 1) := by decide +kernel
theorem d12_2 : decode jdk_142_method_1_code 2 = .ok (.invokespecial 1, 3) := by decide +kernel
theorem d12_5 : decode jdk_142_method_1_code 5 = .ok (.return_, 1) := by decide +kernel
set_option maxRecDepth 65536 in
set_option maxHeartbeats 40000000 in
theorem rmEJ (l : Launch) (Z : State) (a0 : Array Value) (hw : ∀ d ∈ tables_1, d.before a0 Z = true) (t hm es : Addr) (h0 : Heap) (n0 : Nat) (Z0 : n0 ≤ h0.size) (O_t : own_Obj Z h0 t "java/util/HashMap$EntryIterator" [("java/util/HashMap$HashIterator", "this$0", "Ljava/util/HashMap;", .null), ("java/util/HashMap$HashIterator", "expectedModCount", "I", (.int (0 : Int32))), ("java/util/HashMap$HashIterator", "next", "Ljava/util/HashMap$Node;", .null), ("java/util/HashMap$HashIterator", "current", "Ljava/util/HashMap$Node;", .null), ("java/util/HashMap$HashIterator", "index", "I", (.int (0 : Int32)))]) (O_hm : own_Obj Z h0 hm "java/util/HashMap" [("java/util/HashMap", "loadFactor", "F", (.float (1061158912 : UInt32))), ("java/util/HashMap", "entrySet", "Ljava/util/Set;", (.ref es)), ("java/util/HashMap", "modCount", "I", (.int (0 : Int32))), ("java/util/HashMap", "table", "[Ljava/util/HashMap$Node;", .null)]) (f_t : n0 ≤ t) (ne_t_hm : t ≠ hm) (ne_hm_t : hm ≠ t) :
    own_Met l Z (⟨"java/util/HashMap$EntryIterator", "<init>", "(Ljava/util/HashMap;)V"⟩ : MethodName) jdk_142_method_1_code 2 none ({ frames := 2, cells := 0, slots := 0, locals := 30 } : Room) #[(.ref t), (.ref hm)] h0 (own_QW t (fun h => own_Obj Z h t "java/util/HashMap$EntryIterator" [("java/util/HashMap$HashIterator", "this$0", "Ljava/util/HashMap;", (.ref hm)), ("java/util/HashMap$HashIterator", "expectedModCount", "I", (.int (0 : Int32))), ("java/util/HashMap$HashIterator", "next", "Ljava/util/HashMap$Node;", .null), ("java/util/HashMap$HashIterator", "current", "Ljava/util/HashMap$Node;", .null), ("java/util/HashMap$HashIterator", "index", "I", (.int (0 : Int32)))]) h0 n0) := by
  refine own_enter (plainFor_of_name own_pn12) (fun m => by first | (simp [entryFrame, mkF, argsToLocals, Value.category, maxLocals]; done) | rfl) (Ls := #[.val (.ref t), .val (.ref hm)]) ?_
  intro p e s m below meth c T0 K X0 e0
  have hx := K.1
  have hZ := K.2.1
  have hby := K.2.2.1
  have hown := K.2.2.2.2.1
  have N0 := Fr.nil n0
  have K0 : Keep h0 h0 [t] := Keep.refl _ _
  show own_Fin p e below _ T0 (mkF m 0 #[.val (.ref t), .val (.ref hm)] [])
  refine own_seg (T' := T0) (g' := (mkF m 2 #[.val (.ref t), .val (.ref hm)] [(.ref hm), (.ref t)])) (fun tg kt => ?_) ?_
  · show Steps p.tables e below (T0.setTop (mkF m 0 #[.val (.ref t), .val (.ref hm)] [])) tg
    refine XS.aloadN X0.here hx rfl (hb hby d12_0) rfl rfl ?_
    show Steps p.tables e below (T0.setTop (mkF m 1 #[.val (.ref t), .val (.ref hm)] [(.ref t)])) tg
    refine XS.aloadN X0.here hx rfl (hb hby d12_1) rfl rfl ?_
    exact kt
  refine own_callI K X0 e0 (rmHI l Z a0 hw t hm es h0 n0 Z0 O_t O_hm f_t ne_t_hm ne_hm_t) rfl (hw _ (List.mem_of_getElem? (i := 103) rfl)) (hw _ (List.mem_of_getElem? (i := 104) rfl)) (hw _ (List.mem_of_getElem? (i := 107) rfl)) (hw _ (List.mem_of_getElem? (i := 108) rfl)) (by decide) t [(.ref hm)] [] own_pd1 rfl rfl rfl rfl d12_2 (by decide) (Nat.le_of_ble_eq_true rfl) (by decide) (by decide) ?_
  intro T1 L1 v1 X1 hQ1
  obtain ⟨h1, e1⟩ : ∃ z, T1.heap = z := ⟨_, rfl⟩
  rw [e1] at hQ1
  obtain ⟨rfl, Nq1, Kq1, Oq1_t⟩ := hQ1
  have N1 := Fr.app N0 Nq1
  have O_hm_1 : own_Obj Z h1 hm "java/util/HashMap" [("java/util/HashMap", "loadFactor", "F", (.float (1061158912 : UInt32))), ("java/util/HashMap", "entrySet", "Ljava/util/Set;", (.ref es)), ("java/util/HashMap", "modCount", "I", (.int (0 : Int32))), ("java/util/HashMap", "table", "[Ljava/util/HashMap$Node;", .null)] := O_hm.keep Kq1 (ninS ne_hm_t nin0)
  have Z1 : n0 ≤ h1.size := Nat.le_trans Z0 Kq1.1
  have K1 := Keep.trans K0 Kq1 (allS (Or.inl (List.mem_of_getElem? (i := 0) rfl)) all0)
  show own_Fin p e below _ T1 (mkF m 5 #[.val (.ref t), .val (.ref hm)] [])
  exact own_retV K X1 d12_5 (by rw [e1]; exact ⟨rfl, N1, K1, Oq1_t⟩) (by decide) (by decide)
theorem own_pn11 : plainName "java/util/HashMap$EntrySet" = true := by first | (simp [plainName, overriddenIn]; done) | decide +kernel
theorem d11_0 : decode jdk_111_method_4_code 0 = .ok (.new 22, 3) := by decide +kernel
theorem d11_3 : decode jdk_111_method_4_code 3 = .ok (.dup, 1) := by decide +kernel
theorem d11_4 : decode jdk_111_method_4_code 4 = .ok (.aload_n 0, 1) := by decide +kernel
theorem d11_5 : decode jdk_111_method_4_code 5 = .ok (.getfield 1, 3) := by decide +kernel
theorem d11_8 : decode jdk_111_method_4_code 8 = .ok (.invokespecial 24, 3) := by decide +kernel
theorem d11_11 : decode jdk_111_method_4_code 11 = .ok (.areturn, 1) := by decide +kernel
set_option maxRecDepth 65536 in
set_option maxHeartbeats 40000000 in
theorem rmIT (l : Launch) (Z : State) (a0 : Array Value) (hw : ∀ d ∈ tables_1, d.before a0 Z = true) (es hm : Addr) (h0 : Heap) (n0 : Nat) (Z0 : n0 ≤ h0.size) (O_es : own_Obj Z h0 es "java/util/HashMap$EntrySet" [("java/util/HashMap$EntrySet", "this$0", "Ljava/util/HashMap;", (.ref hm))]) (O_hm : own_Obj Z h0 hm "java/util/HashMap" [("java/util/HashMap", "loadFactor", "F", (.float (1061158912 : UInt32))), ("java/util/HashMap", "entrySet", "Ljava/util/Set;", (.ref es)), ("java/util/HashMap", "modCount", "I", (.int (0 : Int32))), ("java/util/HashMap", "table", "[Ljava/util/HashMap$Node;", .null)]) :
    own_Met l Z (⟨"java/util/HashMap$EntrySet", "iterator", "()Ljava/util/Iterator;"⟩ : MethodName) jdk_111_method_4_code 1 (some (.object "java/util/Iterator")) ({ frames := 3, cells := 1, slots := 5, locals := 50 } : Room) #[(.ref es)] h0 (own_QN [] (fun b h => own_Obj Z h b "java/util/HashMap$EntryIterator" [("java/util/HashMap$HashIterator", "this$0", "Ljava/util/HashMap;", (.ref hm)), ("java/util/HashMap$HashIterator", "expectedModCount", "I", (.int (0 : Int32))), ("java/util/HashMap$HashIterator", "next", "Ljava/util/HashMap$Node;", .null), ("java/util/HashMap$HashIterator", "current", "Ljava/util/HashMap$Node;", .null), ("java/util/HashMap$HashIterator", "index", "I", (.int (0 : Int32)))]) h0 n0) := by
  refine own_enter (plainFor_of_name own_pn11) (fun m => by first | (simp [entryFrame, mkF, argsToLocals, Value.category, maxLocals]; done) | rfl) (Ls := #[.val (.ref es)]) ?_
  intro p e s m below meth c T0 K X0 e0
  have hx := K.1
  have hZ := K.2.1
  have hby := K.2.2.1
  have hown := K.2.2.2.2.1
  have N0 := Fr.nil n0
  have K0 : Keep h0 h0 [] := Keep.refl _ _
  show own_Fin p e below _ T0 (mkF m 0 #[.val (.ref es)] [])
  refine own_newO K X0 e0 (hw _ (List.mem_of_getElem? (i := 96) rfl)) (hw _ (List.mem_of_getElem? (i := 97) rfl)) (hw _ (List.mem_of_getElem? (i := 98) rfl)) d11_0 (by decide) (by decide) ?_
  intro T1 h1 b1 g1 X1 e1 E1 A1 D1
  have ne_es_b1 : es ≠ b1 := Nat.ne_of_lt (Nat.lt_of_lt_of_eq O_es.lt g1.symm)
  have ne_b1_es := ne_es_b1.symm
  have ne_hm_b1 : hm ≠ b1 := Nat.ne_of_lt (Nat.lt_of_lt_of_eq O_hm.lt g1.symm)
  have ne_b1_hm := ne_hm_b1.symm
  have O_es_1 : own_Obj Z h1 es "java/util/HashMap$EntrySet" [("java/util/HashMap$EntrySet", "this$0", "Ljava/util/HashMap;", (.ref hm))] := O_es.ext E1
  have O_hm_1 : own_Obj Z h1 hm "java/util/HashMap" [("java/util/HashMap", "loadFactor", "F", (.float (1061158912 : UInt32))), ("java/util/HashMap", "entrySet", "Ljava/util/Set;", (.ref es)), ("java/util/HashMap", "modCount", "I", (.int (0 : Int32))), ("java/util/HashMap", "table", "[Ljava/util/HashMap$Node;", .null)] := O_hm.ext E1
  have f_b1 : n0 ≤ b1 := Nat.le_trans Z0 (Nat.le_of_eq g1.symm)
  have Z1 : n0 ≤ h1.size := Nat.le_trans Z0 E1.1
  have sz_b1 : h0.size ≤ b1 := Nat.le_trans K0.1 (Nat.le_of_eq g1.symm)
  have K1 := K0.ext E1
  have O_b1_1 : own_Obj Z h1 b1 "java/util/HashMap$EntryIterator" [("java/util/HashMap$HashIterator", "this$0", "Ljava/util/HashMap;", .null), ("java/util/HashMap$HashIterator", "expectedModCount", "I", (.int (0 : Int32))), ("java/util/HashMap$HashIterator", "next", "Ljava/util/HashMap$Node;", .null), ("java/util/HashMap$HashIterator", "current", "Ljava/util/HashMap$Node;", .null), ("java/util/HashMap$HashIterator", "index", "I", (.int (0 : Int32)))] := ⟨A1, by
    intro q hq
    simp only [List.mem_cons, List.not_mem_nil, or_false] at hq
    rcases hq with rfl | rfl | rfl | rfl | rfl
    · exact D1 (Or.inr (hw _ (List.mem_of_getElem? (i := 110) rfl))) (ty := (.object "java/util/HashMap")) (by decide)
    · exact D1 (Or.inl (hw _ (List.mem_of_getElem? (i := 115) rfl))) (ty := .int) (by decide)
    · exact D1 (Or.inl (hw _ (List.mem_of_getElem? (i := 119) rfl))) (ty := (.object "java/util/HashMap$Node")) (by decide)
    · exact D1 (Or.inl (hw _ (List.mem_of_getElem? (i := 121) rfl))) (ty := (.object "java/util/HashMap$Node")) (by decide)
    · exact D1 (Or.inl (hw _ (List.mem_of_getElem? (i := 123) rfl))) (ty := .int) (by decide)⟩
  show own_Fin p e below _ T1 (mkF m 3 #[.val (.ref es)] [(.ref b1)])
  refine own_seg (T' := T1) (g' := (mkF m 5 #[.val (.ref es)] [(.ref es), (.ref b1), (.ref b1)])) (fun tg kt => ?_) ?_
  · show Steps p.tables e below (T1.setTop (mkF m 3 #[.val (.ref es)] [(.ref b1)])) tg
    refine XS.dup X1.here hx rfl (hb hby d11_3) rfl rfl ?_
    show Steps p.tables e below (T1.setTop (mkF m 4 #[.val (.ref es)] [(.ref b1), (.ref b1)])) tg
    refine XS.aloadN X1.here hx rfl (hb hby d11_4) rfl rfl ?_
    exact kt
  refine own_getF K X1 e1 (host := "") (Or.inl (hw _ (List.mem_of_getElem? (i := 72) rfl))) Via.refl (O_es_1.get 0 rfl) d11_5 ?_
  intro T2 X2 e2
  show own_Fin p e below _ T2 (mkF m 8 #[.val (.ref es)] [(.ref hm), (.ref b1), (.ref b1)])
  refine own_callI K X2 e2 (rmEJ l Z a0 hw b1 hm es h1 n0 Z1 O_b1_1 O_hm_1 f_b1 ne_b1_hm ne_hm_b1) rfl (hw _ (List.mem_of_getElem? (i := 99) rfl)) (hw _ (List.mem_of_getElem? (i := 100) rfl)) (hw _ (List.mem_of_getElem? (i := 98) rfl)) (hw _ (List.mem_of_getElem? (i := 102) rfl)) (by decide) b1 [(.ref hm)] [(.ref b1)] own_pd1 rfl rfl rfl rfl d11_8 (by decide) (Nat.le_of_ble_eq_true rfl) (by decide) (by decide) ?_
  intro T3 L3 v3 X3 hQ3
  obtain ⟨h3, e3⟩ : ∃ z, T3.heap = z := ⟨_, rfl⟩
  rw [e3] at hQ3
  obtain ⟨rfl, Nq3, Kq3, Oq3_b1⟩ := hQ3
  have N3 := Fr.app N0 Nq3
  have O_es_3 : own_Obj Z h3 es "java/util/HashMap$EntrySet" [("java/util/HashMap$EntrySet", "this$0", "Ljava/util/HashMap;", (.ref hm))] := O_es_1.keep Kq3 (ninS ne_es_b1 nin0)
  have O_hm_3 : own_Obj Z h3 hm "java/util/HashMap" [("java/util/HashMap", "loadFactor", "F", (.float (1061158912 : UInt32))), ("java/util/HashMap", "entrySet", "Ljava/util/Set;", (.ref es)), ("java/util/HashMap", "modCount", "I", (.int (0 : Int32))), ("java/util/HashMap", "table", "[Ljava/util/HashMap$Node;", .null)] := O_hm_1.keep Kq3 (ninS ne_hm_b1 nin0)
  have Z3 : n0 ≤ h3.size := Nat.le_trans Z1 Kq3.1
  have K3 := Keep.trans K1 Kq3 (allS (Or.inr sz_b1) all0)
  show own_Fin p e below _ T3 (mkF m 11 #[.val (.ref es)] [(.ref b1)])
  exact own_retA K rfl X3 rfl d11_11 (by rw [e3]; exact ⟨b1, rfl, N3, K3, Oq3_b1, sz_b1⟩) (by decide) (by decide)
theorem own_pn14 : plainName "java/util/HashMap$HashIterator" = true := by first | (simp [plainName, overriddenIn]; done) | decide +kernel
theorem d14_0 : decode jdk_99_method_2_code 0 = .ok (.aload_n 0, 1) := by decide +kernel
theorem d14_1 : decode jdk_99_method_2_code 1 = .ok (.getfield 26, 3) := by decide +kernel
theorem d14_4 : decode jdk_99_method_2_code 4 = .ok (.ifnull 7, 3) := by decide +kernel
theorem d14_11 : decode jdk_99_method_2_code 11 = .ok (.iconst 0, 1) := by decide +kernel
theorem d14_12 : decode jdk_99_method_2_code 12 = .ok (.ireturn, 1) := by decide +kernel
set_option maxRecDepth 65536 in
set_option maxHeartbeats 40000000 in
theorem rmHN (l : Launch) (Z : State) (a0 : Array Value) (hw : ∀ d ∈ tables_1, d.before a0 Z = true) (t hm : Addr) (h0 : Heap) (n0 : Nat) (Z0 : n0 ≤ h0.size) (O_t : own_Obj Z h0 t "java/util/HashMap$EntryIterator" [("java/util/HashMap$HashIterator", "this$0", "Ljava/util/HashMap;", (.ref hm)), ("java/util/HashMap$HashIterator", "expectedModCount", "I", (.int (0 : Int32))), ("java/util/HashMap$HashIterator", "next", "Ljava/util/HashMap$Node;", .null), ("java/util/HashMap$HashIterator", "current", "Ljava/util/HashMap$Node;", .null), ("java/util/HashMap$HashIterator", "index", "I", (.int (0 : Int32)))]) :
    own_Met l Z (⟨"java/util/HashMap$HashIterator", "hasNext", "()Z"⟩ : MethodName) jdk_99_method_2_code 1 (some .boolean) ({ frames := 0, cells := 0, slots := 0, locals := 0 } : Room) #[(.ref t)] h0 (own_QI (0 : Int32) h0 n0) := by
  refine own_enter (plainFor_of_name own_pn14) (fun m => by first | (simp [entryFrame, mkF, argsToLocals, Value.category, maxLocals]; done) | rfl) (Ls := #[.val (.ref t)]) ?_
  intro p e s m below meth c T0 K X0 e0
  have hx := K.1
  have hZ := K.2.1
  have hby := K.2.2.1
  have hown := K.2.2.2.2.1
  have N0 := Fr.nil n0
  show own_Fin p e below _ T0 (mkF m 0 #[.val (.ref t)] [])
  refine own_seg (T' := T0) (g' := (mkF m 1 #[.val (.ref t)] [(.ref t)])) (fun tg kt => ?_) ?_
  · show Steps p.tables e below (T0.setTop (mkF m 0 #[.val (.ref t)] [])) tg
    refine XS.aloadN X0.here hx rfl (hb hby d14_0) rfl rfl ?_
    exact kt
  refine own_getF K X0 e0 (host := "") (Or.inl (hw _ (List.mem_of_getElem? (i := 118) rfl))) Via.refl (O_t.get 2 rfl) d14_1 ?_
  intro T1 X1 e1
  show own_Fin p e below _ T1 (mkF m 4 #[.val (.ref t)] [.null])
  refine own_seg (T' := T1) (g' := (mkF m 12 #[.val (.ref t)] [(.int (0 : Int32))])) (fun tg kt => ?_) ?_
  · show Steps p.tables e below (T1.setTop (mkF m 4 #[.val (.ref t)] [.null])) tg
    refine XS.ifnullYes X1.here hx rfl (pc0 := 4) (pc' := 11) rfl (hb hby d14_4) rfl (by decide) (by decide) ?_
    show Steps p.tables e below (T1.setTop (mkF m 11 #[.val (.ref t)] [])) tg
    refine XS.iconst X1.here hx rfl (hb hby d14_11) ?_
    exact kt
  exact own_retN K (by simp) X1 d14_12 (⟨rfl, N0, e1⟩) (by decide) (by decide)
theorem own_pn5 : plainName "java/util/Objects" = true := by first | (simp [plainName, overriddenIn]; done) | decide +kernel
theorem d5_0 : decode jdk_31_method_11_code 0 = .ok (.aload_n 0, 1) := by decide +kernel
theorem d5_1 : decode jdk_31_method_11_code 1 = .ok (.ifnonnull 12, 3) := by decide +kernel
theorem d5_13 : decode jdk_31_method_11_code 13 = .ok (.aload_n 0, 1) := by decide +kernel
theorem d5_14 : decode jdk_31_method_11_code 14 = .ok (.areturn, 1) := by decide +kernel
set_option maxRecDepth 65536 in
set_option maxHeartbeats 40000000 in
theorem rmRN (l : Launch) (Z : State) (a0 : Array Value) (hw : ∀ d ∈ tables_1, d.before a0 Z = true) (x_ y_ : Addr) (h0 : Heap) (n0 : Nat) (Z0 : n0 ≤ h0.size)  :
    own_Met l Z (⟨"java/util/Objects", "requireNonNull", "(Ljava/lang/Object;Ljava/lang/String;)Ljava/lang/Object;"⟩ : MethodName) jdk_31_method_11_code 2 (some (.object "java/lang/Object")) ({ frames := 0, cells := 0, slots := 0, locals := 0 } : Room) #[(.ref x_), (.ref y_)] h0 (own_QR (.ref x_) h0 n0) := by
  refine own_enter (plainFor_of_name own_pn5) (fun m => by first | (simp [entryFrame, mkF, argsToLocals, Value.category, maxLocals]; done) | rfl) (Ls := #[.val (.ref x_), .val (.ref y_)]) ?_
  intro p e s m below meth c T0 K X0 e0
  have hx := K.1
  have hZ := K.2.1
  have hby := K.2.2.1
  have hown := K.2.2.2.2.1
  have N0 := Fr.nil n0
  show own_Fin p e below _ T0 (mkF m 0 #[.val (.ref x_), .val (.ref y_)] [])
  refine own_seg (T' := T0) (g' := (mkF m 14 #[.val (.ref x_), .val (.ref y_)] [(.ref x_)])) (fun tg kt => ?_) ?_
  · show Steps p.tables e below (T0.setTop (mkF m 0 #[.val (.ref x_), .val (.ref y_)] [])) tg
    refine XS.aloadN X0.here hx rfl (hb hby d5_0) rfl rfl ?_
    show Steps p.tables e below (T0.setTop (mkF m 1 #[.val (.ref x_), .val (.ref y_)] [(.ref x_)])) tg
    refine XS.ifnonnullYes X0.here hx rfl (pc0 := 1) (pc' := 13) rfl (hb hby d5_1) rfl (by decide) (by decide) ?_
    show Steps p.tables e below (T0.setTop (mkF m 13 #[.val (.ref x_), .val (.ref y_)] [])) tg
    refine XS.aloadN X0.here hx rfl (hb hby d5_13) rfl rfl ?_
    exact kt
  exact own_retA K rfl X0 rfl d5_14 (⟨rfl, N0, e0⟩) (by decide) (by decide)
theorem own_pn16 : plainName "java/util/Collections$UnmodifiableMap" = true := by first | (simp [plainName, overriddenIn]; done) | decide +kernel
theorem d16_0 : decode jdk_2500_method_1_code 0 = .ok (.aload_n 0, 1) := by decide +kernel
theorem d16_1 : decode jdk_2500_method_1_code 1 = .ok (.invokespecial 1, 3) := by decide +kernel
theorem d16_4 : decode jdk_2500_method_1_code 4 = .ok (.aload_n 1, 1) := by decide +kernel
theorem d16_5 : decode jdk_2500_method_1_code 5 = .ok (.ifnonnull 11, 3) := by decide +kernel
theorem d16_16 : decode jdk_2500_method_1_code 16 = .ok (.aload_n 0, 1) := by decide +kernel
theorem d16_17 : decode jdk_2500_method_1_code 17 = .ok (.aload_n 1, 1) := by decide +kernel
theorem d16_18 : decode jdk_2500_method_1_code 18 = .ok (.putfield 10, 3) := by decide +kernel
theorem own_lay_Collections_UnmodifiableMap {Z : State} {a0 : Array Value} (hw : ∀ d ∈ tables_1, d.before a0 Z = true) : own_Lay Z a0 "java/util/Collections$UnmodifiableMap" [("java/util/Collections$UnmodifiableMap", "m", "Ljava/util/Map;")] := by
  intro q hq
  simp only [List.mem_cons, List.not_mem_nil, or_false] at hq
  rcases hq with rfl
  · exact ⟨Or.inr (hw _ (List.mem_of_getElem? (i := 158) rfl)), _, (by decide : parseFieldDescriptor "Ljava/util/Map;" = some (.object "java/util/Map"))⟩
theorem own_nd_Collections_UnmodifiableMap : ((([("java/util/Collections$UnmodifiableMap", "m", "Ljava/util/Map;")] : List (String × String × String))).map (fun q => q.2.1)).Nodup := by decide +kernel
theorem d16_21 : decode jdk_2500_method_1_code 21 = .ok (.return_, 1) := by decide +kernel
set_option maxRecDepth 65536 in
set_option maxHeartbeats 40000000 in
theorem rmUI (l : Launch) (Z : State) (a0 : Array Value) (hw : ∀ d ∈ tables_1, d.before a0 Z = true) (t lm : Addr) (h0 : Heap) (n0 : Nat) (Z0 : n0 ≤ h0.size) (O_t : own_Obj Z h0 t "java/util/Collections$UnmodifiableMap" [("java/util/Collections$UnmodifiableMap", "m", "Ljava/util/Map;", .null)]) (f_t : n0 ≤ t) :
    own_Met l Z (⟨"java/util/Collections$UnmodifiableMap", "<init>", "(Ljava/util/Map;)V"⟩ : MethodName) jdk_2500_method_1_code 2 none ({ frames := 1, cells := 0, slots := 0, locals := 12 } : Room) #[(.ref t), (.ref lm)] h0 (own_QW t (fun h => own_Obj Z h t "java/util/Collections$UnmodifiableMap" [("java/util/Collections$UnmodifiableMap", "m", "Ljava/util/Map;", (.ref lm))]) h0 n0) := by
  refine own_enter (plainFor_of_name own_pn16) (fun m => by first | (simp [entryFrame, mkF, argsToLocals, Value.category, maxLocals]; done) | rfl) (Ls := #[.val (.ref t), .val (.ref lm)]) ?_
  intro p e s m below meth c T0 K X0 e0
  have hx := K.1
  have hZ := K.2.1
  have hby := K.2.2.1
  have hown := K.2.2.2.2.1
  have N0 := Fr.nil n0
  have K0 : Keep h0 h0 [t] := Keep.refl _ _
  show own_Fin p e below _ T0 (mkF m 0 #[.val (.ref t), .val (.ref lm)] [])
  refine own_seg (T' := T0) (g' := (mkF m 1 #[.val (.ref t), .val (.ref lm)] [(.ref t)])) (fun tg kt => ?_) ?_
  · show Steps p.tables e below (T0.setTop (mkF m 0 #[.val (.ref t), .val (.ref lm)] [])) tg
    refine XS.aloadN X0.here hx rfl (hb hby d16_0) rfl rfl ?_
    exact kt
  refine own_initO K X0 e0 (hw _ (List.mem_of_getElem? (i := 156) rfl)) (hw _ (List.mem_of_getElem? (i := 15) rfl)) (hw _ (List.mem_of_getElem? (i := 16) rfl)) rfl d16_1 (by decide) (Nat.le_of_ble_eq_true rfl) ?_
  intro T1 X1 e1
  show own_Fin p e below _ T1 (mkF m 4 #[.val (.ref t), .val (.ref lm)] [])
  refine own_seg (T' := T1) (g' := (mkF m 18 #[.val (.ref t), .val (.ref lm)] [(.ref lm), (.ref t)])) (fun tg kt => ?_) ?_
  · show Steps p.tables e below (T1.setTop (mkF m 4 #[.val (.ref t), .val (.ref lm)] [])) tg
    refine XS.aloadN X1.here hx rfl (hb hby d16_4) rfl rfl ?_
    show Steps p.tables e below (T1.setTop (mkF m 5 #[.val (.ref t), .val (.ref lm)] [(.ref lm)])) tg
    refine XS.ifnonnullYes X1.here hx rfl (pc0 := 5) (pc' := 16) rfl (hb hby d16_5) rfl (by decide) (by decide) ?_
    show Steps p.tables e below (T1.setTop (mkF m 16 #[.val (.ref t), .val (.ref lm)] [])) tg
    refine XS.aloadN X1.here hx rfl (hb hby d16_16) rfl rfl ?_
    show Steps p.tables e below (T1.setTop (mkF m 17 #[.val (.ref t), .val (.ref lm)] [(.ref t)])) tg
    refine XS.aloadN X1.here hx rfl (hb hby d16_17) rfl rfl ?_
    exact kt
  refine own_putF K X1 e1 (host := "") (Or.inl (hw _ (List.mem_of_getElem? (i := 157) rfl))) Via.refl (O_t.get 0 rfl) O_t.exa (Or.inr ⟨(hw _ (List.mem_of_getElem? (i := 158) rfl)), rfl, rfl⟩) (hw _ (List.mem_of_getElem? (i := 151) rfl)) (ty := (.object "java/util/Map")) (by decide) rfl rfl d16_18 ?_
  intro T2 h2 X2 e2 W2
  have O_t_2 : own_Obj Z h2 t "java/util/Collections$UnmodifiableMap" [("java/util/Collections$UnmodifiableMap", "m", "Ljava/util/Map;", (.ref lm))] := O_t.put (own_lay_Collections_UnmodifiableMap hw) rfl own_nd_Collections_UnmodifiableMap 0 rfl W2
  have Z2 : n0 ≤ h2.size := by rw [Wr.size W2]; exact Z0
  have N2 := Fr.snoc X2 N0 f_t
  have K2 := K0.wr W2 (Or.inl (List.mem_of_getElem? (i := 0) rfl))
  show own_Fin p e below _ T2 (mkF m 21 #[.val (.ref t), .val (.ref lm)] [])
  exact own_retV K X2 d16_21 (by rw [e2]; exact ⟨rfl, N2, K2, O_t_2⟩) (by decide) (by decide)
theorem own_pn15 : plainName "java/util/Collections" = true := by first | (simp [plainName, overriddenIn]; done) | decide +kernel
theorem d15_0 : decode jdk_79_method_36_code 0 = .ok (.aload_n 0, 1) := by decide +kernel
theorem d15_1 : decode jdk_79_method_36_code 1 = .ok (.invokeinterface 220 1, 5) := by decide +kernel
theorem d15_6 : decode jdk_79_method_36_code 6 = .ok (.ldc 223, 2) := by decide +kernel
theorem d15_8 : decode jdk_79_method_36_code 8 = .ok (.if_acmp .ne 5, 3) := by decide +kernel
theorem d15_13 : decode jdk_79_method_36_code 13 = .ok (.new 223, 3) := by decide +kernel
theorem d15_16 : decode jdk_79_method_36_code 16 = .ok (.dup, 1) := by decide +kernel
theorem d15_17 : decode jdk_79_method_36_code 17 = .ok (.aload_n 0, 1) := by decide +kernel
theorem d15_18 : decode jdk_79_method_36_code 18 = .ok (.invokespecial 225, 3) := by decide +kernel
theorem own_pd2 : parseMethodDescriptor "(Ljava/util/Map;)V" = some ⟨[(.object "java/util/Map")], none⟩ := by decide +kernel
theorem d15_21 : decode jdk_79_method_36_code 21 = .ok (.areturn, 1) := by decide +kernel
set_option maxRecDepth 65536 in
set_option maxHeartbeats 40000000 in
theorem rmUM (l : Launch) (Z : State) (a0 : Array Value) (hw : ∀ d ∈ tables_1, d.before a0 Z = true) (lm : Addr) (mr1 mr2 : Addr) (h0 : Heap) (n0 : Nat) (Z0 : n0 ≤ h0.size) (O_lm : own_Obj Z h0 lm "java/util/LinkedHashMap" [("java/util/HashMap", "loadFactor", "F", (.float (1061158912 : UInt32))), ("java/util/LinkedHashMap", "putMode", "I", (.int (0 : Int32))), ("java/util/LinkedHashMap", "accessOrder", "Z", (.int (0 : Int32)))]) (M1 : Mir Z "java/util/LinkedHashMap" mr1) (M2 : Mir Z "java/util/Collections$UnmodifiableMap" mr2) :
    own_Met l Z (⟨"java/util/Collections", "unmodifiableMap", "(Ljava/util/Map;)Ljava/util/Map;"⟩ : MethodName) jdk_79_method_36_code 1 (some (.object "java/util/Map")) ({ frames := 2, cells := 1, slots := 4, locals := 40 } : Room) #[(.ref lm)] h0 (own_QN [] (fun b h => True) h0 n0) := by
  refine own_enter (plainFor_of_name own_pn15) (fun m => by first | (simp [entryFrame, mkF, argsToLocals, Value.category, maxLocals]; done) | rfl) (Ls := #[.val (.ref lm)]) ?_
  intro p e s m below meth c T0 K X0 e0
  have hx := K.1
  have hZ := K.2.1
  have hby := K.2.2.1
  have hown := K.2.2.2.2.1
  have N0 := Fr.nil n0
  have K0 : Keep h0 h0 [] := Keep.refl _ _
  show own_Fin p e below _ T0 (mkF m 0 #[.val (.ref lm)] [])
  refine own_seg (T' := T0) (g' := (mkF m 1 #[.val (.ref lm)] [(.ref lm)])) (fun tg kt => ?_) ?_
  · show Steps p.tables e below (T0.setTop (mkF m 0 #[.val (.ref lm)] [])) tg
    refine XS.aloadN X0.here hx rfl (hb hby d15_0) rfl rfl ?_
    exact kt
  refine own_gclsI K X0 e0 (hw _ (List.mem_of_getElem? (i := 139) rfl)) (hw _ (List.mem_of_getElem? (i := 140) rfl)) (hw _ (List.mem_of_getElem? (i := 141) rfl)) (hw _ (List.mem_of_getElem? (i := 142) rfl)) (hw _ (List.mem_of_getElem? (i := 143) rfl)) (hw _ (List.mem_of_getElem? (i := 144) rfl)) (hw _ (List.mem_of_getElem? (i := 145) rfl)) (hw _ (List.mem_of_getElem? (i := 146) rfl)) (hw _ (List.mem_of_getElem? (i := 147) rfl)) (by decide) (by decide) O_lm.exa M1 rfl d15_1 (by decide) (by decide) ?_
  intro T1 X1 e1
  show own_Fin p e below _ T1 (mkF m 6 #[.val (.ref lm)] [(.ref mr1)])
  refine own_ldcM K X1 e1 (hw _ (List.mem_of_getElem? (i := 149) rfl)) M2 d15_6 ?_
  intro T2 X2 e2
  show own_Fin p e below _ T2 (mkF m 8 #[.val (.ref lm)] [(.ref mr2), (.ref mr1)])
  have hc8 : ¬ ((.ref mr1) : Value) = (.ref mr2) := (fun q => Mir.ne M1 M2 (by decide) (Value.ref.inj q))
  refine own_seg (T' := T2) (g' := (mkF m 13 #[.val (.ref lm)] [])) (fun tg kt => XT.acmpYes X2.here hx rfl (pc0 := 8) (pc' := 13) rfl (hb hby d15_8) rfl rfl rfl (own_aqneF hc8) (by decide) (by decide) kt) ?_
  refine own_newO K X2 e2 (hw _ (List.mem_of_getElem? (i := 149) rfl)) (hw _ (List.mem_of_getElem? (i := 151) rfl)) (hw _ (List.mem_of_getElem? (i := 152) rfl)) d15_13 (by decide) (by decide) ?_
  intro T3 h3 b3 g3 X3 e3 E3 A3 D3
  have ne_lm_b3 : lm ≠ b3 := Nat.ne_of_lt (Nat.lt_of_lt_of_eq O_lm.lt g3.symm)
  have ne_b3_lm := ne_lm_b3.symm
  have O_lm_3 : own_Obj Z h3 lm "java/util/LinkedHashMap" [("java/util/HashMap", "loadFactor", "F", (.float (1061158912 : UInt32))), ("java/util/LinkedHashMap", "putMode", "I", (.int (0 : Int32))), ("java/util/LinkedHashMap", "accessOrder", "Z", (.int (0 : Int32)))] := O_lm.ext E3
  have f_b3 : n0 ≤ b3 := Nat.le_trans Z0 (Nat.le_of_eq g3.symm)
  have Z3 : n0 ≤ h3.size := Nat.le_trans Z0 E3.1
  have sz_b3 : h0.size ≤ b3 := Nat.le_trans K0.1 (Nat.le_of_eq g3.symm)
  have K3 := K0.ext E3
  have O_b3_3 : own_Obj Z h3 b3 "java/util/Collections$UnmodifiableMap" [("java/util/Collections$UnmodifiableMap", "m", "Ljava/util/Map;", .null)] := ⟨A3, by
    intro q hq
    simp only [List.mem_cons, List.not_mem_nil, or_false] at hq
    rcases hq with rfl
    · exact D3 (Or.inr (hw _ (List.mem_of_getElem? (i := 158) rfl))) (ty := (.object "java/util/Map")) (by decide)⟩
  show own_Fin p e below _ T3 (mkF m 16 #[.val (.ref lm)] [(.ref b3)])
  refine own_seg (T' := T3) (g' := (mkF m 18 #[.val (.ref lm)] [(.ref lm), (.ref b3), (.ref b3)])) (fun tg kt => ?_) ?_
  · show Steps p.tables e below (T3.setTop (mkF m 16 #[.val (.ref lm)] [(.ref b3)])) tg
    refine XS.dup X3.here hx rfl (hb hby d15_16) rfl rfl ?_
    show Steps p.tables e below (T3.setTop (mkF m 17 #[.val (.ref lm)] [(.ref b3), (.ref b3)])) tg
    refine XS.aloadN X3.here hx rfl (hb hby d15_17) rfl rfl ?_
    exact kt
  refine own_callI K X3 e3 (rmUI l Z a0 hw b3 lm h3 n0 Z3 O_b3_3 f_b3) rfl (hw _ (List.mem_of_getElem? (i := 153) rfl)) (hw _ (List.mem_of_getElem? (i := 154) rfl)) (hw _ (List.mem_of_getElem? (i := 152) rfl)) (hw _ (List.mem_of_getElem? (i := 155) rfl)) (by decide) b3 [(.ref lm)] [(.ref b3)] own_pd2 rfl rfl rfl rfl d15_18 (by decide) (Nat.le_of_ble_eq_true rfl) (by decide) (by decide) ?_
  intro T4 L4 v4 X4 hQ4
  obtain ⟨h4, e4⟩ : ∃ z, T4.heap = z := ⟨_, rfl⟩
  rw [e4] at hQ4
  obtain ⟨rfl, Nq4, Kq4, Oq4_b3⟩ := hQ4
  have N4 := Fr.app N0 Nq4
  have O_lm_4 : own_Obj Z h4 lm "java/util/LinkedHashMap" [("java/util/HashMap", "loadFactor", "F", (.float (1061158912 : UInt32))), ("java/util/LinkedHashMap", "putMode", "I", (.int (0 : Int32))), ("java/util/LinkedHashMap", "accessOrder", "Z", (.int (0 : Int32)))] := O_lm_3.keep Kq4 (ninS ne_lm_b3 nin0)
  have Z4 : n0 ≤ h4.size := Nat.le_trans Z3 Kq4.1
  have K4 := Keep.trans K3 Kq4 (allS (Or.inr sz_b3) all0)
  show own_Fin p e below _ T4 (mkF m 21 #[.val (.ref lm)] [(.ref b3)])
  exact own_retA K rfl X4 rfl d15_21 (by rw [e4]; exact ⟨b3, rfl, N4, K4, trivial, sz_b3⟩) (by decide) (by decide)
--CUT
theorem own_strs {Z : State} {a0 : Array Value} (hw : ∀ d ∈ tables_1, d.before a0 Z = true) : ∀ a ∈ Bundle.stringAtoms, a.before a0 Z = true := by
  intro a h
  simp only [Bundle.stringAtoms, List.mem_cons, List.not_mem_nil, or_false] at h
  rcases h with rfl | rfl | rfl | rfl | rfl | rfl | rfl
  · exact (hw _ (List.mem_of_getElem? (i := 28) rfl))
  · exact (hw _ (List.mem_of_getElem? (i := 29) rfl))
  · exact (hw _ (List.mem_of_getElem? (i := 1) rfl))
  · exact (hw _ (List.mem_of_getElem? (i := 30) rfl))
  · exact (hw _ (List.mem_of_getElem? (i := 31) rfl))
  · exact (hw _ (List.mem_of_getElem? (i := 32) rfl))
  · exact (hw _ (List.mem_of_getElem? (i := 33) rfl))
def own_QRS (Z : State) (r hm : Addr) (sv : Int32) (h0 : Heap) (n0 : Nat) (v : Option Value) (h : Heap) (L : List Loc) : Prop := v = none ∧ Fr n0 L ∧ Keep h0 h [r, hm] ∧ ∃ ub b2 : Addr, own_Obj Z h r "com/example/hapax/hapax/core/Result" [("com/example/hapax/hapax/core/Result", "status", "I", (.int sv)), ("com/example/hapax/hapax/core/Result", "headers", "Ljava/util/Map;", (.ref ub)), ("com/example/hapax/hapax/core/Result", "body", "[B", (.ref b2))]
def own_fin (sv : Int32) : Int32 := if sv < (500 : Int32) then 1 else 0
theorem own_f1 {sv : Int32} (h : (499 : Int32) < sv) : ¬ sv < (500 : Int32) := by
  have e1 : (499 : Int32).toInt = 499 := by decide
  have e2 : (500 : Int32).toInt = 500 := by decide
  rw [Int32.lt_iff_toInt_lt] at h ⊢; omega
theorem own_f2 {sv : Int32} (h : ¬ (499 : Int32) < sv) : sv < (500 : Int32) := by
  have e1 : (499 : Int32).toInt = 499 := by decide
  have e2 : (500 : Int32).toInt = 500 := by decide
  rw [Int32.lt_iff_toInt_lt] at h ⊢; omega
theorem own_msk32 (x m : Int32) {k : Nat} (hk : k < 32) (hm : m.toBitVec.toNat = 2 ^ k - 1) : 0 ≤ (x &&& m).toInt ∧ (x &&& m).toInt < 2 ^ k := by
  have e := Jvm.Kit.i32_mask x m (k := k) (by omega) hm
  have p : (0 : Int) < 2 ^ k := Int.pow_pos (by decide)
  rw [e]
  exact ⟨Int.emod_nonneg _ (by omega), Int.emod_lt_of_pos _ p⟩
theorem own_sv (i0 : Int32) : ∃ sv : Int32, (100 : Int32) + ((i0 &&& (2147483647 : Int32)) % (500 : Int32)) = sv ∧ ¬ sv < (100 : Int32) ∧ ¬ (599 : Int32) < sv := by
  refine ⟨_, rfl, ?_⟩
  obtain ⟨a1, a2⟩ := own_msk32 i0 2147483647 (k := 31) (by decide) (by decide)
  have e1 : (100 : Int32).toInt = 100 := by decide
  have e2 : (500 : Int32).toInt = 500 := by decide
  have e3 : (599 : Int32).toInt = 599 := by decide
  have e4 : ((i0 &&& (2147483647 : Int32)) % (500 : Int32)).toInt = (i0 &&& (2147483647 : Int32)).toInt % 500 := by rw [Jvm.Kit.i32_rem_nonneg a1, e2]
  have e5 : ((100 : Int32) + ((i0 &&& (2147483647 : Int32)) % (500 : Int32))).toInt = 100 + (i0 &&& (2147483647 : Int32)).toInt % 500 := by rw [Jvm.Kit.i32_add (by omega) (by omega), e4, e1]
  rw [Int32.lt_iff_toInt_lt, Int32.lt_iff_toInt_lt, e5, e1, e3]; omega
theorem own_n3 (i1 : Int32) : ∃ n : Nat, n ≤ 3 ∧ (i1 &&& (3 : Int32)) = Int32.ofNat n := by
  obtain ⟨a1, a2⟩ := own_msk32 i1 3 (k := 2) (by decide) (by decide)
  refine ⟨(i1 &&& 3).toInt.toNat, by omega, Int32.toInt_inj.mp ?_⟩
  rw [own_of (by omega)]; omega
theorem own_pn4 : plainName "com/example/hapax/hapax/core/Result" = true := by first | (simp [plainName, overriddenIn]; done) | decide +kernel
theorem d4_0 : decode prog_26_method_1_code 0 = .ok (.aload_n 0, 1) := by decide +kernel
theorem d4_1 : decode prog_26_method_1_code 1 = .ok (.invokespecial 1, 3) := by decide +kernel
theorem d4_4 : decode prog_26_method_1_code 4 = .ok (.iload_n 1, 1) := by decide +kernel
theorem d4_5 : decode prog_26_method_1_code 5 = .ok (.bipush 100, 2) := by decide +kernel
theorem d4_7 : decode prog_26_method_1_code 7 = .ok (.if_icmp .lt 10, 3) := by decide +kernel
theorem d4_10 : decode prog_26_method_1_code 10 = .ok (.iload_n 1, 1) := by decide +kernel
theorem d4_11 : decode prog_26_method_1_code 11 = .ok (.sipush 599, 3) := by decide +kernel
theorem d4_14 : decode prog_26_method_1_code 14 = .ok (.if_icmp .le 17, 3) := by decide +kernel
theorem d4_31 : decode prog_26_method_1_code 31 = .ok (.aload_n 2, 1) := by decide +kernel
theorem d4_32 : decode prog_26_method_1_code 32 = .ok (.ldc 18, 2) := by decide +kernel
theorem d4_34 : decode prog_26_method_1_code 34 = .ok (.invokestatic 20, 3) := by decide +kernel
theorem own_pd3 : parseMethodDescriptor "(Ljava/lang/Object;Ljava/lang/String;)Ljava/lang/Object;" = some ⟨[(.object "java/lang/Object"), (.object "java/lang/String")], some (.object "java/lang/Object")⟩ := by decide +kernel
theorem d4_37 : decode prog_26_method_1_code 37 = .ok (.pop, 1) := by decide +kernel
theorem d4_38 : decode prog_26_method_1_code 38 = .ok (.aload_n 3, 1) := by decide +kernel
theorem d4_39 : decode prog_26_method_1_code 39 = .ok (.ldc 26, 2) := by decide +kernel
theorem d4_41 : decode prog_26_method_1_code 41 = .ok (.invokestatic 20, 3) := by decide +kernel
theorem d4_44 : decode prog_26_method_1_code 44 = .ok (.pop, 1) := by decide +kernel
theorem d4_45 : decode prog_26_method_1_code 45 = .ok (.new 28, 3) := by decide +kernel
theorem d4_48 : decode prog_26_method_1_code 48 = .ok (.dup, 1) := by decide +kernel
theorem d4_49 : decode prog_26_method_1_code 49 = .ok (.invokespecial 30, 3) := by decide +kernel
theorem d4_52 : decode prog_26_method_1_code 52 = .ok (.astore 4, 2) := by decide +kernel
theorem d4_54 : decode prog_26_method_1_code 54 = .ok (.aload_n 2, 1) := by decide +kernel
theorem d4_55 : decode prog_26_method_1_code 55 = .ok (.invokeinterface 31 1, 5) := by decide +kernel
theorem own_pd4 : parseMethodDescriptor "()Ljava/util/Set;" = some ⟨[], some (.object "java/util/Set")⟩ := by decide +kernel
theorem d4_60 : decode prog_26_method_1_code 60 = .ok (.invokeinterface 37 1, 5) := by decide +kernel
theorem own_pd5 : parseMethodDescriptor "()Ljava/util/Iterator;" = some ⟨[], some (.object "java/util/Iterator")⟩ := by decide +kernel
theorem d4_65 : decode prog_26_method_1_code 65 = .ok (.astore 5, 2) := by decide +kernel
theorem d4_67 : decode prog_26_method_1_code 67 = .ok (.aload 5, 2) := by decide +kernel
theorem d4_69 : decode prog_26_method_1_code 69 = .ok (.invokeinterface 43 1, 5) := by decide +kernel
theorem own_pd6 : parseMethodDescriptor "()Z" = some ⟨[], some .boolean⟩ := by decide +kernel
theorem d4_74 : decode prog_26_method_1_code 74 = .ok (.ifCond .eq 59, 3) := by decide +kernel
theorem d4_133 : decode prog_26_method_1_code 133 = .ok (.aload_n 0, 1) := by decide +kernel
theorem d4_134 : decode prog_26_method_1_code 134 = .ok (.iload_n 1, 1) := by decide +kernel
theorem d4_135 : decode prog_26_method_1_code 135 = .ok (.putfield 77, 3) := by decide +kernel
theorem own_lay_Result {Z : State} {a0 : Array Value} (hw : ∀ d ∈ tables_1, d.before a0 Z = true) : own_Lay Z a0 "com/example/hapax/hapax/core/Result" [("com/example/hapax/hapax/core/Result", "status", "I"), ("com/example/hapax/hapax/core/Result", "headers", "Ljava/util/Map;"), ("com/example/hapax/hapax/core/Result", "body", "[B")] := by
  intro q hq
  simp only [List.mem_cons, List.not_mem_nil, or_false] at hq
  rcases hq with rfl | rfl | rfl
  · exact ⟨Or.inr (hw _ (List.mem_of_getElem? (i := 134) rfl)), _, (by decide : parseFieldDescriptor "I" = some .int)⟩
  · exact ⟨Or.inr (hw _ (List.mem_of_getElem? (i := 160) rfl)), _, (by decide : parseFieldDescriptor "Ljava/util/Map;" = some (.object "java/util/Map"))⟩
  · exact ⟨Or.inr (hw _ (List.mem_of_getElem? (i := 171) rfl)), _, (by decide : parseFieldDescriptor "[B" = some (.array .byte))⟩
theorem own_nd_Result : ((([("com/example/hapax/hapax/core/Result", "status", "I"), ("com/example/hapax/hapax/core/Result", "headers", "Ljava/util/Map;"), ("com/example/hapax/hapax/core/Result", "body", "[B")] : List (String × String × String))).map (fun q => q.2.1)).Nodup := by decide +kernel
theorem d4_138 : decode prog_26_method_1_code 138 = .ok (.aload_n 0, 1) := by decide +kernel
theorem d4_139 : decode prog_26_method_1_code 139 = .ok (.aload 4, 2) := by decide +kernel
theorem d4_141 : decode prog_26_method_1_code 141 = .ok (.invokestatic 81, 3) := by decide +kernel
theorem own_pd7 : parseMethodDescriptor "(Ljava/util/Map;)Ljava/util/Map;" = some ⟨[(.object "java/util/Map")], some (.object "java/util/Map")⟩ := by decide +kernel
theorem d4_144 : decode prog_26_method_1_code 144 = .ok (.putfield 87, 3) := by decide +kernel
theorem d4_147 : decode prog_26_method_1_code 147 = .ok (.aload_n 0, 1) := by decide +kernel
theorem d4_148 : decode prog_26_method_1_code 148 = .ok (.aload_n 3, 1) := by decide +kernel
theorem d4_149 : decode prog_26_method_1_code 149 = .ok (.invokevirtual 90, 3) := by decide +kernel
theorem d4_152 : decode prog_26_method_1_code 152 = .ok (.checkcast 91, 3) := by decide +kernel
theorem d4_155 : decode prog_26_method_1_code 155 = .ok (.putfield 95, 3) := by decide +kernel
theorem d4_158 : decode prog_26_method_1_code 158 = .ok (.return_, 1) := by decide +kernel
set_option maxRecDepth 65536 in
set_option maxHeartbeats 40000000 in
theorem rmRS (l : Launch) (Z : State) (a0 : Array Value) (hw : ∀ d ∈ tables_1, d.before a0 Z = true) (r hm bd : Addr) (sv : Int32) (n : Nat) (g : Nat → Int8) (mr1 mr2 : Addr) (h0 : Heap) (n0 : Nat) (Z0 : n0 ≤ h0.size) (O_r : own_Obj Z h0 r "com/example/hapax/hapax/core/Result" [("com/example/hapax/hapax/core/Result", "status", "I", (.int (0 : Int32))), ("com/example/hapax/hapax/core/Result", "headers", "Ljava/util/Map;", .null), ("com/example/hapax/hapax/core/Result", "body", "[B", .null)]) (O_hm : own_Obj Z h0 hm "java/util/HashMap" [("java/util/HashMap", "loadFactor", "F", (.float (1061158912 : UInt32))), ("java/util/HashMap", "entrySet", "Ljava/util/Set;", .null), ("java/util/HashMap", "modCount", "I", (.int (0 : Int32))), ("java/util/HashMap", "table", "[Ljava/util/HashMap$Node;", .null)]) (O_bd : own_Byt Z h0 bd n g) (hn : n ≤ 3) (hlo : ¬ sv < (100 : Int32)) (hhi : ¬ (599 : Int32) < sv) (f_r : n0 ≤ r) (f_hm : n0 ≤ hm) (ne_r_hm : r ≠ hm) (ne_r_bd : r ≠ bd) (ne_hm_r : hm ≠ r) (ne_hm_bd : hm ≠ bd) (ne_bd_r : bd ≠ r) (ne_bd_hm : bd ≠ hm) (M1 : Mir Z "java/util/LinkedHashMap" mr1) (M2 : Mir Z "java/util/Collections$UnmodifiableMap" mr2) :
    own_MetW l Z (⟨"com/example/hapax/hapax/core/Result", "<init>", "(ILjava/util/Map;[B)V"⟩ : MethodName) prog_26_method_1_code 8 none ({ frames := 5, cells := 10, slots := 90, locals := 90 } : Room) #[(.ref r), (.int sv), (.ref hm), (.ref bd)] h0 (own_QRS Z r hm sv h0 n0) := by
  refine own_enterW (plainFor_of_name own_pn4) (fun m => by first | (simp [entryFrame, mkF, argsToLocals, Value.category, maxLocals]; done) | rfl) (Ls := #[.val (.ref r), .val (.int sv), .val (.ref hm), .val (.ref bd), .unset, .unset, .unset, .unset]) ?_
  intro p e s m below meth c T0 K X0 e0 hS0
  have hx := K.1
  have hZ := K.2.1
  have hby := K.2.2.1
  have hown := K.2.2.2.2.1
  have N0 := Fr.nil n0
  have K0 : Keep h0 h0 [r, hm] := Keep.refl _ _
  show own_Fin p e below _ T0 (mkF m 0 #[.val (.ref r), .val (.int sv), .val (.ref hm), .val (.ref bd), .unset, .unset, .unset, .unset] [])
  refine own_seg (T' := T0) (g' := (mkF m 1 #[.val (.ref r), .val (.int sv), .val (.ref hm), .val (.ref bd), .unset, .unset, .unset, .unset] [(.ref r)])) (fun tg kt => ?_) ?_
  · show Steps p.tables e below (T0.setTop (mkF m 0 #[.val (.ref r), .val (.int sv), .val (.ref hm), .val (.ref bd), .unset, .unset, .unset, .unset] [])) tg
    refine XS.aloadN X0.here hx rfl (hb hby d4_0) rfl rfl ?_
    exact kt
  refine own_initO K X0 e0 (hw _ (List.mem_of_getElem? (i := 26) rfl)) (hw _ (List.mem_of_getElem? (i := 15) rfl)) (hw _ (List.mem_of_getElem? (i := 16) rfl)) rfl d4_1 (by decide) (Nat.le_of_ble_eq_true rfl) ?_
  intro T1 X1 e1
  show own_Fin p e below _ T1 (mkF m 4 #[.val (.ref r), .val (.int sv), .val (.ref hm), .val (.ref bd), .unset, .unset, .unset, .unset] [])
  refine own_seg (T' := T1) (g' := (mkF m 7 #[.val (.ref r), .val (.int sv), .val (.ref hm), .val (.ref bd), .unset, .unset, .unset, .unset] [(.int (100 : Int32)), (.int sv)])) (fun tg kt => ?_) ?_
  · show Steps p.tables e below (T1.setTop (mkF m 4 #[.val (.ref r), .val (.int sv), .val (.ref hm), .val (.ref bd), .unset, .unset, .unset, .unset] [])) tg
    refine XS.iloadN X1.here hx rfl (hb hby d4_4) rfl ?_
    show Steps p.tables e below (T1.setTop (mkF m 5 #[.val (.ref r), .val (.int sv), .val (.ref hm), .val (.ref bd), .unset, .unset, .unset, .unset] [(.int sv)])) tg
    refine XS.bipush X1.here hx rfl (hb hby d4_5) ?_
    exact kt
  have hc7 : ¬ (sv < (100 : Int32)) := hlo
  refine own_seg (T' := T1) (g' := (mkF m 10 #[.val (.ref r), .val (.int sv), .val (.ref hm), .val (.ref bd), .unset, .unset, .unset, .unset] [])) (fun tg kt => XS.icmpNo X1.here hx rfl (hb hby d4_7) rfl (flt hc7).1 kt) ?_
  refine own_seg (T' := T1) (g' := (mkF m 14 #[.val (.ref r), .val (.int sv), .val (.ref hm), .val (.ref bd), .unset, .unset, .unset, .unset] [(.int (599 : Int32)), (.int sv)])) (fun tg kt => ?_) ?_
  · show Steps p.tables e below (T1.setTop (mkF m 10 #[.val (.ref r), .val (.int sv), .val (.ref hm), .val (.ref bd), .unset, .unset, .unset, .unset] [])) tg
    refine XS.iloadN X1.here hx rfl (hb hby d4_10) rfl ?_
    show Steps p.tables e below (T1.setTop (mkF m 11 #[.val (.ref r), .val (.int sv), .val (.ref hm), .val (.ref bd), .unset, .unset, .unset, .unset] [(.int sv)])) tg
    refine XS.sipush X1.here hx rfl (hb hby d4_11) ?_
    exact kt
  have hc14 : ¬ ((599 : Int32) < sv) := hhi
  refine own_seg (T' := T1) (g' := (mkF m 31 #[.val (.ref r), .val (.int sv), .val (.ref hm), .val (.ref bd), .unset, .unset, .unset, .unset] [])) (fun tg kt => XS.icmpYes X1.here hx rfl (pc0 := 14) (pc' := 31) rfl (hb hby d4_14) rfl (flt hc14).2.2.2 (by decide) (by decide) kt) ?_
  refine own_seg (T' := T1) (g' := (mkF m 32 #[.val (.ref r), .val (.int sv), .val (.ref hm), .val (.ref bd), .unset, .unset, .unset, .unset] [(.ref hm)])) (fun tg kt => ?_) ?_
  · show Steps p.tables e below (T1.setTop (mkF m 31 #[.val (.ref r), .val (.int sv), .val (.ref hm), .val (.ref bd), .unset, .unset, .unset, .unset] [])) tg
    refine XS.aloadN X1.here hx rfl (hb hby d4_31) rfl rfl ?_
    exact kt
  refine own_ldcS K X1 e1 hS0 (Nat.zero_le _) (hw _ (List.mem_of_getElem? (i := 27) rfl)) (own_strs hw) d4_32 28 (by decide) (by decide) (by decide) (by decide) ?_
  intro b2 T2 h2 k2 K X2 e2 E2 hS2 Y2
  have hx := K.1
  have O_r_2 : own_Obj Z h2 r "com/example/hapax/hapax/core/Result" [("com/example/hapax/hapax/core/Result", "status", "I", (.int (0 : Int32))), ("com/example/hapax/hapax/core/Result", "headers", "Ljava/util/Map;", .null), ("com/example/hapax/hapax/core/Result", "body", "[B", .null)] := O_r.ext E2
  have O_hm_2 : own_Obj Z h2 hm "java/util/HashMap" [("java/util/HashMap", "loadFactor", "F", (.float (1061158912 : UInt32))), ("java/util/HashMap", "entrySet", "Ljava/util/Set;", .null), ("java/util/HashMap", "modCount", "I", (.int (0 : Int32))), ("java/util/HashMap", "table", "[Ljava/util/HashMap$Node;", .null)] := O_hm.ext E2
  have O_bd_2 : own_Byt Z h2 bd n g := O_bd.ext E2
  have Z2 : n0 ≤ h2.size := Nat.le_trans Z0 E2.1
  have K2 := K0.ext E2
  show own_Fin p e below _ T2 (mkF m 34 #[.val (.ref r), .val (.int sv), .val (.ref hm), .val (.ref bd), .unset, .unset, .unset, .unset] [(.ref b2), (.ref hm)])
  refine own_callS K X2 e2 (rmRN l Z a0 hw hm b2 h2 n0 Z2 ) (hw _ (List.mem_of_getElem? (i := 34) rfl)) (hw _ (List.mem_of_getElem? (i := 35) rfl)) (hw _ (List.mem_of_getElem? (i := 36) rfl)) (hw _ (List.mem_of_getElem? (i := 37) rfl)) (by decide) [(.ref hm), (.ref b2)] [] own_pd3 rfl rfl rfl rfl d4_34 (by decide) (Nat.le_of_ble_eq_true rfl) (by decide) (by decide) ?_
  intro T3 L3 v3 X3 hQ3
  obtain ⟨rfl, Nq3, e3⟩ := hQ3
  have N3 := Fr.app N0 Nq3
  show own_Fin p e below _ T3 (mkF m 37 #[.val (.ref r), .val (.int sv), .val (.ref hm), .val (.ref bd), .unset, .unset, .unset, .unset] [(.ref hm)])
  refine own_seg (T' := T3) (g' := (mkF m 39 #[.val (.ref r), .val (.int sv), .val (.ref hm), .val (.ref bd), .unset, .unset, .unset, .unset] [(.ref bd)])) (fun tg kt => ?_) ?_
  · show Steps p.tables e below (T3.setTop (mkF m 37 #[.val (.ref r), .val (.int sv), .val (.ref hm), .val (.ref bd), .unset, .unset, .unset, .unset] [(.ref hm)])) tg
    refine XS.pop X3.here hx rfl (hb hby d4_37) rfl rfl ?_
    show Steps p.tables e below (T3.setTop (mkF m 38 #[.val (.ref r), .val (.int sv), .val (.ref hm), .val (.ref bd), .unset, .unset, .unset, .unset] [])) tg
    refine XS.aloadN X3.here hx rfl (hb hby d4_38) rfl rfl ?_
    exact kt
  refine own_ldcS K X3 e3 hS2 Y2 (hw _ (List.mem_of_getElem? (i := 38) rfl)) (own_strs hw) d4_39 16 (by decide) (by decide) (by decide) (by decide) ?_
  intro b4 T4 h4 k4 K X4 e4 E4 hS4 Y4
  have hx := K.1
  have O_r_4 : own_Obj Z h4 r "com/example/hapax/hapax/core/Result" [("com/example/hapax/hapax/core/Result", "status", "I", (.int (0 : Int32))), ("com/example/hapax/hapax/core/Result", "headers", "Ljava/util/Map;", .null), ("com/example/hapax/hapax/core/Result", "body", "[B", .null)] := O_r_2.ext E4
  have O_hm_4 : own_Obj Z h4 hm "java/util/HashMap" [("java/util/HashMap", "loadFactor", "F", (.float (1061158912 : UInt32))), ("java/util/HashMap", "entrySet", "Ljava/util/Set;", .null), ("java/util/HashMap", "modCount", "I", (.int (0 : Int32))), ("java/util/HashMap", "table", "[Ljava/util/HashMap$Node;", .null)] := O_hm_2.ext E4
  have O_bd_4 : own_Byt Z h4 bd n g := O_bd_2.ext E4
  have Z4 : n0 ≤ h4.size := Nat.le_trans Z2 E4.1
  have K4 := K2.ext E4
  show own_Fin p e below _ T4 (mkF m 41 #[.val (.ref r), .val (.int sv), .val (.ref hm), .val (.ref bd), .unset, .unset, .unset, .unset] [(.ref b4), (.ref bd)])
  refine own_callS K X4 e4 (rmRN l Z a0 hw bd b4 h4 n0 Z4 ) (hw _ (List.mem_of_getElem? (i := 34) rfl)) (hw _ (List.mem_of_getElem? (i := 35) rfl)) (hw _ (List.mem_of_getElem? (i := 36) rfl)) (hw _ (List.mem_of_getElem? (i := 37) rfl)) (by decide) [(.ref bd), (.ref b4)] [] own_pd3 rfl rfl rfl rfl d4_41 (by decide) (Nat.le_of_ble_eq_true rfl) (by decide) (by decide) ?_
  intro T5 L5 v5 X5 hQ5
  obtain ⟨rfl, Nq5, e5⟩ := hQ5
  have N5 := Fr.app N3 Nq5
  show own_Fin p e below _ T5 (mkF m 44 #[.val (.ref r), .val (.int sv), .val (.ref hm), .val (.ref bd), .unset, .unset, .unset, .unset] [(.ref bd)])
  refine own_seg (T' := T5) (g' := (mkF m 45 #[.val (.ref r), .val (.int sv), .val (.ref hm), .val (.ref bd), .unset, .unset, .unset, .unset] [])) (fun tg kt => ?_) ?_
  · show Steps p.tables e below (T5.setTop (mkF m 44 #[.val (.ref r), .val (.int sv), .val (.ref hm), .val (.ref bd), .unset, .unset, .unset, .unset] [(.ref bd)])) tg
    refine XS.pop X5.here hx rfl (hb hby d4_44) rfl rfl ?_
    exact kt
  refine own_newO K X5 e5 (hw _ (List.mem_of_getElem? (i := 39) rfl)) (hw _ (List.mem_of_getElem? (i := 40) rfl)) (hw _ (List.mem_of_getElem? (i := 41) rfl)) d4_45 (by decide) (by decide) ?_
  intro T6 h6 b6 g6 X6 e6 E6 A6 D6
  have ne_r_b6 : r ≠ b6 := Nat.ne_of_lt (Nat.lt_of_lt_of_eq O_r_4.lt g6.symm)
  have ne_b6_r := ne_r_b6.symm
  have ne_hm_b6 : hm ≠ b6 := Nat.ne_of_lt (Nat.lt_of_lt_of_eq O_hm_4.lt g6.symm)
  have ne_b6_hm := ne_hm_b6.symm
  have ne_bd_b6 : bd ≠ b6 := Nat.ne_of_lt (Nat.lt_of_lt_of_eq O_bd_4.lt g6.symm)
  have ne_b6_bd := ne_bd_b6.symm
  have O_r_6 : own_Obj Z h6 r "com/example/hapax/hapax/core/Result" [("com/example/hapax/hapax/core/Result", "status", "I", (.int (0 : Int32))), ("com/example/hapax/hapax/core/Result", "headers", "Ljava/util/Map;", .null), ("com/example/hapax/hapax/core/Result", "body", "[B", .null)] := O_r_4.ext E6
  have O_hm_6 : own_Obj Z h6 hm "java/util/HashMap" [("java/util/HashMap", "loadFactor", "F", (.float (1061158912 : UInt32))), ("java/util/HashMap", "entrySet", "Ljava/util/Set;", .null), ("java/util/HashMap", "modCount", "I", (.int (0 : Int32))), ("java/util/HashMap", "table", "[Ljava/util/HashMap$Node;", .null)] := O_hm_4.ext E6
  have O_bd_6 : own_Byt Z h6 bd n g := O_bd_4.ext E6
  have f_b6 : n0 ≤ b6 := Nat.le_trans Z4 (Nat.le_of_eq g6.symm)
  have Z6 : n0 ≤ h6.size := Nat.le_trans Z4 E6.1
  have Y6 := Nat.le_trans Y4 E6.1
  have sz_b6 : h0.size ≤ b6 := Nat.le_trans K4.1 (Nat.le_of_eq g6.symm)
  have K6 := K4.ext E6
  have O_b6_6 : own_Obj Z h6 b6 "java/util/LinkedHashMap" [("java/util/HashMap", "loadFactor", "F", (.float 0)), ("java/util/LinkedHashMap", "putMode", "I", (.int (0 : Int32))), ("java/util/LinkedHashMap", "accessOrder", "Z", (.int (0 : Int32)))] := ⟨A6, by
    intro q hq
    simp only [List.mem_cons, List.not_mem_nil, or_false] at hq
    rcases hq with rfl | rfl | rfl
    · exact D6 (Or.inr (hw _ (List.mem_of_getElem? (i := 49) rfl))) (ty := .float) (by decide)
    · exact D6 (Or.inl (hw _ (List.mem_of_getElem? (i := 51) rfl))) (ty := .int) (by decide)
    · exact D6 (Or.inr (hw _ (List.mem_of_getElem? (i := 53) rfl))) (ty := .boolean) (by decide)⟩
  show own_Fin p e below _ T6 (mkF m 48 #[.val (.ref r), .val (.int sv), .val (.ref hm), .val (.ref bd), .unset, .unset, .unset, .unset] [(.ref b6)])
  refine own_seg (T' := T6) (g' := (mkF m 49 #[.val (.ref r), .val (.int sv), .val (.ref hm), .val (.ref bd), .unset, .unset, .unset, .unset] [(.ref b6), (.ref b6)])) (fun tg kt => ?_) ?_
  · show Steps p.tables e below (T6.setTop (mkF m 48 #[.val (.ref r), .val (.int sv), .val (.ref hm), .val (.ref bd), .unset, .unset, .unset, .unset] [(.ref b6)])) tg
    refine XS.dup X6.here hx rfl (hb hby d4_48) rfl rfl ?_
    exact kt
  refine own_callI K X6 e6 (rmLH l Z a0 hw b6 h6 n0 Z6 O_b6_6 f_b6) rfl (hw _ (List.mem_of_getElem? (i := 42) rfl)) (hw _ (List.mem_of_getElem? (i := 43) rfl)) (hw _ (List.mem_of_getElem? (i := 41) rfl)) (hw _ (List.mem_of_getElem? (i := 44) rfl)) (by decide) b6 [] [(.ref b6)] own_pd0 rfl rfl rfl rfl d4_49 (by decide) (Nat.le_of_ble_eq_true rfl) (by decide) (by decide) ?_
  intro T7 L7 v7 X7 hQ7
  obtain ⟨h7, e7⟩ : ∃ z, T7.heap = z := ⟨_, rfl⟩
  rw [e7] at hQ7
  obtain ⟨rfl, Nq7, Kq7, Oq7_b6⟩ := hQ7
  have N7 := Fr.app N5 Nq7
  have O_r_7 : own_Obj Z h7 r "com/example/hapax/hapax/core/Result" [("com/example/hapax/hapax/core/Result", "status", "I", (.int (0 : Int32))), ("com/example/hapax/hapax/core/Result", "headers", "Ljava/util/Map;", .null), ("com/example/hapax/hapax/core/Result", "body", "[B", .null)] := O_r_6.keep Kq7 (ninS ne_r_b6 nin0)
  have O_hm_7 : own_Obj Z h7 hm "java/util/HashMap" [("java/util/HashMap", "loadFactor", "F", (.float (1061158912 : UInt32))), ("java/util/HashMap", "entrySet", "Ljava/util/Set;", .null), ("java/util/HashMap", "modCount", "I", (.int (0 : Int32))), ("java/util/HashMap", "table", "[Ljava/util/HashMap$Node;", .null)] := O_hm_6.keep Kq7 (ninS ne_hm_b6 nin0)
  have O_bd_7 : own_Byt Z h7 bd n g := O_bd_6.keep Kq7 (ninS ne_bd_b6 nin0)
  have Z7 : n0 ≤ h7.size := Nat.le_trans Z6 Kq7.1
  have Y7 := Nat.le_trans Y6 Kq7.1
  have K7 := Keep.trans K6 Kq7 (allS (Or.inr sz_b6) all0)
  show own_Fin p e below _ T7 (mkF m 52 #[.val (.ref r), .val (.int sv), .val (.ref hm), .val (.ref bd), .unset, .unset, .unset, .unset] [(.ref b6)])
  refine own_seg (T' := T7) (g' := (mkF m 55 #[.val (.ref r), .val (.int sv), .val (.ref hm), .val (.ref bd), .val (.ref b6), .unset, .unset, .unset] [(.ref hm)])) (fun tg kt => ?_) ?_
  · show Steps p.tables e below (T7.setTop (mkF m 52 #[.val (.ref r), .val (.int sv), .val (.ref hm), .val (.ref bd), .unset, .unset, .unset, .unset] [(.ref b6)])) tg
    refine XS.astore X7.here hx rfl (hb hby d4_52) rfl rfl (l' := #[.val (.ref r), .val (.int sv), .val (.ref hm), .val (.ref bd), .val (.ref b6), .unset, .unset, .unset]) rfl ?_
    show Steps p.tables e below (T7.setTop (mkF m 54 #[.val (.ref r), .val (.int sv), .val (.ref hm), .val (.ref bd), .val (.ref b6), .unset, .unset, .unset] [])) tg
    refine XS.aloadN X7.here hx rfl (hb hby d4_54) rfl rfl ?_
    exact kt
  refine own_callF K X7 e7 (rmNS l Z a0 hw hm h7 n0 Z7 O_hm_7 f_hm) (hw _ (List.mem_of_getElem? (i := 54) rfl)) (hw _ (List.mem_of_getElem? (i := 55) rfl)) (hw _ (List.mem_of_getElem? (i := 56) rfl)) (by rfl) (hw _ (List.mem_of_getElem? (i := 57) rfl)) (hw _ (List.mem_of_getElem? (i := 58) rfl)) (hw _ (List.mem_of_getElem? (i := 59) rfl)) (hw _ (List.mem_of_getElem? (i := 60) rfl)) (hw _ (List.mem_of_getElem? (i := 61) rfl)) (hw _ (List.mem_of_getElem? (i := 4) rfl)) (hw _ (List.mem_of_getElem? (i := 62) rfl)) (by decide) hm O_hm_7.exa [] [] own_pd4 rfl rfl rfl rfl d4_55 (by decide) (Nat.le_of_ble_eq_true rfl) (by decide) (by decide) ?_
  intro T8 L8 v8 X8 hQ8
  obtain ⟨h8, e8⟩ : ∃ z, T8.heap = z := ⟨_, rfl⟩
  rw [e8] at hQ8
  obtain ⟨es, rfl, Nq8, Kq8, ⟨Oe_, Oh_⟩, szq_es⟩ := hQ8
  have N8 := Fr.app N7 Nq8
  have O_r_8 : own_Obj Z h8 r "com/example/hapax/hapax/core/Result" [("com/example/hapax/hapax/core/Result", "status", "I", (.int (0 : Int32))), ("com/example/hapax/hapax/core/Result", "headers", "Ljava/util/Map;", .null), ("com/example/hapax/hapax/core/Result", "body", "[B", .null)] := O_r_7.keep Kq8 (ninS ne_r_hm nin0)
  have O_bd_8 : own_Byt Z h8 bd n g := O_bd_7.keep Kq8 (ninS ne_bd_hm nin0)
  have O_b6_8 : own_Obj Z h8 b6 "java/util/LinkedHashMap" [("java/util/HashMap", "loadFactor", "F", (.float (1061158912 : UInt32))), ("java/util/LinkedHashMap", "putMode", "I", (.int (0 : Int32))), ("java/util/LinkedHashMap", "accessOrder", "Z", (.int (0 : Int32)))] := Oq7_b6.keep Kq8 (ninS ne_b6_hm nin0)
  have Z8 : n0 ≤ h8.size := Nat.le_trans Z7 Kq8.1
  have Y8 := Nat.le_trans Y7 Kq8.1
  have K8 := Keep.trans K7 Kq8 (allS (Or.inl (List.mem_of_getElem? (i := 1) rfl)) all0)
  have ne_r_es : r ≠ es := Nat.ne_of_lt (Nat.lt_of_lt_of_le O_r_7.lt szq_es)
  have ne_es_r := ne_r_es.symm
  have ne_hm_es : hm ≠ es := Nat.ne_of_lt (Nat.lt_of_lt_of_le O_hm_7.lt szq_es)
  have ne_es_hm := ne_hm_es.symm
  have ne_bd_es : bd ≠ es := Nat.ne_of_lt (Nat.lt_of_lt_of_le O_bd_7.lt szq_es)
  have ne_es_bd := ne_bd_es.symm
  have ne_b6_es : b6 ≠ es := Nat.ne_of_lt (Nat.lt_of_lt_of_le Oq7_b6.lt szq_es)
  have ne_es_b6 := ne_b6_es.symm
  have f_es : n0 ≤ es := Nat.le_trans Z7 szq_es
  have sz_es : h0.size ≤ es := Nat.le_trans K7.1 szq_es
  show own_Fin p e below _ T8 (mkF m 60 #[.val (.ref r), .val (.int sv), .val (.ref hm), .val (.ref bd), .val (.ref b6), .unset, .unset, .unset] [(.ref es)])
  refine own_callF K X8 e8 (rmIT l Z a0 hw es hm h8 n0 Z8 Oe_ Oh_) (hw _ (List.mem_of_getElem? (i := 87) rfl)) (hw _ (List.mem_of_getElem? (i := 88) rfl)) (hw _ (List.mem_of_getElem? (i := 89) rfl)) (by rfl) (hw _ (List.mem_of_getElem? (i := 90) rfl)) (hw _ (List.mem_of_getElem? (i := 91) rfl)) (hw _ (List.mem_of_getElem? (i := 92) rfl)) (hw _ (List.mem_of_getElem? (i := 93) rfl)) (hw _ (List.mem_of_getElem? (i := 94) rfl)) (hw _ (List.mem_of_getElem? (i := 67) rfl)) (hw _ (List.mem_of_getElem? (i := 95) rfl)) (by decide) es Oe_.exa [] [] own_pd5 rfl rfl rfl rfl d4_60 (by decide) (Nat.le_of_ble_eq_true rfl) (by decide) (by decide) ?_
  intro T9 L9 v9 X9 hQ9
  obtain ⟨h9, e9⟩ : ∃ z, T9.heap = z := ⟨_, rfl⟩
  rw [e9] at hQ9
  obtain ⟨it, rfl, Nq9, Kq9, Oi_, szq_it⟩ := hQ9
  have N9 := Fr.app N8 Nq9
  have O_r_9 : own_Obj Z h9 r "com/example/hapax/hapax/core/Result" [("com/example/hapax/hapax/core/Result", "status", "I", (.int (0 : Int32))), ("com/example/hapax/hapax/core/Result", "headers", "Ljava/util/Map;", .null), ("com/example/hapax/hapax/core/Result", "body", "[B", .null)] := O_r_8.keep Kq9 nin0
  have O_hm_9 : own_Obj Z h9 hm "java/util/HashMap" [("java/util/HashMap", "loadFactor", "F", (.float (1061158912 : UInt32))), ("java/util/HashMap", "entrySet", "Ljava/util/Set;", (.ref es)), ("java/util/HashMap", "modCount", "I", (.int (0 : Int32))), ("java/util/HashMap", "table", "[Ljava/util/HashMap$Node;", .null)] := Oh_.keep Kq9 nin0
  have O_bd_9 : own_Byt Z h9 bd n g := O_bd_8.keep Kq9 nin0
  have O_b6_9 : own_Obj Z h9 b6 "java/util/LinkedHashMap" [("java/util/HashMap", "loadFactor", "F", (.float (1061158912 : UInt32))), ("java/util/LinkedHashMap", "putMode", "I", (.int (0 : Int32))), ("java/util/LinkedHashMap", "accessOrder", "Z", (.int (0 : Int32)))] := O_b6_8.keep Kq9 nin0
  have O_es_9 : own_Obj Z h9 es "java/util/HashMap$EntrySet" [("java/util/HashMap$EntrySet", "this$0", "Ljava/util/HashMap;", (.ref hm))] := Oe_.keep Kq9 nin0
  have Z9 : n0 ≤ h9.size := Nat.le_trans Z8 Kq9.1
  have Y9 := Nat.le_trans Y8 Kq9.1
  have K9 := Keep.trans K8 Kq9 all0
  have ne_r_it : r ≠ it := Nat.ne_of_lt (Nat.lt_of_lt_of_le O_r_8.lt szq_it)
  have ne_it_r := ne_r_it.symm
  have ne_hm_it : hm ≠ it := Nat.ne_of_lt (Nat.lt_of_lt_of_le Oh_.lt szq_it)
  have ne_it_hm := ne_hm_it.symm
  have ne_bd_it : bd ≠ it := Nat.ne_of_lt (Nat.lt_of_lt_of_le O_bd_8.lt szq_it)
  have ne_it_bd := ne_bd_it.symm
  have ne_b6_it : b6 ≠ it := Nat.ne_of_lt (Nat.lt_of_lt_of_le O_b6_8.lt szq_it)
  have ne_it_b6 := ne_b6_it.symm
  have ne_es_it : es ≠ it := Nat.ne_of_lt (Nat.lt_of_lt_of_le Oe_.lt szq_it)
  have ne_it_es := ne_es_it.symm
  have f_it : n0 ≤ it := Nat.le_trans Z8 szq_it
  have sz_it : h0.size ≤ it := Nat.le_trans K8.1 szq_it
  show own_Fin p e below _ T9 (mkF m 65 #[.val (.ref r), .val (.int sv), .val (.ref hm), .val (.ref bd), .val (.ref b6), .unset, .unset, .unset] [(.ref it)])
  refine own_seg (T' := T9) (g' := (mkF m 69 #[.val (.ref r), .val (.int sv), .val (.ref hm), .val (.ref bd), .val (.ref b6), .val (.ref it), .unset, .unset] [(.ref it)])) (fun tg kt => ?_) ?_
  · show Steps p.tables e below (T9.setTop (mkF m 65 #[.val (.ref r), .val (.int sv), .val (.ref hm), .val (.ref bd), .val (.ref b6), .unset, .unset, .unset] [(.ref it)])) tg
    refine XS.astore X9.here hx rfl (hb hby d4_65) rfl rfl (l' := #[.val (.ref r), .val (.int sv), .val (.ref hm), .val (.ref bd), .val (.ref b6), .val (.ref it), .unset, .unset]) rfl ?_
    show Steps p.tables e below (T9.setTop (mkF m 67 #[.val (.ref r), .val (.int sv), .val (.ref hm), .val (.ref bd), .val (.ref b6), .val (.ref it), .unset, .unset] [])) tg
    refine XS.aload X9.here hx rfl (hb hby d4_67) rfl rfl ?_
    exact kt
  refine own_callF K X9 e9 (rmHN l Z a0 hw it hm h9 n0 Z9 Oi_) (hw _ (List.mem_of_getElem? (i := 124) rfl)) (hw _ (List.mem_of_getElem? (i := 125) rfl)) (hw _ (List.mem_of_getElem? (i := 126) rfl)) (by rfl) (hw _ (List.mem_of_getElem? (i := 127) rfl)) (hw _ (List.mem_of_getElem? (i := 128) rfl)) (hw _ (List.mem_of_getElem? (i := 129) rfl)) (hw _ (List.mem_of_getElem? (i := 130) rfl)) (hw _ (List.mem_of_getElem? (i := 131) rfl)) (hw _ (List.mem_of_getElem? (i := 107) rfl)) (hw _ (List.mem_of_getElem? (i := 132) rfl)) (by decide) it Oi_.exa [] [] own_pd6 rfl rfl rfl rfl d4_69 (by decide) (Nat.le_of_ble_eq_true rfl) (by decide) (by decide) ?_
  intro T10 L10 v10 X10 hQ10
  obtain ⟨rfl, Nq10, e10⟩ := hQ10
  have N10 := Fr.app N9 Nq10
  show own_Fin p e below _ T10 (mkF m 74 #[.val (.ref r), .val (.int sv), .val (.ref hm), .val (.ref bd), .val (.ref b6), .val (.ref it), .unset, .unset] [(.int (0 : Int32))])
  have hc74 : (0 : Int32) = (0 : Int32) := by decide
  refine own_seg (T' := T10) (g' := (mkF m 133 #[.val (.ref r), .val (.int sv), .val (.ref hm), .val (.ref bd), .val (.ref b6), .val (.ref it), .unset, .unset] [])) (fun tg kt => XS.ifYes X10.here hx rfl (pc0 := 74) (pc' := 133) rfl (hb hby d4_74) rfl ((if0 _ _).trans (teq hc74).1) (by decide) (by decide) kt) ?_
  refine own_seg (T' := T10) (g' := (mkF m 135 #[.val (.ref r), .val (.int sv), .val (.ref hm), .val (.ref bd), .val (.ref b6), .val (.ref it), .unset, .unset] [(.int sv), (.ref r)])) (fun tg kt => ?_) ?_
  · show Steps p.tables e below (T10.setTop (mkF m 133 #[.val (.ref r), .val (.int sv), .val (.ref hm), .val (.ref bd), .val (.ref b6), .val (.ref it), .unset, .unset] [])) tg
    refine XS.aloadN X10.here hx rfl (hb hby d4_133) rfl rfl ?_
    show Steps p.tables e below (T10.setTop (mkF m 134 #[.val (.ref r), .val (.int sv), .val (.ref hm), .val (.ref bd), .val (.ref b6), .val (.ref it), .unset, .unset] [(.ref r)])) tg
    refine XS.iloadN X10.here hx rfl (hb hby d4_134) rfl ?_
    exact kt
  refine own_putF K X10 e10 (host := "") (Or.inl (hw _ (List.mem_of_getElem? (i := 133) rfl))) Via.refl (O_r_9.get 0 rfl) O_r_9.exa (Or.inr ⟨(hw _ (List.mem_of_getElem? (i := 134) rfl)), rfl, rfl⟩) (hw _ (List.mem_of_getElem? (i := 21) rfl)) (ty := .int) (by decide) rfl rfl d4_135 ?_
  intro T11 h11 X11 e11 W11
  have O_hm_11 : own_Obj Z h11 hm "java/util/HashMap" [("java/util/HashMap", "loadFactor", "F", (.float (1061158912 : UInt32))), ("java/util/HashMap", "entrySet", "Ljava/util/Set;", (.ref es)), ("java/util/HashMap", "modCount", "I", (.int (0 : Int32))), ("java/util/HashMap", "table", "[Ljava/util/HashMap$Node;", .null)] := O_hm_9.other W11 ne_hm_r
  have O_bd_11 : own_Byt Z h11 bd n g := O_bd_9.other W11 ne_bd_r
  have O_b6_11 : own_Obj Z h11 b6 "java/util/LinkedHashMap" [("java/util/HashMap", "loadFactor", "F", (.float (1061158912 : UInt32))), ("java/util/LinkedHashMap", "putMode", "I", (.int (0 : Int32))), ("java/util/LinkedHashMap", "accessOrder", "Z", (.int (0 : Int32)))] := O_b6_9.other W11 ne_b6_r
  have O_es_11 : own_Obj Z h11 es "java/util/HashMap$EntrySet" [("java/util/HashMap$EntrySet", "this$0", "Ljava/util/HashMap;", (.ref hm))] := O_es_9.other W11 ne_es_r
  have O_it_11 : own_Obj Z h11 it "java/util/HashMap$EntryIterator" [("java/util/HashMap$HashIterator", "this$0", "Ljava/util/HashMap;", (.ref hm)), ("java/util/HashMap$HashIterator", "expectedModCount", "I", (.int (0 : Int32))), ("java/util/HashMap$HashIterator", "next", "Ljava/util/HashMap$Node;", .null), ("java/util/HashMap$HashIterator", "current", "Ljava/util/HashMap$Node;", .null), ("java/util/HashMap$HashIterator", "index", "I", (.int (0 : Int32)))] := Oi_.other W11 ne_it_r
  have O_r_11 : own_Obj Z h11 r "com/example/hapax/hapax/core/Result" [("com/example/hapax/hapax/core/Result", "status", "I", (.int sv)), ("com/example/hapax/hapax/core/Result", "headers", "Ljava/util/Map;", .null), ("com/example/hapax/hapax/core/Result", "body", "[B", .null)] := O_r_9.put (own_lay_Result hw) rfl own_nd_Result 0 rfl W11
  have Z11 : n0 ≤ h11.size := by rw [Wr.size W11]; exact Z9
  have Y11 := Nat.le_trans Y9 (Nat.le_of_eq (Wr.size W11).symm)
  have N11 := Fr.snoc X11 N10 f_r
  have K11 := K9.wr W11 (Or.inl (List.mem_of_getElem? (i := 0) rfl))
  show own_Fin p e below _ T11 (mkF m 138 #[.val (.ref r), .val (.int sv), .val (.ref hm), .val (.ref bd), .val (.ref b6), .val (.ref it), .unset, .unset] [])
  refine own_seg (T' := T11) (g' := (mkF m 141 #[.val (.ref r), .val (.int sv), .val (.ref hm), .val (.ref bd), .val (.ref b6), .val (.ref it), .unset, .unset] [(.ref b6), (.ref r)])) (fun tg kt => ?_) ?_
  · show Steps p.tables e below (T11.setTop (mkF m 138 #[.val (.ref r), .val (.int sv), .val (.ref hm), .val (.ref bd), .val (.ref b6), .val (.ref it), .unset, .unset] [])) tg
    refine XS.aloadN X11.here hx rfl (hb hby d4_138) rfl rfl ?_
    show Steps p.tables e below (T11.setTop (mkF m 139 #[.val (.ref r), .val (.int sv), .val (.ref hm), .val (.ref bd), .val (.ref b6), .val (.ref it), .unset, .unset] [(.ref r)])) tg
    refine XS.aload X11.here hx rfl (hb hby d4_139) rfl rfl ?_
    exact kt
  refine own_callS K X11 e11 (rmUM l Z a0 hw b6 mr1 mr2 h11 n0 Z11 O_b6_11 M1 M2) (hw _ (List.mem_of_getElem? (i := 135) rfl)) (hw _ (List.mem_of_getElem? (i := 136) rfl)) (hw _ (List.mem_of_getElem? (i := 137) rfl)) (hw _ (List.mem_of_getElem? (i := 138) rfl)) (by decide) [(.ref b6)] [(.ref r)] own_pd7 rfl rfl rfl rfl d4_141 (by decide) (Nat.le_of_ble_eq_true rfl) (by decide) (by decide) ?_
  intro T12 L12 v12 X12 hQ12
  obtain ⟨h12, e12⟩ : ∃ z, T12.heap = z := ⟨_, rfl⟩
  rw [e12] at hQ12
  obtain ⟨ub, rfl, Nq12, Kq12, -, szq_ub⟩ := hQ12
  have N12 := Fr.app N11 Nq12
  have O_r_12 : own_Obj Z h12 r "com/example/hapax/hapax/core/Result" [("com/example/hapax/hapax/core/Result", "status", "I", (.int sv)), ("com/example/hapax/hapax/core/Result", "headers", "Ljava/util/Map;", .null), ("com/example/hapax/hapax/core/Result", "body", "[B", .null)] := O_r_11.keep Kq12 nin0
  have O_hm_12 : own_Obj Z h12 hm "java/util/HashMap" [("java/util/HashMap", "loadFactor", "F", (.float (1061158912 : UInt32))), ("java/util/HashMap", "entrySet", "Ljava/util/Set;", (.ref es)), ("java/util/HashMap", "modCount", "I", (.int (0 : Int32))), ("java/util/HashMap", "table", "[Ljava/util/HashMap$Node;", .null)] := O_hm_11.keep Kq12 nin0
  have O_bd_12 : own_Byt Z h12 bd n g := O_bd_11.keep Kq12 nin0
  have O_b6_12 : own_Obj Z h12 b6 "java/util/LinkedHashMap" [("java/util/HashMap", "loadFactor", "F", (.float (1061158912 : UInt32))), ("java/util/LinkedHashMap", "putMode", "I", (.int (0 : Int32))), ("java/util/LinkedHashMap", "accessOrder", "Z", (.int (0 : Int32)))] := O_b6_11.keep Kq12 nin0
  have O_es_12 : own_Obj Z h12 es "java/util/HashMap$EntrySet" [("java/util/HashMap$EntrySet", "this$0", "Ljava/util/HashMap;", (.ref hm))] := O_es_11.keep Kq12 nin0
  have O_it_12 : own_Obj Z h12 it "java/util/HashMap$EntryIterator" [("java/util/HashMap$HashIterator", "this$0", "Ljava/util/HashMap;", (.ref hm)), ("java/util/HashMap$HashIterator", "expectedModCount", "I", (.int (0 : Int32))), ("java/util/HashMap$HashIterator", "next", "Ljava/util/HashMap$Node;", .null), ("java/util/HashMap$HashIterator", "current", "Ljava/util/HashMap$Node;", .null), ("java/util/HashMap$HashIterator", "index", "I", (.int (0 : Int32)))] := O_it_11.keep Kq12 nin0
  have Z12 : n0 ≤ h12.size := Nat.le_trans Z11 Kq12.1
  have Y12 := Nat.le_trans Y11 Kq12.1
  have K12 := Keep.trans K11 Kq12 all0
  have ne_r_ub : r ≠ ub := Nat.ne_of_lt (Nat.lt_of_lt_of_le O_r_11.lt szq_ub)
  have ne_ub_r := ne_r_ub.symm
  have ne_hm_ub : hm ≠ ub := Nat.ne_of_lt (Nat.lt_of_lt_of_le O_hm_11.lt szq_ub)
  have ne_ub_hm := ne_hm_ub.symm
  have ne_bd_ub : bd ≠ ub := Nat.ne_of_lt (Nat.lt_of_lt_of_le O_bd_11.lt szq_ub)
  have ne_ub_bd := ne_bd_ub.symm
  have ne_b6_ub : b6 ≠ ub := Nat.ne_of_lt (Nat.lt_of_lt_of_le O_b6_11.lt szq_ub)
  have ne_ub_b6 := ne_b6_ub.symm
  have ne_es_ub : es ≠ ub := Nat.ne_of_lt (Nat.lt_of_lt_of_le O_es_11.lt szq_ub)
  have ne_ub_es := ne_es_ub.symm
  have ne_it_ub : it ≠ ub := Nat.ne_of_lt (Nat.lt_of_lt_of_le O_it_11.lt szq_ub)
  have ne_ub_it := ne_it_ub.symm
  have f_ub : n0 ≤ ub := Nat.le_trans Z11 szq_ub
  have sz_ub : h0.size ≤ ub := Nat.le_trans K11.1 szq_ub
  show own_Fin p e below _ T12 (mkF m 144 #[.val (.ref r), .val (.int sv), .val (.ref hm), .val (.ref bd), .val (.ref b6), .val (.ref it), .unset, .unset] [(.ref ub), (.ref r)])
  refine own_putF K X12 e12 (host := "") (Or.inl (hw _ (List.mem_of_getElem? (i := 159) rfl))) Via.refl (O_r_12.get 1 rfl) O_r_12.exa (Or.inr ⟨(hw _ (List.mem_of_getElem? (i := 160) rfl)), rfl, rfl⟩) (hw _ (List.mem_of_getElem? (i := 21) rfl)) (ty := (.object "java/util/Map")) (by decide) rfl rfl d4_144 ?_
  intro T13 h13 X13 e13 W13
  have O_hm_13 : own_Obj Z h13 hm "java/util/HashMap" [("java/util/HashMap", "loadFactor", "F", (.float (1061158912 : UInt32))), ("java/util/HashMap", "entrySet", "Ljava/util/Set;", (.ref es)), ("java/util/HashMap", "modCount", "I", (.int (0 : Int32))), ("java/util/HashMap", "table", "[Ljava/util/HashMap$Node;", .null)] := O_hm_12.other W13 ne_hm_r
  have O_bd_13 : own_Byt Z h13 bd n g := O_bd_12.other W13 ne_bd_r
  have O_b6_13 : own_Obj Z h13 b6 "java/util/LinkedHashMap" [("java/util/HashMap", "loadFactor", "F", (.float (1061158912 : UInt32))), ("java/util/LinkedHashMap", "putMode", "I", (.int (0 : Int32))), ("java/util/LinkedHashMap", "accessOrder", "Z", (.int (0 : Int32)))] := O_b6_12.other W13 ne_b6_r
  have O_es_13 : own_Obj Z h13 es "java/util/HashMap$EntrySet" [("java/util/HashMap$EntrySet", "this$0", "Ljava/util/HashMap;", (.ref hm))] := O_es_12.other W13 ne_es_r
  have O_it_13 : own_Obj Z h13 it "java/util/HashMap$EntryIterator" [("java/util/HashMap$HashIterator", "this$0", "Ljava/util/HashMap;", (.ref hm)), ("java/util/HashMap$HashIterator", "expectedModCount", "I", (.int (0 : Int32))), ("java/util/HashMap$HashIterator", "next", "Ljava/util/HashMap$Node;", .null), ("java/util/HashMap$HashIterator", "current", "Ljava/util/HashMap$Node;", .null), ("java/util/HashMap$HashIterator", "index", "I", (.int (0 : Int32)))] := O_it_12.other W13 ne_it_r
  have O_r_13 : own_Obj Z h13 r "com/example/hapax/hapax/core/Result" [("com/example/hapax/hapax/core/Result", "status", "I", (.int sv)), ("com/example/hapax/hapax/core/Result", "headers", "Ljava/util/Map;", (.ref ub)), ("com/example/hapax/hapax/core/Result", "body", "[B", .null)] := O_r_12.put (own_lay_Result hw) rfl own_nd_Result 1 rfl W13
  have Z13 : n0 ≤ h13.size := by rw [Wr.size W13]; exact Z12
  have Y13 := Nat.le_trans Y12 (Nat.le_of_eq (Wr.size W13).symm)
  have N13 := Fr.snoc X13 N12 f_r
  have K13 := K12.wr W13 (Or.inl (List.mem_of_getElem? (i := 0) rfl))
  show own_Fin p e below _ T13 (mkF m 147 #[.val (.ref r), .val (.int sv), .val (.ref hm), .val (.ref bd), .val (.ref b6), .val (.ref it), .unset, .unset] [])
  refine own_seg (T' := T13) (g' := (mkF m 149 #[.val (.ref r), .val (.int sv), .val (.ref hm), .val (.ref bd), .val (.ref b6), .val (.ref it), .unset, .unset] [(.ref bd), (.ref r)])) (fun tg kt => ?_) ?_
  · show Steps p.tables e below (T13.setTop (mkF m 147 #[.val (.ref r), .val (.int sv), .val (.ref hm), .val (.ref bd), .val (.ref b6), .val (.ref it), .unset, .unset] [])) tg
    refine XS.aloadN X13.here hx rfl (hb hby d4_147) rfl rfl ?_
    show Steps p.tables e below (T13.setTop (mkF m 148 #[.val (.ref r), .val (.int sv), .val (.ref hm), .val (.ref bd), .val (.ref b6), .val (.ref it), .unset, .unset] [(.ref r)])) tg
    refine XS.aloadN X13.here hx rfl (hb hby d4_148) rfl rfl ?_
    exact kt
  refine own_cloneB K X13 e13 (hw _ (List.mem_of_getElem? (i := 161) rfl)) (hw _ (List.mem_of_getElem? (i := 162) rfl)) (hw _ (List.mem_of_getElem? (i := 166) rfl)) (hw _ (List.mem_of_getElem? (i := 164) rfl)) (hw _ (List.mem_of_getElem? (i := 165) rfl)) (hw _ (List.mem_of_getElem? (i := 167) rfl)) O_bd_13 3 (by omega) rfl d4_149 (by decide) (Nat.le_of_ble_eq_true rfl) (by decide) (by decide) ?_
  intro T14 h14 b14 g14 X14 e14 E14 O_b14_14
  have ne_r_b14 : r ≠ b14 := Nat.ne_of_lt (Nat.lt_of_lt_of_eq O_r_13.lt g14.symm)
  have ne_b14_r := ne_r_b14.symm
  have ne_hm_b14 : hm ≠ b14 := Nat.ne_of_lt (Nat.lt_of_lt_of_eq O_hm_13.lt g14.symm)
  have ne_b14_hm := ne_hm_b14.symm
  have ne_bd_b14 : bd ≠ b14 := Nat.ne_of_lt (Nat.lt_of_lt_of_eq O_bd_13.lt g14.symm)
  have ne_b14_bd := ne_bd_b14.symm
  have ne_b6_b14 : b6 ≠ b14 := Nat.ne_of_lt (Nat.lt_of_lt_of_eq O_b6_13.lt g14.symm)
  have ne_b14_b6 := ne_b6_b14.symm
  have ne_es_b14 : es ≠ b14 := Nat.ne_of_lt (Nat.lt_of_lt_of_eq O_es_13.lt g14.symm)
  have ne_b14_es := ne_es_b14.symm
  have ne_it_b14 : it ≠ b14 := Nat.ne_of_lt (Nat.lt_of_lt_of_eq O_it_13.lt g14.symm)
  have ne_b14_it := ne_it_b14.symm
  have O_r_14 : own_Obj Z h14 r "com/example/hapax/hapax/core/Result" [("com/example/hapax/hapax/core/Result", "status", "I", (.int sv)), ("com/example/hapax/hapax/core/Result", "headers", "Ljava/util/Map;", (.ref ub)), ("com/example/hapax/hapax/core/Result", "body", "[B", .null)] := O_r_13.ext E14
  have O_hm_14 : own_Obj Z h14 hm "java/util/HashMap" [("java/util/HashMap", "loadFactor", "F", (.float (1061158912 : UInt32))), ("java/util/HashMap", "entrySet", "Ljava/util/Set;", (.ref es)), ("java/util/HashMap", "modCount", "I", (.int (0 : Int32))), ("java/util/HashMap", "table", "[Ljava/util/HashMap$Node;", .null)] := O_hm_13.ext E14
  have O_bd_14 : own_Byt Z h14 bd n g := O_bd_13.ext E14
  have O_b6_14 : own_Obj Z h14 b6 "java/util/LinkedHashMap" [("java/util/HashMap", "loadFactor", "F", (.float (1061158912 : UInt32))), ("java/util/LinkedHashMap", "putMode", "I", (.int (0 : Int32))), ("java/util/LinkedHashMap", "accessOrder", "Z", (.int (0 : Int32)))] := O_b6_13.ext E14
  have O_es_14 : own_Obj Z h14 es "java/util/HashMap$EntrySet" [("java/util/HashMap$EntrySet", "this$0", "Ljava/util/HashMap;", (.ref hm))] := O_es_13.ext E14
  have O_it_14 : own_Obj Z h14 it "java/util/HashMap$EntryIterator" [("java/util/HashMap$HashIterator", "this$0", "Ljava/util/HashMap;", (.ref hm)), ("java/util/HashMap$HashIterator", "expectedModCount", "I", (.int (0 : Int32))), ("java/util/HashMap$HashIterator", "next", "Ljava/util/HashMap$Node;", .null), ("java/util/HashMap$HashIterator", "current", "Ljava/util/HashMap$Node;", .null), ("java/util/HashMap$HashIterator", "index", "I", (.int (0 : Int32)))] := O_it_13.ext E14
  have f_b14 : n0 ≤ b14 := Nat.le_trans Z13 (Nat.le_of_eq g14.symm)
  have Z14 : n0 ≤ h14.size := Nat.le_trans Z13 E14.1
  have Y14 := Nat.le_trans Y13 E14.1
  have sz_b14 : h0.size ≤ b14 := Nat.le_trans K13.1 (Nat.le_of_eq g14.symm)
  have K14 := K13.ext E14
  show own_Fin p e below _ T14 (mkF m 152 #[.val (.ref r), .val (.int sv), .val (.ref hm), .val (.ref bd), .val (.ref b6), .val (.ref it), .unset, .unset] [(.ref b14), (.ref r)])
  refine own_castY K X14 e14 (hw _ (List.mem_of_getElem? (i := 168) rfl)) (Ins.self O_b14_14.2) d4_152 ?_
  intro T15 X15 e15
  show own_Fin p e below _ T15 (mkF m 155 #[.val (.ref r), .val (.int sv), .val (.ref hm), .val (.ref bd), .val (.ref b6), .val (.ref it), .unset, .unset] [(.ref b14), (.ref r)])
  refine own_putF K X15 e15 (host := "") (Or.inl (hw _ (List.mem_of_getElem? (i := 170) rfl))) Via.refl (O_r_14.get 2 rfl) O_r_14.exa (Or.inr ⟨(hw _ (List.mem_of_getElem? (i := 171) rfl)), rfl, rfl⟩) (hw _ (List.mem_of_getElem? (i := 21) rfl)) (ty := (.array .byte)) (by decide) rfl rfl d4_155 ?_
  intro T16 h16 X16 e16 W16
  have O_hm_16 : own_Obj Z h16 hm "java/util/HashMap" [("java/util/HashMap", "loadFactor", "F", (.float (1061158912 : UInt32))), ("java/util/HashMap", "entrySet", "Ljava/util/Set;", (.ref es)), ("java/util/HashMap", "modCount", "I", (.int (0 : Int32))), ("java/util/HashMap", "table", "[Ljava/util/HashMap$Node;", .null)] := O_hm_14.other W16 ne_hm_r
  have O_bd_16 : own_Byt Z h16 bd n g := O_bd_14.other W16 ne_bd_r
  have O_b6_16 : own_Obj Z h16 b6 "java/util/LinkedHashMap" [("java/util/HashMap", "loadFactor", "F", (.float (1061158912 : UInt32))), ("java/util/LinkedHashMap", "putMode", "I", (.int (0 : Int32))), ("java/util/LinkedHashMap", "accessOrder", "Z", (.int (0 : Int32)))] := O_b6_14.other W16 ne_b6_r
  have O_es_16 : own_Obj Z h16 es "java/util/HashMap$EntrySet" [("java/util/HashMap$EntrySet", "this$0", "Ljava/util/HashMap;", (.ref hm))] := O_es_14.other W16 ne_es_r
  have O_it_16 : own_Obj Z h16 it "java/util/HashMap$EntryIterator" [("java/util/HashMap$HashIterator", "this$0", "Ljava/util/HashMap;", (.ref hm)), ("java/util/HashMap$HashIterator", "expectedModCount", "I", (.int (0 : Int32))), ("java/util/HashMap$HashIterator", "next", "Ljava/util/HashMap$Node;", .null), ("java/util/HashMap$HashIterator", "current", "Ljava/util/HashMap$Node;", .null), ("java/util/HashMap$HashIterator", "index", "I", (.int (0 : Int32)))] := O_it_14.other W16 ne_it_r
  have O_b14_16 : own_Byt Z h16 b14 n g := O_b14_14.other W16 ne_b14_r
  have O_r_16 : own_Obj Z h16 r "com/example/hapax/hapax/core/Result" [("com/example/hapax/hapax/core/Result", "status", "I", (.int sv)), ("com/example/hapax/hapax/core/Result", "headers", "Ljava/util/Map;", (.ref ub)), ("com/example/hapax/hapax/core/Result", "body", "[B", (.ref b14))] := O_r_14.put (own_lay_Result hw) rfl own_nd_Result 2 rfl W16
  have Z16 : n0 ≤ h16.size := by rw [Wr.size W16]; exact Z14
  have Y16 := Nat.le_trans Y14 (Nat.le_of_eq (Wr.size W16).symm)
  have N16 := Fr.snoc X16 N13 f_r
  have K16 := K14.wr W16 (Or.inl (List.mem_of_getElem? (i := 0) rfl))
  show own_Fin p e below _ T16 (mkF m 158 #[.val (.ref r), .val (.int sv), .val (.ref hm), .val (.ref bd), .val (.ref b6), .val (.ref it), .unset, .unset] [])
  exact own_retVW K X16 hS4 (by rw [e16]; exact Y16) d4_158 (by rw [e16]; exact ⟨rfl, N16, K16, ub, b14, O_r_16⟩) (by decide) (by decide)
theorem own_pn17 : plainName "com/example/hapax/hapax/core/Result" = true := by first | (simp [plainName, overriddenIn]; done) | decide +kernel
theorem d17_0 : decode prog_26_method_5_code 0 = .ok (.aload_n 0, 1) := by decide +kernel
theorem d17_1 : decode prog_26_method_5_code 1 = .ok (.getfield 77, 3) := by decide +kernel
theorem d17_4 : decode prog_26_method_5_code 4 = .ok (.sipush 500, 3) := by decide +kernel
theorem d17_7 : decode prog_26_method_5_code 7 = .ok (.if_icmp .ge 7, 3) := by decide +kernel
theorem d17_10 : decode prog_26_method_5_code 10 = .ok (.iconst 1, 1) := by decide +kernel
theorem d17_11 : decode prog_26_method_5_code 11 = .ok (.goto 4, 3) := by decide +kernel
theorem d17_15 : decode prog_26_method_5_code 15 = .ok (.ireturn, 1) := by decide +kernel
theorem d17_14 : decode prog_26_method_5_code 14 = .ok (.iconst 0, 1) := by decide +kernel
set_option maxRecDepth 65536 in
set_option maxHeartbeats 40000000 in
theorem rmIF (l : Launch) (Z : State) (a0 : Array Value) (hw : ∀ d ∈ tables_1, d.before a0 Z = true) (r ub b2 : Addr) (sv : Int32) (h0 : Heap) (n0 : Nat) (Z0 : n0 ≤ h0.size) (O_r : own_Obj Z h0 r "com/example/hapax/hapax/core/Result" [("com/example/hapax/hapax/core/Result", "status", "I", (.int sv)), ("com/example/hapax/hapax/core/Result", "headers", "Ljava/util/Map;", (.ref ub)), ("com/example/hapax/hapax/core/Result", "body", "[B", (.ref b2))]) :
    own_Met l Z (⟨"com/example/hapax/hapax/core/Result", "isFinal", "()Z"⟩ : MethodName) prog_26_method_5_code 1 (some .boolean) ({ frames := 0, cells := 0, slots := 0, locals := 0 } : Room) #[(.ref r)] h0 (own_QI (own_fin sv) h0 n0) := by
  refine own_enter (plainFor_of_name own_pn17) (fun m => by first | (simp [entryFrame, mkF, argsToLocals, Value.category, maxLocals]; done) | rfl) (Ls := #[.val (.ref r)]) ?_
  intro p e s m below meth c T0 K X0 e0
  have hx := K.1
  have hZ := K.2.1
  have hby := K.2.2.1
  have hown := K.2.2.2.2.1
  have N0 := Fr.nil n0
  show own_Fin p e below _ T0 (mkF m 0 #[.val (.ref r)] [])
  refine own_seg (T' := T0) (g' := (mkF m 1 #[.val (.ref r)] [(.ref r)])) (fun tg kt => ?_) ?_
  · show Steps p.tables e below (T0.setTop (mkF m 0 #[.val (.ref r)] [])) tg
    refine XS.aloadN X0.here hx rfl (hb hby d17_0) rfl rfl ?_
    exact kt
  refine own_getF K X0 e0 (host := "") (Or.inl (hw _ (List.mem_of_getElem? (i := 133) rfl))) Via.refl (O_r.get 0 rfl) d17_1 ?_
  intro T1 X1 e1
  show own_Fin p e below _ T1 (mkF m 4 #[.val (.ref r)] [(.int sv)])
  refine own_seg (T' := T1) (g' := (mkF m 7 #[.val (.ref r)] [(.int (500 : Int32)), (.int sv)])) (fun tg kt => ?_) ?_
  · show Steps p.tables e below (T1.setTop (mkF m 4 #[.val (.ref r)] [(.int sv)])) tg
    refine XS.sipush X1.here hx rfl (hb hby d17_4) ?_
    exact kt
  by_cases hc7 : sv < (500 : Int32)
  · skip
    refine own_seg (T' := T1) (g' := (mkF m 10 #[.val (.ref r)] [])) (fun tg kt => XS.icmpNo X1.here hx rfl (hb hby d17_7) rfl (tlt hc7).2.1 kt) ?_
    refine own_seg (T' := T1) (g' := (mkF m 15 #[.val (.ref r)] [(.int (1 : Int32))])) (fun tg kt => ?_) ?_
    · show Steps p.tables e below (T1.setTop (mkF m 10 #[.val (.ref r)] [])) tg
      refine XS.iconst X1.here hx rfl (hb hby d17_10) ?_
      show Steps p.tables e below (T1.setTop (mkF m 11 #[.val (.ref r)] [(.int (1 : Int32))])) tg
      refine XS.goto X1.here hx rfl (pc0 := 11) (pc' := 15) rfl (hb hby d17_11) (by decide) (by decide) ?_
      exact kt
    exact own_retN K (by simp) X1 d17_15 (⟨congrArg (fun z => some (Value.int z)) (show (1 : Int32) = own_fin sv from by rw [own_fin, if_pos hc7]), N0, e1⟩) (by decide) (by decide)
  · skip
    refine own_seg (T' := T1) (g' := (mkF m 14 #[.val (.ref r)] [])) (fun tg kt => XS.icmpYes X1.here hx rfl (pc0 := 7) (pc' := 14) rfl (hb hby d17_7) rfl (flt hc7).2.1 (by decide) (by decide) kt) ?_
    refine own_seg (T' := T1) (g' := (mkF m 15 #[.val (.ref r)] [(.int (0 : Int32))])) (fun tg kt => ?_) ?_
    · show Steps p.tables e below (T1.setTop (mkF m 14 #[.val (.ref r)] [])) tg
      refine XS.iconst X1.here hx rfl (hb hby d17_14) ?_
      exact kt
    exact own_retN K (by simp) X1 d17_15 (⟨congrArg (fun z => some (Value.int z)) (show (0 : Int32) = own_fin sv from by rw [own_fin, if_neg hc7]), N0, e1⟩) (by decide) (by decide)
theorem own_pn18 : plainName "com/example/hapax/hapax/core/Result" = true := by first | (simp [plainName, overriddenIn]; done) | decide +kernel
theorem d18_0 : decode prog_26_method_2_code 0 = .ok (.aload_n 0, 1) := by decide +kernel
theorem d18_1 : decode prog_26_method_2_code 1 = .ok (.getfield 77, 3) := by decide +kernel
theorem d18_4 : decode prog_26_method_2_code 4 = .ok (.ireturn, 1) := by decide +kernel
set_option maxRecDepth 65536 in
set_option maxHeartbeats 40000000 in
theorem rmST (l : Launch) (Z : State) (a0 : Array Value) (hw : ∀ d ∈ tables_1, d.before a0 Z = true) (r ub b2 : Addr) (sv : Int32) (h0 : Heap) (n0 : Nat) (Z0 : n0 ≤ h0.size) (O_r : own_Obj Z h0 r "com/example/hapax/hapax/core/Result" [("com/example/hapax/hapax/core/Result", "status", "I", (.int sv)), ("com/example/hapax/hapax/core/Result", "headers", "Ljava/util/Map;", (.ref ub)), ("com/example/hapax/hapax/core/Result", "body", "[B", (.ref b2))]) :
    own_Met l Z (⟨"com/example/hapax/hapax/core/Result", "status", "()I"⟩ : MethodName) prog_26_method_2_code 1 (some .int) ({ frames := 0, cells := 0, slots := 0, locals := 0 } : Room) #[(.ref r)] h0 (own_QI sv h0 n0) := by
  refine own_enter (plainFor_of_name own_pn18) (fun m => by first | (simp [entryFrame, mkF, argsToLocals, Value.category, maxLocals]; done) | rfl) (Ls := #[.val (.ref r)]) ?_
  intro p e s m below meth c T0 K X0 e0
  have hx := K.1
  have hZ := K.2.1
  have hby := K.2.2.1
  have hown := K.2.2.2.2.1
  have N0 := Fr.nil n0
  show own_Fin p e below _ T0 (mkF m 0 #[.val (.ref r)] [])
  refine own_seg (T' := T0) (g' := (mkF m 1 #[.val (.ref r)] [(.ref r)])) (fun tg kt => ?_) ?_
  · show Steps p.tables e below (T0.setTop (mkF m 0 #[.val (.ref r)] [])) tg
    refine XS.aloadN X0.here hx rfl (hb hby d18_0) rfl rfl ?_
    exact kt
  refine own_getF K X0 e0 (host := "") (Or.inl (hw _ (List.mem_of_getElem? (i := 133) rfl))) Via.refl (O_r.get 0 rfl) d18_1 ?_
  intro T1 X1 e1
  show own_Fin p e below _ T1 (mkF m 4 #[.val (.ref r)] [(.int sv)])
  exact own_retI K X1 d18_4 (⟨rfl, N0, e1⟩) (by decide) (by decide)
--CUT
theorem own_pn0 : plainName "com/example/hapax/hapax/core/ResultIsFinalPinLaw" = true := by first | (simp [plainName, overriddenIn]; done) | decide +kernel
theorem own_pd8 : parseMethodDescriptor "(ILjava/util/Map;[B)V" = some ⟨[.int, (.object "java/util/Map"), (.array .byte)], none⟩ := by decide +kernel
theorem own_pd9 : parseMethodDescriptor "()I" = some ⟨[], some .int⟩ := by decide +kernel
set_option maxRecDepth 65536 in
set_option maxHeartbeats 40000000 in
theorem rm0 (l : Launch) (Z : State) (a0 : Array Value) (hw : ∀ d ∈ tables_1, d.before a0 Z = true) (i0 i1 : Int32) (mr1 mr2 : Addr) (h0 : Heap) (n0 : Nat) (Z0 : n0 ≤ h0.size) (M1 : Mir Z "java/util/LinkedHashMap" mr1) (M2 : Mir Z "java/util/Collections$UnmodifiableMap" mr2) :
    own_MetW l Z x code maxLocals ret room_1 #[(.int i0), (.int i1)] h0 (own_Q1 n0) := by
  refine own_enterW (plainFor_of_name own_pn0) (fun m => by first | (simp [entryFrame, mkF, argsToLocals, Value.category, maxLocals]; done) | rfl) (Ls := #[.val (.int i0), .val (.int i1), .unset, .unset, .unset, .unset, .unset]) ?_
  intro p e s m below meth c T0 K X0 e0 hS0
  have hx := K.1
  have hZ := K.2.1
  have hby := K.2.2.1
  have hown := K.2.2.2.2.1
  have N0 := Fr.nil n0
  show own_Fin p e below _ T0 (mkF m 0 #[.val (.int i0), .val (.int i1), .unset, .unset, .unset, .unset, .unset] [])
  refine own_seg (T' := T0) (g' := (mkF m 12 #[.val (.int i0), .val (.int i1), .val (.int ((100 : Int32) + ((i0 &&& (2147483647 : Int32)) % (500 : Int32)))), .unset, .unset, .unset, .unset] [])) (fun tg kt => ?_) ?_
  · show Steps p.tables e below (T0.setTop (mkF m 0 #[.val (.int i0), .val (.int i1), .unset, .unset, .unset, .unset, .unset] [])) tg
    refine XS.bipush X0.here hx rfl (hb hby at_0) ?_
    show Steps p.tables e below (T0.setTop (mkF m 2 #[.val (.int i0), .val (.int i1), .unset, .unset, .unset, .unset, .unset] [(.int (100 : Int32))])) tg
    refine XS.iloadN X0.here hx rfl (hb hby at_2) rfl ?_
    show Steps p.tables e below (T0.setTop (mkF m 3 #[.val (.int i0), .val (.int i1), .unset, .unset, .unset, .unset, .unset] [(.int i0), (.int (100 : Int32))])) tg
    refine X0.ldcInt hx hown (mvT hZ (hw _ (List.mem_of_getElem? (i := 0) rfl))) (g := (mkF m 3 #[.val (.int i0), .val (.int i1), .unset, .unset, .unset, .unset, .unset] [(.int i0), (.int (100 : Int32))])) rfl (hb hby at_3) _ ?_
    show Steps p.tables e below (T0.setTop (mkF m 5 #[.val (.int i0), .val (.int i1), .unset, .unset, .unset, .unset, .unset] [(.int (2147483647 : Int32)), (.int i0), (.int (100 : Int32))])) tg
    refine XS.iand X0.here hx rfl (hb hby at_5) rfl ?_
    show Steps p.tables e below (T0.setTop (mkF m 6 #[.val (.int i0), .val (.int i1), .unset, .unset, .unset, .unset, .unset] [(.int (i0 &&& (2147483647 : Int32))), (.int (100 : Int32))])) tg
    refine XS.sipush X0.here hx rfl (hb hby at_6) ?_
    show Steps p.tables e below (T0.setTop (mkF m 9 #[.val (.int i0), .val (.int i1), .unset, .unset, .unset, .unset, .unset] [(.int (500 : Int32)), (.int (i0 &&& (2147483647 : Int32))), (.int (100 : Int32))])) tg
    refine iremM X0 hx rfl (hb hby at_9) rfl (by decide) ?_
    show Steps p.tables e below (T0.setTop (mkF m 10 #[.val (.int i0), .val (.int i1), .unset, .unset, .unset, .unset, .unset] [(.int ((i0 &&& (2147483647 : Int32)) % (500 : Int32))), (.int (100 : Int32))])) tg
    refine XS.iadd X0.here hx rfl (hb hby at_10) rfl ?_
    show Steps p.tables e below (T0.setTop (mkF m 11 #[.val (.int i0), .val (.int i1), .unset, .unset, .unset, .unset, .unset] [(.int ((100 : Int32) + ((i0 &&& (2147483647 : Int32)) % (500 : Int32))))])) tg
    refine XS.istoreN X0.here hx rfl (hb hby at_11) rfl (l' := #[.val (.int i0), .val (.int i1), .val (.int ((100 : Int32) + ((i0 &&& (2147483647 : Int32)) % (500 : Int32)))), .unset, .unset, .unset, .unset]) rfl ?_
    exact kt
  obtain ⟨sv, esv, hlo, hhi⟩ := own_sv i0
  rw [esv]
  refine own_seg (T' := T0) (g' := (mkF m 15 #[.val (.int i0), .val (.int i1), .val (.int sv), .unset, .unset, .unset, .unset] [(.int (i1 &&& (3 : Int32)))])) (fun tg kt => ?_) ?_
  · show Steps p.tables e below (T0.setTop (mkF m 12 #[.val (.int i0), .val (.int i1), .val (.int sv), .unset, .unset, .unset, .unset] [])) tg
    refine XS.iloadN X0.here hx rfl (hb hby at_12) rfl ?_
    show Steps p.tables e below (T0.setTop (mkF m 13 #[.val (.int i0), .val (.int i1), .val (.int sv), .unset, .unset, .unset, .unset] [(.int i1)])) tg
    refine XS.iconst X0.here hx rfl (hb hby at_13) ?_
    show Steps p.tables e below (T0.setTop (mkF m 14 #[.val (.int i0), .val (.int i1), .val (.int sv), .unset, .unset, .unset, .unset] [(.int (3 : Int32)), (.int i1)])) tg
    refine XS.iand X0.here hx rfl (hb hby at_14) rfl ?_
    exact kt
  obtain ⟨n, hn, en⟩ := own_n3 i1
  rw [en]
  refine own_newB K X0 e0 (hw _ (List.mem_of_getElem? (i := 1) rfl)) n (own_nn (by omega)) (own_cl (by omega)) 3 (by omega) (by decide) at_15 (by decide) (by decide) ?_
  intro T1 h1 b1 g1 X1 e1 E1 O_b1_1
  have f_b1 : n0 ≤ b1 := Nat.le_trans Z0 (Nat.le_of_eq g1.symm)
  have Z1 : n0 ≤ h1.size := Nat.le_trans Z0 E1.1
  have Y1 := Nat.le_trans (Nat.zero_le _) E1.1
  show own_Fin p e below _ T1 (mkF m 17 #[.val (.int i0), .val (.int i1), .val (.int sv), .unset, .unset, .unset, .unset] [(.ref b1)])
  refine own_seg (T' := T1) (g' := (mkF m 18 #[.val (.int i0), .val (.int i1), .val (.int sv), .val (.ref b1), .unset, .unset, .unset] [])) (fun tg kt => ?_) ?_
  · show Steps p.tables e below (T1.setTop (mkF m 17 #[.val (.int i0), .val (.int i1), .val (.int sv), .unset, .unset, .unset, .unset] [(.ref b1)])) tg
    refine XS.astoreN X1.here hx rfl (hb hby at_17) rfl rfl (l' := #[.val (.int i0), .val (.int i1), .val (.int sv), .val (.ref b1), .unset, .unset, .unset]) rfl ?_
    exact kt
  refine own_newO K X1 e1 (hw _ (List.mem_of_getElem? (i := 2) rfl)) (hw _ (List.mem_of_getElem? (i := 3) rfl)) (hw _ (List.mem_of_getElem? (i := 4) rfl)) at_18 (by decide) (by decide) ?_
  intro T2 h2 b2 g2 X2 e2 E2 A2 D2
  have ne_b1_b2 : b1 ≠ b2 := Nat.ne_of_lt (Nat.lt_of_lt_of_eq O_b1_1.lt g2.symm)
  have ne_b2_b1 := ne_b1_b2.symm
  have O_b1_2 : own_Byt Z h2 b1 n (fun _ => 0) := O_b1_1.ext E2
  have f_b2 : n0 ≤ b2 := Nat.le_trans Z1 (Nat.le_of_eq g2.symm)
  have Z2 : n0 ≤ h2.size := Nat.le_trans Z1 E2.1
  have Y2 := Nat.le_trans Y1 E2.1
  have O_b2_2 : own_Obj Z h2 b2 "java/util/HashMap" [("java/util/HashMap", "loadFactor", "F", (.float 0)), ("java/util/HashMap", "entrySet", "Ljava/util/Set;", .null), ("java/util/HashMap", "modCount", "I", (.int (0 : Int32))), ("java/util/HashMap", "table", "[Ljava/util/HashMap$Node;", .null)] := ⟨A2, by
    intro q hq
    simp only [List.mem_cons, List.not_mem_nil, or_false] at hq
    rcases hq with rfl | rfl | rfl | rfl
    · exact D2 (Or.inr (hw _ (List.mem_of_getElem? (i := 19) rfl))) (ty := .float) (by decide)
    · exact D2 (Or.inl (hw _ (List.mem_of_getElem? (i := 64) rfl))) (ty := (.object "java/util/Set")) (by decide)
    · exact D2 (Or.inl (hw _ (List.mem_of_getElem? (i := 113) rfl))) (ty := .int) (by decide)
    · exact D2 (Or.inl (hw _ (List.mem_of_getElem? (i := 117) rfl))) (ty := (.array (.object "java/util/HashMap$Node"))) (by decide)⟩
  show own_Fin p e below _ T2 (mkF m 21 #[.val (.int i0), .val (.int i1), .val (.int sv), .val (.ref b1), .unset, .unset, .unset] [(.ref b2)])
  refine own_seg (T' := T2) (g' := (mkF m 22 #[.val (.int i0), .val (.int i1), .val (.int sv), .val (.ref b1), .unset, .unset, .unset] [(.ref b2), (.ref b2)])) (fun tg kt => ?_) ?_
  · show Steps p.tables e below (T2.setTop (mkF m 21 #[.val (.int i0), .val (.int i1), .val (.int sv), .val (.ref b1), .unset, .unset, .unset] [(.ref b2)])) tg
    refine XS.dup X2.here hx rfl (hb hby at_21) rfl rfl ?_
    exact kt
  refine own_callI K X2 e2 (rmHM_H l Z a0 hw b2 h2 n0 Z2 O_b2_2 f_b2) rfl (hw _ (List.mem_of_getElem? (i := 5) rfl)) (hw _ (List.mem_of_getElem? (i := 6) rfl)) (hw _ (List.mem_of_getElem? (i := 4) rfl)) (hw _ (List.mem_of_getElem? (i := 7) rfl)) (by decide) b2 [] [(.ref b2)] own_pd0 rfl rfl rfl rfl at_22 (by decide) (Nat.le_of_ble_eq_true rfl) (by decide) (by decide) ?_
  intro T3 L3 v3 X3 hQ3
  obtain ⟨h3, e3⟩ : ∃ z, T3.heap = z := ⟨_, rfl⟩
  rw [e3] at hQ3
  obtain ⟨rfl, Nq3, Kq3, Oq3_b2⟩ := hQ3
  have N3 := Fr.app N0 Nq3
  have O_b1_3 : own_Byt Z h3 b1 n (fun _ => 0) := O_b1_2.keep Kq3 (ninS ne_b1_b2 nin0)
  have Z3 : n0 ≤ h3.size := Nat.le_trans Z2 Kq3.1
  have Y3 := Nat.le_trans Y2 Kq3.1
  show own_Fin p e below _ T3 (mkF m 25 #[.val (.int i0), .val (.int i1), .val (.int sv), .val (.ref b1), .unset, .unset, .unset] [(.ref b2)])
  refine own_seg (T' := T3) (g' := (mkF m 27 #[.val (.int i0), .val (.int i1), .val (.int sv), .val (.ref b1), .val (.ref b2), .unset, .unset] [])) (fun tg kt => ?_) ?_
  · show Steps p.tables e below (T3.setTop (mkF m 25 #[.val (.int i0), .val (.int i1), .val (.int sv), .val (.ref b1), .unset, .unset, .unset] [(.ref b2)])) tg
    refine XS.astore X3.here hx rfl (hb hby at_25) rfl rfl (l' := #[.val (.int i0), .val (.int i1), .val (.int sv), .val (.ref b1), .val (.ref b2), .unset, .unset]) rfl ?_
    exact kt
  refine own_newO K X3 e3 (hw _ (List.mem_of_getElem? (i := 20) rfl)) (hw _ (List.mem_of_getElem? (i := 21) rfl)) (hw _ (List.mem_of_getElem? (i := 22) rfl)) at_27 (by decide) (by decide) ?_
  intro T4 h4 b4 g4 X4 e4 E4 A4 D4
  have ne_b1_b4 : b1 ≠ b4 := Nat.ne_of_lt (Nat.lt_of_lt_of_eq O_b1_3.lt g4.symm)
  have ne_b4_b1 := ne_b1_b4.symm
  have ne_b2_b4 : b2 ≠ b4 := Nat.ne_of_lt (Nat.lt_of_lt_of_eq Oq3_b2.lt g4.symm)
  have ne_b4_b2 := ne_b2_b4.symm
  have O_b1_4 : own_Byt Z h4 b1 n (fun _ => 0) := O_b1_3.ext E4
  have O_b2_4 : own_Obj Z h4 b2 "java/util/HashMap" [("java/util/HashMap", "loadFactor", "F", (.float (1061158912 : UInt32))), ("java/util/HashMap", "entrySet", "Ljava/util/Set;", .null), ("java/util/HashMap", "modCount", "I", (.int (0 : Int32))), ("java/util/HashMap", "table", "[Ljava/util/HashMap$Node;", .null)] := Oq3_b2.ext E4
  have f_b4 : n0 ≤ b4 := Nat.le_trans Z3 (Nat.le_of_eq g4.symm)
  have Z4 : n0 ≤ h4.size := Nat.le_trans Z3 E4.1
  have Y4 := Nat.le_trans Y3 E4.1
  have O_b4_4 : own_Obj Z h4 b4 "com/example/hapax/hapax/core/Result" [("com/example/hapax/hapax/core/Result", "status", "I", (.int (0 : Int32))), ("com/example/hapax/hapax/core/Result", "headers", "Ljava/util/Map;", .null), ("com/example/hapax/hapax/core/Result", "body", "[B", .null)] := ⟨A4, by
    intro q hq
    simp only [List.mem_cons, List.not_mem_nil, or_false] at hq
    rcases hq with rfl | rfl | rfl
    · exact D4 (Or.inr (hw _ (List.mem_of_getElem? (i := 134) rfl))) (ty := .int) (by decide)
    · exact D4 (Or.inr (hw _ (List.mem_of_getElem? (i := 160) rfl))) (ty := (.object "java/util/Map")) (by decide)
    · exact D4 (Or.inr (hw _ (List.mem_of_getElem? (i := 171) rfl))) (ty := (.array .byte)) (by decide)⟩
  show own_Fin p e below _ T4 (mkF m 30 #[.val (.int i0), .val (.int i1), .val (.int sv), .val (.ref b1), .val (.ref b2), .unset, .unset] [(.ref b4)])
  refine own_seg (T' := T4) (g' := (mkF m 35 #[.val (.int i0), .val (.int i1), .val (.int sv), .val (.ref b1), .val (.ref b2), .unset, .unset] [(.ref b1), (.ref b2), (.int sv), (.ref b4), (.ref b4)])) (fun tg kt => ?_) ?_
  · show Steps p.tables e below (T4.setTop (mkF m 30 #[.val (.int i0), .val (.int i1), .val (.int sv), .val (.ref b1), .val (.ref b2), .unset, .unset] [(.ref b4)])) tg
    refine XS.dup X4.here hx rfl (hb hby at_30) rfl rfl ?_
    show Steps p.tables e below (T4.setTop (mkF m 31 #[.val (.int i0), .val (.int i1), .val (.int sv), .val (.ref b1), .val (.ref b2), .unset, .unset] [(.ref b4), (.ref b4)])) tg
    refine XS.iloadN X4.here hx rfl (hb hby at_31) rfl ?_
    show Steps p.tables e below (T4.setTop (mkF m 32 #[.val (.int i0), .val (.int i1), .val (.int sv), .val (.ref b1), .val (.ref b2), .unset, .unset] [(.int sv), (.ref b4), (.ref b4)])) tg
    refine XS.aload X4.here hx rfl (hb hby at_32) rfl rfl ?_
    show Steps p.tables e below (T4.setTop (mkF m 34 #[.val (.int i0), .val (.int i1), .val (.int sv), .val (.ref b1), .val (.ref b2), .unset, .unset] [(.ref b2), (.int sv), (.ref b4), (.ref b4)])) tg
    refine XS.aloadN X4.here hx rfl (hb hby at_34) rfl rfl ?_
    exact kt
  refine own_callIW K X4 e4 hS0 Y4 (rmRS l Z a0 hw b4 b2 b1 sv n (fun _ => 0) mr1 mr2 h4 n0 Z4 O_b4_4 O_b2_4 O_b1_4 hn hlo hhi f_b4 f_b2 ne_b4_b2 ne_b4_b1 ne_b2_b4 ne_b2_b1 ne_b1_b4 ne_b1_b2 M1 M2) rfl (hw _ (List.mem_of_getElem? (i := 23) rfl)) (hw _ (List.mem_of_getElem? (i := 24) rfl)) (hw _ (List.mem_of_getElem? (i := 22) rfl)) (hw _ (List.mem_of_getElem? (i := 25) rfl)) (by decide) b4 [(.int sv), (.ref b2), (.ref b1)] [(.ref b4)] own_pd8 rfl rfl rfl rfl at_35 (by decide) (Nat.le_of_ble_eq_true rfl) (by decide) (by decide) ?_
  intro T5 L5 v5 k5 K X5 hS5 Y5 hQ5
  have hx := K.1
  have hZ := K.2.1
  have hby := K.2.2.1
  have hown := K.2.2.2.2.1
  obtain ⟨h5, e5⟩ : ∃ z, T5.heap = z := ⟨_, rfl⟩
  rw [e5] at hQ5 Y5
  obtain ⟨rfl, Nq5, Kq5, ub_, bx_, Or_⟩ := hQ5
  have N5 := Fr.app N3 Nq5
  have O_b1_5 : own_Byt Z h5 b1 n (fun _ => 0) := O_b1_4.keep Kq5 (ninS ne_b1_b4 (ninS ne_b1_b2 nin0))
  have Z5 : n0 ≤ h5.size := Nat.le_trans Z4 Kq5.1
  show own_Fin p e below _ T5 (mkF m 38 #[.val (.int i0), .val (.int i1), .val (.int sv), .val (.ref b1), .val (.ref b2), .unset, .unset] [(.ref b4)])
  refine own_seg (T' := T5) (g' := (mkF m 44 #[.val (.int i0), .val (.int i1), .val (.int sv), .val (.ref b1), .val (.ref b2), .val (.ref b4), .unset] [(.int (499 : Int32)), (.int sv)])) (fun tg kt => ?_) ?_
  · show Steps p.tables e below (T5.setTop (mkF m 38 #[.val (.int i0), .val (.int i1), .val (.int sv), .val (.ref b1), .val (.ref b2), .unset, .unset] [(.ref b4)])) tg
    refine XS.astore X5.here hx rfl (hb hby at_38) rfl rfl (l' := #[.val (.int i0), .val (.int i1), .val (.int sv), .val (.ref b1), .val (.ref b2), .val (.ref b4), .unset]) rfl ?_
    show Steps p.tables e below (T5.setTop (mkF m 40 #[.val (.int i0), .val (.int i1), .val (.int sv), .val (.ref b1), .val (.ref b2), .val (.ref b4), .unset] [])) tg
    refine XS.iloadN X5.here hx rfl (hb hby at_40) rfl ?_
    show Steps p.tables e below (T5.setTop (mkF m 41 #[.val (.int i0), .val (.int i1), .val (.int sv), .val (.ref b1), .val (.ref b2), .val (.ref b4), .unset] [(.int sv)])) tg
    refine XS.sipush X5.here hx rfl (hb hby at_41) ?_
    exact kt
  by_cases hc44 : (499 : Int32) < sv
  · skip
    refine own_seg (T' := T5) (g' := (mkF m 51 #[.val (.int i0), .val (.int i1), .val (.int sv), .val (.ref b1), .val (.ref b2), .val (.ref b4), .unset] [])) (fun tg kt => XS.icmpYes X5.here hx rfl (pc0 := 44) (pc' := 51) rfl (hb hby at_44) rfl (tlt hc44).2.2.1 (by decide) (by decide) kt) ?_
    refine own_seg (T' := T5) (g' := (mkF m 56 #[.val (.int i0), .val (.int i1), .val (.int sv), .val (.ref b1), .val (.ref b2), .val (.ref b4), .val (.int (0 : Int32))] [(.ref b4)])) (fun tg kt => ?_) ?_
    · show Steps p.tables e below (T5.setTop (mkF m 51 #[.val (.int i0), .val (.int i1), .val (.int sv), .val (.ref b1), .val (.ref b2), .val (.ref b4), .unset] [])) tg
      refine XS.iconst X5.here hx rfl (hb hby at_51) ?_
      show Steps p.tables e below (T5.setTop (mkF m 52 #[.val (.int i0), .val (.int i1), .val (.int sv), .val (.ref b1), .val (.ref b2), .val (.ref b4), .unset] [(.int (0 : Int32))])) tg
      refine XS.istore X5.here hx rfl (hb hby at_52) rfl (l' := #[.val (.int i0), .val (.int i1), .val (.int sv), .val (.ref b1), .val (.ref b2), .val (.ref b4), .val (.int (0 : Int32))]) rfl ?_
      show Steps p.tables e below (T5.setTop (mkF m 54 #[.val (.int i0), .val (.int i1), .val (.int sv), .val (.ref b1), .val (.ref b2), .val (.ref b4), .val (.int (0 : Int32))] [])) tg
      refine XS.aload X5.here hx rfl (hb hby at_54) rfl rfl ?_
      exact kt
    refine own_callV K X5 e5 (rmIF l Z a0 hw b4 ub_ bx_ sv h5 n0 Z5 Or_) (hw _ (List.mem_of_getElem? (i := 172) rfl)) (hw _ (List.mem_of_getElem? (i := 173) rfl)) (fun _ q => notFace_of_selects q) (hw _ (List.mem_of_getElem? (i := 175) rfl)) (hw _ (List.mem_of_getElem? (i := 174) rfl)) (hw _ (List.mem_of_getElem? (i := 22) rfl)) (hw _ (List.mem_of_getElem? (i := 176) rfl)) (by decide) b4 Or_.exa [] [] own_pd6 rfl rfl rfl rfl at_56 (by decide) (Nat.le_of_ble_eq_true rfl) (by decide) (by decide) ?_
    intro T6 L6 v6 X6 hQ6
    obtain ⟨rfl, Nq6, e6⟩ := hQ6
    have N6 := Fr.app N5 Nq6
    show own_Fin p e below _ T6 (mkF m 59 #[.val (.int i0), .val (.int i1), .val (.int sv), .val (.ref b1), .val (.ref b2), .val (.ref b4), .val (.int (0 : Int32))] [(.int (own_fin sv))])
    refine own_seg (T' := T6) (g' := (mkF m 61 #[.val (.int i0), .val (.int i1), .val (.int sv), .val (.ref b1), .val (.ref b2), .val (.ref b4), .val (.int (0 : Int32))] [(.int (0 : Int32)), (.int (own_fin sv))])) (fun tg kt => ?_) ?_
    · show Steps p.tables e below (T6.setTop (mkF m 59 #[.val (.int i0), .val (.int i1), .val (.int sv), .val (.ref b1), .val (.ref b2), .val (.ref b4), .val (.int (0 : Int32))] [(.int (own_fin sv))])) tg
      refine XS.iload X6.here hx rfl (hb hby at_59) rfl ?_
      exact kt
    have hc61 : (own_fin sv) = (0 : Int32) := (by rw [own_fin, if_neg (own_f1 hc44)])
    refine own_seg (T' := T6) (g' := (mkF m 64 #[.val (.int i0), .val (.int i1), .val (.int sv), .val (.ref b1), .val (.ref b2), .val (.ref b4), .val (.int (0 : Int32))] [])) (fun tg kt => XS.icmpNo X6.here hx rfl (hb hby at_61) rfl (teq hc61).2 kt) ?_
    refine own_seg (T' := T6) (g' := (mkF m 66 #[.val (.int i0), .val (.int i1), .val (.int sv), .val (.ref b1), .val (.ref b2), .val (.ref b4), .val (.int (0 : Int32))] [(.ref b4)])) (fun tg kt => ?_) ?_
    · show Steps p.tables e below (T6.setTop (mkF m 64 #[.val (.int i0), .val (.int i1), .val (.int sv), .val (.ref b1), .val (.ref b2), .val (.ref b4), .val (.int (0 : Int32))] [])) tg
      refine XS.aload X6.here hx rfl (hb hby at_64) rfl rfl ?_
      exact kt
    refine own_callV K X6 e6 (rmST l Z a0 hw b4 ub_ bx_ sv h5 n0 Z5 Or_) (hw _ (List.mem_of_getElem? (i := 177) rfl)) (hw _ (List.mem_of_getElem? (i := 178) rfl)) (fun _ q => notFace_of_selects q) (hw _ (List.mem_of_getElem? (i := 180) rfl)) (hw _ (List.mem_of_getElem? (i := 179) rfl)) (hw _ (List.mem_of_getElem? (i := 22) rfl)) (hw _ (List.mem_of_getElem? (i := 181) rfl)) (by decide) b4 Or_.exa [] [] own_pd9 rfl rfl rfl rfl at_66 (by decide) (Nat.le_of_ble_eq_true rfl) (by decide) (by decide) ?_
    intro T7 L7 v7 X7 hQ7
    obtain ⟨rfl, Nq7, e7⟩ := hQ7
    have N7 := Fr.app N6 Nq7
    show own_Fin p e below _ T7 (mkF m 69 #[.val (.int i0), .val (.int i1), .val (.int sv), .val (.ref b1), .val (.ref b2), .val (.ref b4), .val (.int (0 : Int32))] [(.int sv)])
    refine own_seg (T' := T7) (g' := (mkF m 70 #[.val (.int i0), .val (.int i1), .val (.int sv), .val (.ref b1), .val (.ref b2), .val (.ref b4), .val (.int (0 : Int32))] [(.int sv), (.int sv)])) (fun tg kt => ?_) ?_
    · show Steps p.tables e below (T7.setTop (mkF m 69 #[.val (.int i0), .val (.int i1), .val (.int sv), .val (.ref b1), .val (.ref b2), .val (.ref b4), .val (.int (0 : Int32))] [(.int sv)])) tg
      refine XS.iloadN X7.here hx rfl (hb hby at_69) rfl ?_
      exact kt
    have hc70 : sv = sv := rfl
    refine own_seg (T' := T7) (g' := (mkF m 73 #[.val (.int i0), .val (.int i1), .val (.int sv), .val (.ref b1), .val (.ref b2), .val (.ref b4), .val (.int (0 : Int32))] [])) (fun tg kt => XS.icmpNo X7.here hx rfl (hb hby at_70) rfl (teq hc70).2 kt) ?_
    refine own_seg (T' := T7) (g' := (mkF m 78 #[.val (.int i0), .val (.int i1), .val (.int sv), .val (.ref b1), .val (.ref b2), .val (.ref b4), .val (.int (0 : Int32))] [(.int (1 : Int32))])) (fun tg kt => ?_) ?_
    · show Steps p.tables e below (T7.setTop (mkF m 73 #[.val (.int i0), .val (.int i1), .val (.int sv), .val (.ref b1), .val (.ref b2), .val (.ref b4), .val (.int (0 : Int32))] [])) tg
      refine XS.iconst X7.here hx rfl (hb hby at_73) ?_
      show Steps p.tables e below (T7.setTop (mkF m 74 #[.val (.int i0), .val (.int i1), .val (.int sv), .val (.ref b1), .val (.ref b2), .val (.ref b4), .val (.int (0 : Int32))] [(.int (1 : Int32))])) tg
      refine XS.goto X7.here hx rfl (pc0 := 74) (pc' := 78) rfl (hb hby at_74) (by decide) (by decide) ?_
      exact kt
    exact own_retNW K (by simp) X7 hS5 (by rw [e7]; exact Y5) at_78 (⟨rfl, N7⟩) (by decide) (by decide)
  · skip
    refine own_seg (T' := T5) (g' := (mkF m 47 #[.val (.int i0), .val (.int i1), .val (.int sv), .val (.ref b1), .val (.ref b2), .val (.ref b4), .unset] [])) (fun tg kt => XS.icmpNo X5.here hx rfl (hb hby at_44) rfl (flt hc44).2.2.1 kt) ?_
    refine own_seg (T' := T5) (g' := (mkF m 56 #[.val (.int i0), .val (.int i1), .val (.int sv), .val (.ref b1), .val (.ref b2), .val (.ref b4), .val (.int (1 : Int32))] [(.ref b4)])) (fun tg kt => ?_) ?_
    · show Steps p.tables e below (T5.setTop (mkF m 47 #[.val (.int i0), .val (.int i1), .val (.int sv), .val (.ref b1), .val (.ref b2), .val (.ref b4), .unset] [])) tg
      refine XS.iconst X5.here hx rfl (hb hby at_47) ?_
      show Steps p.tables e below (T5.setTop (mkF m 48 #[.val (.int i0), .val (.int i1), .val (.int sv), .val (.ref b1), .val (.ref b2), .val (.ref b4), .unset] [(.int (1 : Int32))])) tg
      refine XS.goto X5.here hx rfl (pc0 := 48) (pc' := 52) rfl (hb hby at_48) (by decide) (by decide) ?_
      show Steps p.tables e below (T5.setTop (mkF m 52 #[.val (.int i0), .val (.int i1), .val (.int sv), .val (.ref b1), .val (.ref b2), .val (.ref b4), .unset] [(.int (1 : Int32))])) tg
      refine XS.istore X5.here hx rfl (hb hby at_52) rfl (l' := #[.val (.int i0), .val (.int i1), .val (.int sv), .val (.ref b1), .val (.ref b2), .val (.ref b4), .val (.int (1 : Int32))]) rfl ?_
      show Steps p.tables e below (T5.setTop (mkF m 54 #[.val (.int i0), .val (.int i1), .val (.int sv), .val (.ref b1), .val (.ref b2), .val (.ref b4), .val (.int (1 : Int32))] [])) tg
      refine XS.aload X5.here hx rfl (hb hby at_54) rfl rfl ?_
      exact kt
    refine own_callV K X5 e5 (rmIF l Z a0 hw b4 ub_ bx_ sv h5 n0 Z5 Or_) (hw _ (List.mem_of_getElem? (i := 172) rfl)) (hw _ (List.mem_of_getElem? (i := 173) rfl)) (fun _ q => notFace_of_selects q) (hw _ (List.mem_of_getElem? (i := 175) rfl)) (hw _ (List.mem_of_getElem? (i := 174) rfl)) (hw _ (List.mem_of_getElem? (i := 22) rfl)) (hw _ (List.mem_of_getElem? (i := 176) rfl)) (by decide) b4 Or_.exa [] [] own_pd6 rfl rfl rfl rfl at_56 (by decide) (Nat.le_of_ble_eq_true rfl) (by decide) (by decide) ?_
    intro T8 L8 v8 X8 hQ8
    obtain ⟨rfl, Nq8, e8⟩ := hQ8
    have N8 := Fr.app N5 Nq8
    show own_Fin p e below _ T8 (mkF m 59 #[.val (.int i0), .val (.int i1), .val (.int sv), .val (.ref b1), .val (.ref b2), .val (.ref b4), .val (.int (1 : Int32))] [(.int (own_fin sv))])
    refine own_seg (T' := T8) (g' := (mkF m 61 #[.val (.int i0), .val (.int i1), .val (.int sv), .val (.ref b1), .val (.ref b2), .val (.ref b4), .val (.int (1 : Int32))] [(.int (1 : Int32)), (.int (own_fin sv))])) (fun tg kt => ?_) ?_
    · show Steps p.tables e below (T8.setTop (mkF m 59 #[.val (.int i0), .val (.int i1), .val (.int sv), .val (.ref b1), .val (.ref b2), .val (.ref b4), .val (.int (1 : Int32))] [(.int (own_fin sv))])) tg
      refine XS.iload X8.here hx rfl (hb hby at_59) rfl ?_
      exact kt
    have hc61 : (own_fin sv) = (1 : Int32) := (by rw [own_fin, if_pos (own_f2 hc44)])
    refine own_seg (T' := T8) (g' := (mkF m 64 #[.val (.int i0), .val (.int i1), .val (.int sv), .val (.ref b1), .val (.ref b2), .val (.ref b4), .val (.int (1 : Int32))] [])) (fun tg kt => XS.icmpNo X8.here hx rfl (hb hby at_61) rfl (teq hc61).2 kt) ?_
    refine own_seg (T' := T8) (g' := (mkF m 66 #[.val (.int i0), .val (.int i1), .val (.int sv), .val (.ref b1), .val (.ref b2), .val (.ref b4), .val (.int (1 : Int32))] [(.ref b4)])) (fun tg kt => ?_) ?_
    · show Steps p.tables e below (T8.setTop (mkF m 64 #[.val (.int i0), .val (.int i1), .val (.int sv), .val (.ref b1), .val (.ref b2), .val (.ref b4), .val (.int (1 : Int32))] [])) tg
      refine XS.aload X8.here hx rfl (hb hby at_64) rfl rfl ?_
      exact kt
    refine own_callV K X8 e8 (rmST l Z a0 hw b4 ub_ bx_ sv h5 n0 Z5 Or_) (hw _ (List.mem_of_getElem? (i := 177) rfl)) (hw _ (List.mem_of_getElem? (i := 178) rfl)) (fun _ q => notFace_of_selects q) (hw _ (List.mem_of_getElem? (i := 180) rfl)) (hw _ (List.mem_of_getElem? (i := 179) rfl)) (hw _ (List.mem_of_getElem? (i := 22) rfl)) (hw _ (List.mem_of_getElem? (i := 181) rfl)) (by decide) b4 Or_.exa [] [] own_pd9 rfl rfl rfl rfl at_66 (by decide) (Nat.le_of_ble_eq_true rfl) (by decide) (by decide) ?_
    intro T9 L9 v9 X9 hQ9
    obtain ⟨rfl, Nq9, e9⟩ := hQ9
    have N9 := Fr.app N8 Nq9
    show own_Fin p e below _ T9 (mkF m 69 #[.val (.int i0), .val (.int i1), .val (.int sv), .val (.ref b1), .val (.ref b2), .val (.ref b4), .val (.int (1 : Int32))] [(.int sv)])
    refine own_seg (T' := T9) (g' := (mkF m 70 #[.val (.int i0), .val (.int i1), .val (.int sv), .val (.ref b1), .val (.ref b2), .val (.ref b4), .val (.int (1 : Int32))] [(.int sv), (.int sv)])) (fun tg kt => ?_) ?_
    · show Steps p.tables e below (T9.setTop (mkF m 69 #[.val (.int i0), .val (.int i1), .val (.int sv), .val (.ref b1), .val (.ref b2), .val (.ref b4), .val (.int (1 : Int32))] [(.int sv)])) tg
      refine XS.iloadN X9.here hx rfl (hb hby at_69) rfl ?_
      exact kt
    have hc70 : sv = sv := rfl
    refine own_seg (T' := T9) (g' := (mkF m 73 #[.val (.int i0), .val (.int i1), .val (.int sv), .val (.ref b1), .val (.ref b2), .val (.ref b4), .val (.int (1 : Int32))] [])) (fun tg kt => XS.icmpNo X9.here hx rfl (hb hby at_70) rfl (teq hc70).2 kt) ?_
    refine own_seg (T' := T9) (g' := (mkF m 78 #[.val (.int i0), .val (.int i1), .val (.int sv), .val (.ref b1), .val (.ref b2), .val (.ref b4), .val (.int (1 : Int32))] [(.int (1 : Int32))])) (fun tg kt => ?_) ?_
    · show Steps p.tables e below (T9.setTop (mkF m 73 #[.val (.int i0), .val (.int i1), .val (.int sv), .val (.ref b1), .val (.ref b2), .val (.ref b4), .val (.int (1 : Int32))] [])) tg
      refine XS.iconst X9.here hx rfl (hb hby at_73) ?_
      show Steps p.tables e below (T9.setTop (mkF m 74 #[.val (.int i0), .val (.int i1), .val (.int sv), .val (.ref b1), .val (.ref b2), .val (.ref b4), .val (.int (1 : Int32))] [(.int (1 : Int32))])) tg
      refine XS.goto X9.here hx rfl (pc0 := 74) (pc' := 78) rfl (hb hby at_74) (by decide) (by decide) ?_
      exact kt
    exact own_retNW K (by simp) X9 hS5 (by rw [e9]; exact Y5) at_78 (⟨rfl, N9⟩) (by decide) (by decide)
set_option maxRecDepth 65536 in
set_option maxHeartbeats 40000000 in
theorem own_comes {Post : Tables → Env → Array Value → State → Outcome → State → Prop} (hpost : ∀ tb e args s v u, (limb_1_1.after args s (.returned v) u = true ∧ limb_1_2.after args s (.returned v) u = true) → Jvm.D.FramedW s (.returned v) u (Jvm.fieldLocs frame_1_writes args s ++ Jvm.arrayLocs frame_1_arrays args s ++ Jvm.staticLocs frame_1_statics s) 32 2240 → Post tb e args s (.returned v) u) :
    ArmFor flags0 classFile x code maxLocals ret World_1 tables_1 room_1 Calls_1 rest_1 Pre_1 Post := by
  intro l hfl _ _ p e ha hc hk s m args below hf hA hF happ hP
  obtain ⟨hcalls, hrest, hpre⟩ := hP
  obtain ⟨-, -, -, hnamed, -, -, -, hat⟩ := (Spec.applies_iff hf).mp happ
  obtain ⟨hg, hn⟩ := and_e (Cond.before_iff.mp (show (Jvm.Cond.and given_1 narrow_1).before args s = true from hpre))
  obtain ⟨q1, q2⟩ := and_e hg
  obtain ⟨q3, q4⟩ := and_e q2
  obtain ⟨w0, w1, rfl⟩ : ∃ w0 w1 : Value, args = #[w0, w1] := by
    have hs : args.size = 2 := by simpa [Cond.value, given_1] using q1
    obtain ⟨L⟩ := args
    match L, hs with
    | [w0, w1], _ => exact ⟨w0, w1, rfl⟩
  have hw := fun d (hd : d ∈ tables_1) => atoms_spec (ws := Jvm.Cond.code x code maxLocals ret :: tables_1) hat d (List.mem_cons_of_mem _ hd)
  obtain ⟨i0, ei0⟩ := is_v q3
  obtain rfl : w0 = (.int i0) := Option.some.inj ei0
  obtain ⟨i1, ei1⟩ := is_v q4
  obtain rfl : w1 = (.int i1) := Option.some.inj ei1
  obtain ⟨⟨c1, k1, mr1, q1_, q2_, q3_, q4_⟩, ⟨c2, k2, mr2, p1_, p2_, p3_, p4_⟩, -⟩ := hcalls
  have M1 : Mir s "java/util/LinkedHashMap" mr1 := ⟨c1, k1, q1_, q2_, q3_, q4_⟩
  have M2 : Mir s "java/util/Collections$UnmodifiableMap" mr2 := ⟨c2, k2, p1_, p2_, p3_, p4_⟩
  obtain ⟨n, o, h1, h2, h3, _, L, rfl, ⟨rfl, N⟩, hq⟩ := rm0 l s _ hw i0 i1 mr1 mr2 s.heap s.heap.size (Nat.le_refl _) M1 M2 tables_1 p e ha hc hk s m _ below hf ((Spec.applies_iff_loose hf).mp happ).1 ⟨rfl, State.Warmed39.refl s, rfl⟩ trivial
  exact ⟨n, _, h1, h2, h3, hpost _ _ _ _ _ _ ⟨Cond.after_iff.mpr rfl, Cond.after_iff.mpr (eq_i res_at (Term.int_eval (1)) rfl)⟩ ⟨hq.1, hq.2.1, hq.2.2.1, (hq.2.2.2.sift fun y hy => Or.inr (N y hy)).mono (by decide) (by decide)⟩⟩
theorem main_1_1 : Claimed_1_1 := own_comes fun _ _ _ _ _ _ h hF => ⟨h.1, hF⟩
theorem main_1_2 : Claimed_1_2 := own_comes fun _ _ _ _ _ _ h hF => ⟨h.2, hF⟩
end Jvm.Pilot.@@N@@
namespace Jvm.Pilot.@@N@@
open Jvm Jvm.ClassFile Sem Op Lib Jvm.Free Jvm.Stand Jvm.Pilot.@@N@@.Jvm.D
/-! MADE BY PROGRAM (witnessworld.py) out of the Statement's table words and the real class files: 32 classes; the members and pool entries that the words name. The judged class is class 1, her method 1. -/
namespace start1
open Jvm.ClassFile
def u (s : String) : CpInfo := .utf8 (stringToUtf16 s)
/-- a pool by its gaps: so many unusable entries, then the entry; so many at the end -/
def gap : Nat → List CpInfo → List CpInfo
  | 0, r => r
  | n + 1, r => .unusable :: gap n r
def poolList (es : List (Nat × CpInfo)) (last : Nat) : List CpInfo := es.foldr (fun e r => gap e.1 (e.2 :: r)) (gap last [])
def pool (es : List (Nat × CpInfo)) (last : Nat) : Array CpInfo := ⟨poolList es last⟩
def fileOf (pool : Array CpInfo) (this : Nat) (attrs : Array Attribute := #[]) (ms : Array MethodInfo := #[]) (fl : Nat := 33) (sup : Nat := 0) (ifs : Array Nat := #[]) (fds : Array FieldInfo := #[]) : ClassFile where
  minorVersion := 0
  majorVersion := 65
  constantPool := pool
  accessFlags := fl
  thisClass := this
  superClass := sup
  interfaces := ifs
  fields := fds
  methods := ms
  attributes := attrs
def plain (name : String) (sup : Option ClassId) : Class where
  name := name
  kind := .ordinary
  loader := none
  accessFlags := 33
  super := sup
  interfaces := #[]
  cf := none
  fields := #[]
  methods := #[]
  instanceTypes := #[]
  staticTypes := #[]
  resolved := #[]
  callSites := []
  init := .initialized
  statics := none
  mirror := none

def pool0 : Array CpInfo := pool [(5, u "<init>"), (0, u "()V"), (1, .class_ 10), (1, u "java/lang/Object"), (0, u "getClass"), (0, u "()Ljava/lang/Class;"), (83, u "clone"), (0, u "()Ljava/lang/Object;")] 26

def k0c0 : Code := { maxStack := 0, maxLocals := 1, code := object_method_1_code, exceptionTable := #[], attributes := #[] }
def k0m0 : Method := { name := "<init>", desc := "()V", sig := { parameters := [], returnType := none }, accessFlags := 1, code := some k0c0 }
def k0m1 : Method := { name := "getClass", desc := "()Ljava/lang/Class;", sig := { parameters := [], returnType := some (.object "java/lang/Class") }, accessFlags := 273, code := none }
def k0m2 : Method := { name := "clone", desc := "()Ljava/lang/Object;", sig := { parameters := [], returnType := some (.object "java/lang/Object") }, accessFlags := 260, code := none }
/-- java/lang/Object -/
def k0 : Class := { plain "java/lang/Object" none with
  accessFlags := 33
  interfaces := #[]
  cf := some (fileOf pool0 8 #[] #[{ accessFlags := 1, nameIndex := 5, descriptorIndex := 6, attributes := #[] }, { accessFlags := 273, nameIndex := 11, descriptorIndex := 12, attributes := #[] }, { accessFlags := 260, nameIndex := 96, descriptorIndex := 97, attributes := #[] }] 33 0 #[] #[])
  fields := #[]
  methods := #[k0m0, k0m1, k0m2]
  instanceTypes := #[]
  staticTypes := #[]
  resolved := Array.replicate 124 none
  statics := none }

def pool1 : Array CpInfo := pool [(2, .class_ 4), (0, .nameAndType 5 6), (0, u "java/lang/Object"), (0, u "<init>"), (0, u "()V"), (0, .integer 2147483647), (0, .class_ 9), (0, u "java/util/HashMap"), (0, .methodref 8 3), (0, .class_ 12), (0, u "com/example/hapax/hapax/core/Result"), (0, .methodref 11 14), (0, .nameAndType 5 15), (0, u "(ILjava/util/Map;[B)V"), (0, .methodref 11 17), (0, .nameAndType 18 19), (0, u "isFinal"), (0, u "()Z"), (0, .methodref 11 21), (0, .nameAndType 22 23), (0, u "status"), (0, u "()I"), (0, .class_ 25), (0, u "com/example/hapax/hapax/core/ResultIsFinalPinLaw"), (2, u "law"), (0, u "(II)Z")] 5

def k1m0 : Method := { name := "<init>", desc := "()V", sig := { parameters := [], returnType := none }, accessFlags := 1, code := none }
def k1c1 : Code := { maxStack := 5, maxLocals := 7, code := code, exceptionTable := #[], attributes := #[] }
def k1m1 : Method := { name := "law", desc := "(II)Z", sig := { parameters := [.int, .int], returnType := some .boolean }, accessFlags := 9, code := some k1c1 }
/-- com/example/hapax/hapax/core/ResultIsFinalPinLaw -/
def k1 : Class := { plain "com/example/hapax/hapax/core/ResultIsFinalPinLaw" (some 0) with
  accessFlags := 49
  interfaces := #[]
  cf := some (fileOf pool1 24 #[] #[{ accessFlags := 1, nameIndex := 5, descriptorIndex := 6, attributes := #[] }, { accessFlags := 9, nameIndex := 28, descriptorIndex := 29, attributes := #[] }] 49 2 #[] #[])
  fields := #[]
  methods := #[k1m0, k1m1]
  instanceTypes := #[]
  staticTypes := #[]
  resolved := Array.replicate 35 none
  statics := none }

def pool2 : Array CpInfo := pool [(2, .class_ 4), (1, u "java/util/Map"), (13, u "entrySet"), (0, u "()Ljava/util/Set;"), (16, .class_ 37), (0, u "java/util/Map$Entry"), (55, .class_ 94), (0, u "java/lang/Object")] 168

def k2m0 : Method := { name := "entrySet", desc := "()Ljava/util/Set;", sig := { parameters := [], returnType := some (.object "java/util/Set") }, accessFlags := 1025, code := none }
/-- java/util/Map -/
def k2 : Class := { plain "java/util/Map" (some 0) with
  accessFlags := 1537
  interfaces := #[]
  cf := some (fileOf pool2 2 #[.nestMembers #[36]] #[{ accessFlags := 1025, nameIndex := 18, descriptorIndex := 19, attributes := #[] }] 1537 93 #[] #[])
  fields := #[]
  methods := #[k2m0]
  instanceTypes := #[]
  staticTypes := #[]
  resolved := Array.replicate 263 none
  statics := none }

def pool3 : Array CpInfo := pool [(1, .methodref 2 3), (0, .class_ 4), (0, .nameAndType 5 6), (0, u "java/lang/Object"), (0, u "<init>"), (0, u "()V"), (1, .class_ 10), (1, u "java/util/AbstractMap"), (42, .class_ 54), (0, u "java/util/Map"), (9, u "keySet"), (0, u "Ljava/util/Set;"), (0, .class_ 67), (0, u "java/util/AbstractMap$1"), (5, u "values"), (0, u "Ljava/util/Collection;"), (0, .class_ 76), (0, u "java/util/AbstractMap$2"), (104, .class_ 182), (0, u "java/util/AbstractMap$ViewCollection"), (0, .class_ 184), (0, u "java/util/AbstractMap$SimpleImmutableEntry"), (0, .class_ 186), (0, u "java/util/AbstractMap$SimpleEntry"), (0, .class_ 188), (0, u "java/util/AbstractMap$2$1"), (0, .class_ 190), (0, u "java/util/AbstractMap$1$1")] 5

def k3c0 : Code := { maxStack := 1, maxLocals := 1, code := jdk_71_method_1_code, exceptionTable := #[], attributes := #[] }
def k3m0 : Method := { name := "<init>", desc := "()V", sig := { parameters := [], returnType := none }, accessFlags := 4, code := some k3c0 }
/-- java/util/AbstractMap -/
def k3 : Class := { plain "java/util/AbstractMap" (some 0) with
  accessFlags := 1057
  interfaces := #[2]
  cf := some (fileOf pool3 8 #[.nestMembers #[181, 183, 185, 75, 187, 66, 189]] #[{ accessFlags := 4, nameIndex := 5, descriptorIndex := 6, attributes := #[] }] 1057 2 #[53] #[{ accessFlags := 128, nameIndex := 64, descriptorIndex := 65, attributes := #[] }, { accessFlags := 128, nameIndex := 73, descriptorIndex := 74, attributes := #[] }])
  fields := #[{ name := "keySet", type := (.object "java/util/Set"), accessFlags := 128, slot := 0, constantValue := 0 }, { name := "values", type := (.object "java/util/Collection"), accessFlags := 128, slot := 1, constantValue := 0 }]
  methods := #[k3m0]
  instanceTypes := #[(.object "java/util/Set"), (.object "java/util/Collection")]
  staticTypes := #[]
  resolved := Array.replicate 196 none
  statics := none }

def pool4 : Array CpInfo := pool [(1, .class_ 2), (0, u "java/lang/Cloneable"), (0, .class_ 4), (0, u "java/lang/Object")] 2

/-- java/lang/Cloneable -/
def k4 : Class := { plain "java/lang/Cloneable" (some 0) with
  accessFlags := 1537
  interfaces := #[]
  cf := some (fileOf pool4 1 #[] #[] 1537 3 #[] #[])
  fields := #[]
  methods := #[]
  instanceTypes := #[]
  staticTypes := #[]
  resolved := Array.replicate 7 none
  statics := none }

def pool5 : Array CpInfo := pool [(1, .class_ 2), (0, u "java/io/Serializable"), (0, .class_ 4), (0, u "java/lang/Object")] 2

/-- java/io/Serializable -/
def k5 : Class := { plain "java/io/Serializable" (some 0) with
  accessFlags := 1537
  interfaces := #[]
  cf := some (fileOf pool5 1 #[] #[] 1537 3 #[] #[])
  fields := #[]
  methods := #[]
  instanceTypes := #[]
  staticTypes := #[]
  resolved := Array.replicate 7 none
  statics := none }

def pool6 : Array CpInfo := pool [(40, .class_ 41), (0, u "java/util/HashMap"), (1, .methodref 44 45), (0, .class_ 46), (0, .nameAndType 47 48), (0, u "java/util/AbstractMap"), (0, u "<init>"), (0, u "()V"), (32, .fieldref 40 82), (0, .nameAndType 83 84), (0, u "loadFactor"), (0, u "F"), (5, u "threshold"), (0, u "I"), (0, .float 1061158912), (8, .class_ 103), (1, u "java/util/Map"), (0, u "size"), (2, u "table"), (0, u "[Ljava/util/HashMap$Node;"), (14, u "entrySet"), (0, u "()Ljava/util/Set;"), (38, .class_ 165), (1, u "java/util/HashMap$Node"), (14, .class_ 181), (0, u "java/util/HashMap$TreeNode"), (22, u "modCount"), (37, u "Ljava/util/Set;"), (0, .class_ 244), (0, u "java/util/HashMap$KeySet"), (1, .nameAndType 47 247), (0, u "(Ljava/util/HashMap;)V"), (15, .class_ 264), (0, u "java/util/HashMap$Values"), (1, .fieldref 40 267), (0, .nameAndType 123 242), (0, .class_ 269), (0, u "java/util/HashMap$EntrySet"), (0, .methodref 268 246), (75, .class_ 348), (1, u "java/util/HashMap$UnsafeHolder"), (43, .class_ 393), (0, u "java/lang/Cloneable"), (0, .class_ 395), (0, u "java/io/Serializable"), (0, u "serialVersionUID"), (0, u "J"), (3, u "DEFAULT_INITIAL_CAPACITY"), (1, u "MAXIMUM_CAPACITY"), (0, u "DEFAULT_LOAD_FACTOR"), (0, u "TREEIFY_THRESHOLD"), (1, u "UNTREEIFY_THRESHOLD"), (1, u "MIN_TREEIFY_CAPACITY"), (186, .class_ 597), (0, u "java/util/HashMap$EntrySpliterator"), (0, .class_ 599), (0, u "java/util/HashMap$ValueSpliterator"), (0, .class_ 601), (0, u "java/util/HashMap$KeySpliterator"), (0, .class_ 603), (0, u "java/util/HashMap$HashMapSpliterator"), (0, .class_ 605), (0, u "java/util/HashMap$EntryIterator"), (0, .class_ 607), (0, u "java/util/HashMap$ValueIterator"), (0, .class_ 609), (0, u "java/util/HashMap$KeyIterator"), (0, .class_ 611), (0, u "java/util/HashMap$HashIterator")] 17

def k6c0 : Code := { maxStack := 2, maxLocals := 1, code := jdk_69_method_7_code, exceptionTable := #[], attributes := #[] }
def k6m0 : Method := { name := "<init>", desc := "()V", sig := { parameters := [], returnType := none }, accessFlags := 1, code := some k6c0 }
def k6c1 : Code := { maxStack := 4, maxLocals := 2, code := jdk_69_method_29_code, exceptionTable := #[], attributes := #[] }
def k6m1 : Method := { name := "entrySet", desc := "()Ljava/util/Set;", sig := { parameters := [], returnType := some (.object "java/util/Set") }, accessFlags := 1, code := some k6c1 }
/-- java/util/HashMap -/
def k6 : Class := { plain "java/util/HashMap" (some 3) with
  accessFlags := 33
  interfaces := #[2, 4, 5]
  cf := some (fileOf pool6 40 #[.nestMembers #[180, 596, 598, 600, 602, 604, 606, 608, 610, 346, 268, 263, 243, 163]] #[{ accessFlags := 1, nameIndex := 47, descriptorIndex := 48, attributes := #[] }, { accessFlags := 1, nameIndex := 123, descriptorIndex := 124, attributes := #[] }] 33 44 #[101, 392, 394] #[{ accessFlags := 26, nameIndex := 396, descriptorIndex := 397, attributes := #[] }, { accessFlags := 24, nameIndex := 401, descriptorIndex := 91, attributes := #[] }, { accessFlags := 24, nameIndex := 403, descriptorIndex := 91, attributes := #[] }, { accessFlags := 24, nameIndex := 404, descriptorIndex := 84, attributes := #[] }, { accessFlags := 24, nameIndex := 405, descriptorIndex := 91, attributes := #[] }, { accessFlags := 24, nameIndex := 407, descriptorIndex := 91, attributes := #[] }, { accessFlags := 24, nameIndex := 409, descriptorIndex := 91, attributes := #[] }, { accessFlags := 128, nameIndex := 107, descriptorIndex := 108, attributes := #[] }, { accessFlags := 128, nameIndex := 123, descriptorIndex := 242, attributes := #[] }, { accessFlags := 128, nameIndex := 104, descriptorIndex := 91, attributes := #[] }, { accessFlags := 128, nameIndex := 204, descriptorIndex := 91, attributes := #[] }, { accessFlags := 0, nameIndex := 90, descriptorIndex := 91, attributes := #[] }, { accessFlags := 16, nameIndex := 83, descriptorIndex := 84, attributes := #[] }])
  fields := #[{ name := "serialVersionUID", type := .long, accessFlags := 26, slot := 0, constantValue := 0 }, { name := "DEFAULT_INITIAL_CAPACITY", type := .int, accessFlags := 24, slot := 1, constantValue := 0 }, { name := "MAXIMUM_CAPACITY", type := .int, accessFlags := 24, slot := 2, constantValue := 0 }, { name := "DEFAULT_LOAD_FACTOR", type := .float, accessFlags := 24, slot := 3, constantValue := 0 }, { name := "TREEIFY_THRESHOLD", type := .int, accessFlags := 24, slot := 4, constantValue := 0 }, { name := "UNTREEIFY_THRESHOLD", type := .int, accessFlags := 24, slot := 5, constantValue := 0 }, { name := "MIN_TREEIFY_CAPACITY", type := .int, accessFlags := 24, slot := 6, constantValue := 0 }, { name := "table", type := (.array (.object "java/util/HashMap$Node")), accessFlags := 128, slot := 2, constantValue := 0 }, { name := "entrySet", type := (.object "java/util/Set"), accessFlags := 128, slot := 3, constantValue := 0 }, { name := "size", type := .int, accessFlags := 128, slot := 4, constantValue := 0 }, { name := "modCount", type := .int, accessFlags := 128, slot := 5, constantValue := 0 }, { name := "threshold", type := .int, accessFlags := 0, slot := 6, constantValue := 0 }, { name := "loadFactor", type := .float, accessFlags := 16, slot := 7, constantValue := 0 }]
  methods := #[k6m0, k6m1]
  instanceTypes := #[(.object "java/util/Set"), (.object "java/util/Collection"), (.array (.object "java/util/HashMap$Node")), (.object "java/util/Set"), .int, .int, .int, .float]
  staticTypes := #[.long, .int, .int, .float, .int, .int, .int]
  resolved := Array.replicate 629 none
  statics := none }

def pool7 : Array CpInfo := pool [(1, .methodref 2 3), (0, .class_ 4), (0, .nameAndType 5 6), (0, u "java/lang/Object"), (0, u "<init>"), (0, u "()V"), (0, .class_ 8), (0, u "com/example/hapax/hapax/core/Result"), (9, .string 19), (0, u "headers"), (0, .methodref 21 22), (0, .class_ 23), (0, .nameAndType 24 25), (0, u "java/util/Objects"), (0, u "requireNonNull"), (0, u "(Ljava/lang/Object;Ljava/lang/String;)Ljava/lang/Object;"), (0, .string 27), (0, u "body"), (0, .class_ 29), (0, u "java/util/LinkedHashMap"), (0, .methodref 28 3), (0, .interfaceMethodref 32 33), (0, .class_ 34), (0, .nameAndType 35 36), (0, u "java/util/Map"), (0, u "entrySet"), (0, u "()Ljava/util/Set;"), (0, .interfaceMethodref 38 39), (0, .class_ 40), (0, .nameAndType 41 42), (0, u "java/util/Set"), (0, u "iterator"), (0, u "()Ljava/util/Iterator;"), (0, .interfaceMethodref 44 45), (0, .class_ 46), (0, .nameAndType 47 48), (0, u "java/util/Iterator"), (0, u "hasNext"), (0, u "()Z"), (3, u "()Ljava/lang/Object;"), (24, .fieldref 7 78), (0, .nameAndType 79 80), (0, u "status"), (0, u "I"), (0, .methodref 82 83), (0, .class_ 84), (0, .nameAndType 85 86), (0, u "java/util/Collections"), (0, u "unmodifiableMap"), (0, u "(Ljava/util/Map;)Ljava/util/Map;"), (0, .fieldref 7 88), (0, .nameAndType 19 89), (0, u "Ljava/util/Map;"), (0, .methodref 91 92), (0, .class_ 93), (0, .nameAndType 94 52), (0, u "[B"), (0, u "clone"), (0, .fieldref 7 96), (0, .nameAndType 27 93), (0, u "MIN_STATUS"), (2, u "MAX_STATUS"), (1, u "FIRST_NOT_FINAL"), (3, u "(ILjava/util/Map;[B)V"), (4, u "()I"), (3, u "isFinal")] 18

def k7c0 : Code := { maxStack := 3, maxLocals := 8, code := prog_26_method_1_code, exceptionTable := #[], attributes := #[] }
def k7m0 : Method := { name := "<init>", desc := "(ILjava/util/Map;[B)V", sig := { parameters := [.int, (.object "java/util/Map"), (.array .byte)], returnType := none }, accessFlags := 1, code := some k7c0 }
def k7c1 : Code := { maxStack := 1, maxLocals := 1, code := prog_26_method_2_code, exceptionTable := #[], attributes := #[] }
def k7m1 : Method := { name := "status", desc := "()I", sig := { parameters := [], returnType := some .int }, accessFlags := 1, code := some k7c1 }
def k7c2 : Code := { maxStack := 2, maxLocals := 1, code := prog_26_method_5_code, exceptionTable := #[], attributes := #[] }
def k7m2 : Method := { name := "isFinal", desc := "()Z", sig := { parameters := [], returnType := some .boolean }, accessFlags := 1, code := some k7c2 }
/-- com/example/hapax/hapax/core/Result -/
def k7 : Class := { plain "com/example/hapax/hapax/core/Result" (some 0) with
  accessFlags := 49
  interfaces := #[]
  cf := some (fileOf pool7 7 #[] #[{ accessFlags := 1, nameIndex := 5, descriptorIndex := 106, attributes := #[] }, { accessFlags := 1, nameIndex := 79, descriptorIndex := 111, attributes := #[] }, { accessFlags := 1, nameIndex := 115, descriptorIndex := 48, attributes := #[] }] 49 2 #[] #[{ accessFlags := 26, nameIndex := 97, descriptorIndex := 80, attributes := #[] }, { accessFlags := 26, nameIndex := 100, descriptorIndex := 80, attributes := #[] }, { accessFlags := 26, nameIndex := 102, descriptorIndex := 80, attributes := #[] }, { accessFlags := 18, nameIndex := 79, descriptorIndex := 80, attributes := #[] }, { accessFlags := 18, nameIndex := 19, descriptorIndex := 89, attributes := #[] }, { accessFlags := 18, nameIndex := 27, descriptorIndex := 93, attributes := #[] }])
  fields := #[{ name := "MIN_STATUS", type := .int, accessFlags := 26, slot := 0, constantValue := 0 }, { name := "MAX_STATUS", type := .int, accessFlags := 26, slot := 1, constantValue := 0 }, { name := "FIRST_NOT_FINAL", type := .int, accessFlags := 26, slot := 2, constantValue := 0 }, { name := "status", type := .int, accessFlags := 18, slot := 0, constantValue := 0 }, { name := "headers", type := (.object "java/util/Map"), accessFlags := 18, slot := 1, constantValue := 0 }, { name := "body", type := (.array .byte), accessFlags := 18, slot := 2, constantValue := 0 }]
  methods := #[k7m0, k7m1, k7m2]
  instanceTypes := #[.int, (.object "java/util/Map"), (.array .byte)]
  staticTypes := #[.int, .int, .int]
  resolved := Array.replicate 134 none
  statics := none }

def pool8 : Array CpInfo := pool [(1, .class_ 2), (0, u "java/lang/Comparable"), (0, .class_ 4), (0, u "java/lang/Object")] 7

/-- java/lang/Comparable -/
def k8 : Class := { plain "java/lang/Comparable" (some 0) with
  accessFlags := 1537
  interfaces := #[]
  cf := some (fileOf pool8 1 #[] #[] 1537 3 #[] #[])
  fields := #[]
  methods := #[]
  instanceTypes := #[]
  staticTypes := #[]
  resolved := Array.replicate 12 none
  statics := none }

def pool9 : Array CpInfo := pool [(2, .class_ 4), (1, u "java/lang/CharSequence"), (42, .class_ 48), (0, u "java/lang/CharSequence$1CodePointIterator"), (10, .class_ 60), (0, u "java/lang/CharSequence$1CharIterator"), (5, .class_ 67), (0, u "java/lang/Object")] 63

/-- java/lang/CharSequence -/
def k9 : Class := { plain "java/lang/CharSequence" (some 0) with
  accessFlags := 1537
  interfaces := #[]
  cf := some (fileOf pool9 2 #[.nestMembers #[47, 59]] #[] 1537 66 #[] #[])
  fields := #[]
  methods := #[]
  instanceTypes := #[]
  staticTypes := #[]
  resolved := Array.replicate 131 none
  statics := none }

def pool10 : Array CpInfo := pool [(1, .class_ 2), (0, u "java/lang/constant/Constable"), (0, .class_ 4), (0, u "java/lang/Object")] 6

/-- java/lang/constant/Constable -/
def k10 : Class := { plain "java/lang/constant/Constable" (some 0) with
  accessFlags := 1537
  interfaces := #[]
  cf := some (fileOf pool10 1 #[] #[] 1537 3 #[] #[])
  fields := #[]
  methods := #[]
  instanceTypes := #[]
  staticTypes := #[]
  resolved := Array.replicate 11 none
  statics := none }

def pool11 : Array CpInfo := pool [(1, .class_ 2), (0, u "java/lang/constant/ConstantDesc"), (0, .class_ 4), (0, u "java/lang/Object")] 32

/-- java/lang/constant/ConstantDesc -/
def k11 : Class := { plain "java/lang/constant/ConstantDesc" (some 0) with
  accessFlags := 1537
  interfaces := #[]
  cf := some (fileOf pool11 1 #[] #[] 1537 3 #[] #[])
  fields := #[]
  methods := #[]
  instanceTypes := #[]
  staticTypes := #[]
  resolved := Array.replicate 37 none
  statics := none }

def pool12 : Array CpInfo := pool [(2, .class_ 4), (1, u "java/lang/Object"), (0, u "<init>"), (0, u "()V"), (3, .class_ 12), (1, u "java/lang/String"), (0, u "value"), (0, u "[B"), (2, u "coder"), (0, u "B"), (2, u "hash"), (0, u "I"), (2, u "hashIsZero"), (0, u "Z"), (13, u "COMPACT_STRINGS"), (534, .class_ 576), (0, u "java/lang/CharSequence"), (22, u "CASE_INSENSITIVE_ORDER"), (0, u "Ljava/util/Comparator;"), (500, u "serialPersistentFields"), (0, u "[Ljava/io/ObjectStreamField;"), (0, .class_ 1104), (0, u "java/lang/String$CaseInsensitiveComparator"), (1, .class_ 1107), (0, u "java/io/Serializable"), (0, .class_ 1109), (0, u "java/lang/Comparable"), (0, .class_ 1111), (0, u "java/lang/constant/Constable"), (0, .class_ 1113), (0, u "java/lang/constant/ConstantDesc"), (2, u "serialVersionUID"), (0, u "J"), (3, u "REPL"), (0, u "C"), (2, u "LATIN1"), (1, u "UTF16")] 323

def k12m0 : Method := { name := "<init>", desc := "()V", sig := { parameters := [], returnType := none }, accessFlags := 1, code := none }
/-- java/lang/String -/
def k12 : Class := { plain "java/lang/String" (some 0) with
  accessFlags := 49
  interfaces := #[5, 8, 9, 10, 11]
  cf := some (fileOf pool12 10 #[.nestMembers #[1103]] #[{ accessFlags := 1, nameIndex := 5, descriptorIndex := 6, attributes := #[] }] 49 2 #[1106, 1108, 575, 1110, 1112] #[{ accessFlags := 18, nameIndex := 13, descriptorIndex := 14, attributes := #[] }, { accessFlags := 18, nameIndex := 17, descriptorIndex := 18, attributes := #[] }, { accessFlags := 2, nameIndex := 21, descriptorIndex := 22, attributes := #[] }, { accessFlags := 2, nameIndex := 25, descriptorIndex := 26, attributes := #[] }, { accessFlags := 26, nameIndex := 1116, descriptorIndex := 1117, attributes := #[] }, { accessFlags := 24, nameIndex := 40, descriptorIndex := 26, attributes := #[] }, { accessFlags := 26, nameIndex := 1101, descriptorIndex := 1102, attributes := #[] }, { accessFlags := 26, nameIndex := 1121, descriptorIndex := 1122, attributes := #[] }, { accessFlags := 25, nameIndex := 599, descriptorIndex := 600, attributes := #[] }, { accessFlags := 24, nameIndex := 1125, descriptorIndex := 18, attributes := #[] }, { accessFlags := 24, nameIndex := 1127, descriptorIndex := 18, attributes := #[] }])
  fields := #[{ name := "value", type := (.array .byte), accessFlags := 18, slot := 0, constantValue := 0 }, { name := "coder", type := .byte, accessFlags := 18, slot := 1, constantValue := 0 }, { name := "hash", type := .int, accessFlags := 2, slot := 2, constantValue := 0 }, { name := "hashIsZero", type := .boolean, accessFlags := 2, slot := 3, constantValue := 0 }, { name := "serialVersionUID", type := .long, accessFlags := 26, slot := 0, constantValue := 0 }, { name := "COMPACT_STRINGS", type := .boolean, accessFlags := 24, slot := 1, constantValue := 0 }, { name := "serialPersistentFields", type := (.array (.object "java/io/ObjectStreamField")), accessFlags := 26, slot := 2, constantValue := 0 }, { name := "REPL", type := .char, accessFlags := 26, slot := 3, constantValue := 0 }, { name := "CASE_INSENSITIVE_ORDER", type := (.object "java/util/Comparator"), accessFlags := 25, slot := 4, constantValue := 0 }, { name := "LATIN1", type := .byte, accessFlags := 24, slot := 5, constantValue := 0 }, { name := "UTF16", type := .byte, accessFlags := 24, slot := 6, constantValue := 0 }]
  methods := #[k12m0]
  instanceTypes := #[(.array .byte), .byte, .int, .boolean]
  staticTypes := #[.long, .boolean, (.array (.object "java/io/ObjectStreamField")), .char, (.object "java/util/Comparator"), .byte, .byte]
  resolved := Array.replicate 1451 none
  statics := none }

def pool13 : Array CpInfo := pool [(2, .class_ 4), (1, u "java/lang/Object"), (0, u "<init>"), (0, u "()V"), (35, .class_ 44), (1, u "java/util/Objects"), (0, u "requireNonNull"), (48, u "(Ljava/lang/Object;Ljava/lang/String;)Ljava/lang/Object;")] 89

def k13m0 : Method := { name := "<init>", desc := "()V", sig := { parameters := [], returnType := none }, accessFlags := 2, code := none }
def k13c1 : Code := { maxStack := 3, maxLocals := 2, code := jdk_31_method_11_code, exceptionTable := #[], attributes := #[] }
def k13m1 : Method := { name := "requireNonNull", desc := "(Ljava/lang/Object;Ljava/lang/String;)Ljava/lang/Object;", sig := { parameters := [(.object "java/lang/Object"), (.object "java/lang/String")], returnType := some (.object "java/lang/Object") }, accessFlags := 9, code := some k13c1 }
/-- java/util/Objects -/
def k13 : Class := { plain "java/util/Objects" (some 0) with
  accessFlags := 49
  interfaces := #[]
  cf := some (fileOf pool13 42 #[] #[{ accessFlags := 2, nameIndex := 5, descriptorIndex := 6, attributes := #[] }, { accessFlags := 9, nameIndex := 45, descriptorIndex := 94, attributes := #[] }] 49 2 #[] #[])
  fields := #[]
  methods := #[k13m0, k13m1]
  instanceTypes := #[]
  staticTypes := #[]
  resolved := Array.replicate 184 none
  statics := none }

def pool14 : Array CpInfo := pool [(2, .class_ 4), (1, u "java/util/SequencedMap"), (38, .class_ 44), (0, u "java/util/SequencedMap$1SeqKeySet"), (3, .class_ 49), (0, u "java/util/SequencedMap$1SeqValues"), (1, .class_ 52), (0, u "java/util/SequencedMap$1SeqEntrySet"), (1, .class_ 55), (0, u "java/lang/Object"), (0, .class_ 57), (0, u "java/util/Map")] 48

/-- java/util/SequencedMap -/
def k14 : Class := { plain "java/util/SequencedMap" (some 0) with
  accessFlags := 1537
  interfaces := #[2]
  cf := some (fileOf pool14 2 #[.nestMembers #[51, 48, 43]] #[] 1537 54 #[56] #[])
  fields := #[]
  methods := #[]
  instanceTypes := #[]
  staticTypes := #[]
  resolved := Array.replicate 106 none
  statics := none }

def pool15 : Array CpInfo := pool [(1, .fieldref 2 3), (0, .class_ 4), (0, .nameAndType 5 6), (0, u "java/util/LinkedHashMap"), (0, u "putMode"), (0, u "I"), (2, u "head"), (0, u "Ljava/util/LinkedHashMap$Entry;"), (2, u "tail"), (1, .class_ 17), (1, u "java/util/LinkedHashMap$Entry"), (5, .class_ 25), (1, u "java/util/HashMap"), (1, u "()V"), (2, u "<init>"), (33, .fieldref 2 65), (0, .nameAndType 66 67), (0, u "accessOrder"), (0, u "Z"), (19, .methodref 23 88), (0, .nameAndType 30 27), (32, .class_ 122), (0, u "java/util/LinkedHashMap$LinkedKeySet"), (20, .class_ 144), (0, u "java/util/LinkedHashMap$LinkedValues"), (9, .class_ 155), (0, u "java/util/LinkedHashMap$LinkedEntrySet"), (44, .class_ 201), (0, u "java/util/LinkedHashMap$ReversedLinkedHashMapView"), (3, .class_ 206), (0, u "java/util/SequencedMap"), (0, u "serialVersionUID"), (0, u "J"), (5, u "PUT_NORM"), (1, u "PUT_FIRST"), (1, u "PUT_LAST"), (143, .class_ 363), (0, u "java/util/LinkedHashMap$LinkedEntryIterator"), (0, .class_ 365), (0, u "java/util/LinkedHashMap$LinkedValueIterator"), (0, .class_ 367), (0, u "java/util/LinkedHashMap$LinkedKeyIterator"), (0, .class_ 369), (0, u "java/util/LinkedHashMap$LinkedHashIterator")] 16

def k15c0 : Code := { maxStack := 2, maxLocals := 1, code := jdk_94_method_16_code, exceptionTable := #[], attributes := #[] }
def k15m0 : Method := { name := "<init>", desc := "()V", sig := { parameters := [], returnType := none }, accessFlags := 1, code := some k15c0 }
/-- java/util/LinkedHashMap -/
def k15 : Class := { plain "java/util/LinkedHashMap" (some 6) with
  accessFlags := 33
  interfaces := #[14]
  cf := some (fileOf pool15 2 #[.nestMembers #[200, 362, 364, 366, 368, 154, 143, 121, 15]] #[{ accessFlags := 1, nameIndex := 30, descriptorIndex := 27, attributes := #[] }] 33 23 #[205] #[{ accessFlags := 26, nameIndex := 207, descriptorIndex := 208, attributes := #[] }, { accessFlags := 128, nameIndex := 9, descriptorIndex := 10, attributes := #[] }, { accessFlags := 128, nameIndex := 13, descriptorIndex := 10, attributes := #[] }, { accessFlags := 16, nameIndex := 66, descriptorIndex := 67, attributes := #[] }, { accessFlags := 24, nameIndex := 214, descriptorIndex := 6, attributes := #[] }, { accessFlags := 24, nameIndex := 216, descriptorIndex := 6, attributes := #[] }, { accessFlags := 24, nameIndex := 218, descriptorIndex := 6, attributes := #[] }, { accessFlags := 128, nameIndex := 5, descriptorIndex := 6, attributes := #[] }])
  fields := #[{ name := "serialVersionUID", type := .long, accessFlags := 26, slot := 0, constantValue := 0 }, { name := "head", type := (.object "java/util/LinkedHashMap$Entry"), accessFlags := 128, slot := 8, constantValue := 0 }, { name := "tail", type := (.object "java/util/LinkedHashMap$Entry"), accessFlags := 128, slot := 9, constantValue := 0 }, { name := "accessOrder", type := .boolean, accessFlags := 16, slot := 10, constantValue := 0 }, { name := "PUT_NORM", type := .int, accessFlags := 24, slot := 1, constantValue := 0 }, { name := "PUT_FIRST", type := .int, accessFlags := 24, slot := 2, constantValue := 0 }, { name := "PUT_LAST", type := .int, accessFlags := 24, slot := 3, constantValue := 0 }, { name := "putMode", type := .int, accessFlags := 128, slot := 11, constantValue := 0 }]
  methods := #[k15m0]
  instanceTypes := #[(.object "java/util/Set"), (.object "java/util/Collection"), (.array (.object "java/util/HashMap$Node")), (.object "java/util/Set"), .int, .int, .int, .float, (.object "java/util/LinkedHashMap$Entry"), (.object "java/util/LinkedHashMap$Entry"), .boolean, .int]
  staticTypes := #[.long, .int, .int, .int]
  resolved := Array.replicate 386 none
  mirror := some 0
  statics := none }

def pool16 : Array CpInfo := pool [(8, .class_ 10), (1, u "java/lang/Iterable"), (24, .class_ 36), (0, u "java/lang/Object")] 25

/-- java/lang/Iterable -/
def k16 : Class := { plain "java/lang/Iterable" (some 0) with
  accessFlags := 1537
  interfaces := #[]
  cf := some (fileOf pool16 8 #[] #[] 1537 35 #[] #[])
  fields := #[]
  methods := #[]
  instanceTypes := #[]
  staticTypes := #[]
  resolved := Array.replicate 62 none
  statics := none }

def pool17 : Array CpInfo := pool [(10, .class_ 12), (1, u "java/util/Collection"), (47, .class_ 61), (0, u "java/lang/Object"), (0, .class_ 63), (0, u "java/lang/Iterable")] 51

/-- java/util/Collection -/
def k17 : Class := { plain "java/util/Collection" (some 0) with
  accessFlags := 1537
  interfaces := #[16]
  cf := some (fileOf pool17 10 #[] #[] 1537 60 #[62] #[])
  fields := #[]
  methods := #[]
  instanceTypes := #[]
  staticTypes := #[]
  resolved := Array.replicate 115 none
  statics := none }

def pool18 : Array CpInfo := pool [(1, .methodref 2 3), (0, .class_ 4), (0, .nameAndType 5 6), (0, u "java/lang/Object"), (0, u "<init>"), (0, u "()V"), (1, .class_ 10), (1, u "java/util/AbstractCollection"), (66, .class_ 78), (0, u "java/util/Collection")] 81

def k18c0 : Code := { maxStack := 1, maxLocals := 1, code := jdk_22_method_1_code, exceptionTable := #[], attributes := #[] }
def k18m0 : Method := { name := "<init>", desc := "()V", sig := { parameters := [], returnType := none }, accessFlags := 4, code := some k18c0 }
/-- java/util/AbstractCollection -/
def k18 : Class := { plain "java/util/AbstractCollection" (some 0) with
  accessFlags := 1057
  interfaces := #[17]
  cf := some (fileOf pool18 8 #[] #[{ accessFlags := 4, nameIndex := 5, descriptorIndex := 6, attributes := #[] }] 1057 2 #[77] #[])
  fields := #[]
  methods := #[k18m0]
  instanceTypes := #[]
  staticTypes := #[]
  resolved := Array.replicate 160 none
  statics := none }

def pool19 : Array CpInfo := pool [(26, .class_ 27), (0, u "java/lang/Object"), (5, .class_ 34), (0, u "java/util/Set"), (1, .class_ 38), (1, u "java/util/Collection"), (22, u "iterator"), (0, u "()Ljava/util/Iterator;")] 81

def k19m0 : Method := { name := "iterator", desc := "()Ljava/util/Iterator;", sig := { parameters := [], returnType := some (.object "java/util/Iterator") }, accessFlags := 1025, code := none }
/-- java/util/Set -/
def k19 : Class := { plain "java/util/Set" (some 0) with
  accessFlags := 1537
  interfaces := #[17]
  cf := some (fileOf pool19 33 #[] #[{ accessFlags := 1025, nameIndex := 61, descriptorIndex := 62, attributes := #[] }] 1537 26 #[36] #[])
  fields := #[]
  methods := #[k19m0]
  instanceTypes := #[]
  staticTypes := #[]
  resolved := Array.replicate 144 none
  statics := none }

def pool20 : Array CpInfo := pool [(1, .methodref 2 3), (0, .class_ 4), (0, .nameAndType 5 6), (0, u "java/util/AbstractCollection"), (0, u "<init>"), (0, u "()V"), (0, .class_ 8), (0, u "java/util/Set"), (7, .class_ 17), (0, u "java/util/AbstractSet")] 78

def k20c0 : Code := { maxStack := 1, maxLocals := 1, code := jdk_91_method_1_code, exceptionTable := #[], attributes := #[] }
def k20m0 : Method := { name := "<init>", desc := "()V", sig := { parameters := [], returnType := none }, accessFlags := 4, code := some k20c0 }
/-- java/util/AbstractSet -/
def k20 : Class := { plain "java/util/AbstractSet" (some 18) with
  accessFlags := 1057
  interfaces := #[19]
  cf := some (fileOf pool20 16 #[] #[{ accessFlags := 4, nameIndex := 5, descriptorIndex := 6, attributes := #[] }] 1057 2 #[7] #[])
  fields := #[]
  methods := #[k20m0]
  instanceTypes := #[]
  staticTypes := #[]
  resolved := Array.replicate 96 none
  statics := none }

def pool21 : Array CpInfo := pool [(1, .fieldref 2 3), (0, .class_ 4), (0, .nameAndType 5 6), (0, u "java/util/HashMap$EntrySet"), (0, u "this$0"), (0, u "Ljava/util/HashMap;"), (0, .methodref 8 9), (0, .class_ 10), (0, .nameAndType 11 12), (0, u "java/util/AbstractSet"), (0, u "<init>"), (0, u "()V"), (1, .class_ 16), (1, u "java/util/HashMap"), (5, .class_ 23), (0, u "java/util/HashMap$EntryIterator"), (0, .methodref 22 25), (0, .nameAndType 11 26), (0, u "(Ljava/util/HashMap;)V"), (64, u "iterator"), (0, u "()Ljava/util/Iterator;")] 41

def k21c0 : Code := { maxStack := 2, maxLocals := 2, code := jdk_111_method_1_code, exceptionTable := #[], attributes := #[] }
def k21m0 : Method := { name := "<init>", desc := "(Ljava/util/HashMap;)V", sig := { parameters := [(.object "java/util/HashMap")], returnType := none }, accessFlags := 0, code := some k21c0 }
def k21c1 : Code := { maxStack := 3, maxLocals := 1, code := jdk_111_method_4_code, exceptionTable := #[], attributes := #[] }
def k21m1 : Method := { name := "iterator", desc := "()Ljava/util/Iterator;", sig := { parameters := [], returnType := some (.object "java/util/Iterator") }, accessFlags := 17, code := some k21c1 }
/-- java/util/HashMap$EntrySet -/
def k21 : Class := { plain "java/util/HashMap$EntrySet" (some 20) with
  accessFlags := 48
  interfaces := #[]
  cf := some (fileOf pool21 2 #[.nestHost 14] #[{ accessFlags := 0, nameIndex := 11, descriptorIndex := 26, attributes := #[] }, { accessFlags := 17, nameIndex := 91, descriptorIndex := 92, attributes := #[] }] 48 8 #[] #[{ accessFlags := 4112, nameIndex := 5, descriptorIndex := 6, attributes := #[] }])
  fields := #[{ name := "this$0", type := (.object "java/util/HashMap"), accessFlags := 4112, slot := 0, constantValue := 0 }]
  methods := #[k21m0, k21m1]
  instanceTypes := #[(.object "java/util/HashMap")]
  staticTypes := #[]
  resolved := Array.replicate 134 none
  statics := none }

def pool22 : Array CpInfo := pool [(1, .fieldref 2 3), (0, .class_ 4), (0, .nameAndType 5 6), (0, u "java/util/HashMap$HashIterator"), (0, u "this$0"), (0, u "Ljava/util/HashMap;"), (0, .methodref 8 9), (0, .class_ 10), (0, .nameAndType 11 12), (0, u "java/lang/Object"), (0, u "<init>"), (0, u "()V"), (0, .fieldref 14 15), (0, .class_ 16), (0, .nameAndType 17 18), (0, u "java/util/HashMap"), (0, u "modCount"), (0, u "I"), (0, .fieldref 2 20), (0, .nameAndType 21 18), (0, u "expectedModCount"), (0, .fieldref 14 23), (0, .nameAndType 24 25), (0, u "table"), (0, u "[Ljava/util/HashMap$Node;"), (0, .fieldref 2 27), (0, .nameAndType 28 29), (0, u "next"), (0, u "Ljava/util/HashMap$Node;"), (0, .fieldref 2 31), (0, .nameAndType 32 29), (0, u "current"), (0, .fieldref 2 34), (0, .nameAndType 35 18), (0, u "index"), (28, u "(Ljava/util/HashMap;)V"), (12, u "hasNext"), (0, u "()Z")] 12

def k22c0 : Code := { maxStack := 6, maxLocals := 3, code := jdk_99_method_1_code, exceptionTable := #[], attributes := #[] }
def k22m0 : Method := { name := "<init>", desc := "(Ljava/util/HashMap;)V", sig := { parameters := [(.object "java/util/HashMap")], returnType := none }, accessFlags := 0, code := some k22c0 }
def k22c1 : Code := { maxStack := 1, maxLocals := 1, code := jdk_99_method_2_code, exceptionTable := #[], attributes := #[] }
def k22m1 : Method := { name := "hasNext", desc := "()Z", sig := { parameters := [], returnType := some .boolean }, accessFlags := 17, code := some k22c1 }
/-- java/util/HashMap$HashIterator -/
def k22 : Class := { plain "java/util/HashMap$HashIterator" (some 0) with
  accessFlags := 1056
  interfaces := #[]
  cf := some (fileOf pool22 2 #[.nestHost 14] #[{ accessFlags := 0, nameIndex := 11, descriptorIndex := 64, attributes := #[] }, { accessFlags := 17, nameIndex := 77, descriptorIndex := 78, attributes := #[] }] 1056 8 #[] #[{ accessFlags := 0, nameIndex := 28, descriptorIndex := 29, attributes := #[] }, { accessFlags := 0, nameIndex := 32, descriptorIndex := 29, attributes := #[] }, { accessFlags := 0, nameIndex := 21, descriptorIndex := 18, attributes := #[] }, { accessFlags := 0, nameIndex := 35, descriptorIndex := 18, attributes := #[] }, { accessFlags := 4112, nameIndex := 5, descriptorIndex := 6, attributes := #[] }])
  fields := #[{ name := "next", type := (.object "java/util/HashMap$Node"), accessFlags := 0, slot := 0, constantValue := 0 }, { name := "current", type := (.object "java/util/HashMap$Node"), accessFlags := 0, slot := 1, constantValue := 0 }, { name := "expectedModCount", type := .int, accessFlags := 0, slot := 2, constantValue := 0 }, { name := "index", type := .int, accessFlags := 0, slot := 3, constantValue := 0 }, { name := "this$0", type := (.object "java/util/HashMap"), accessFlags := 4112, slot := 4, constantValue := 0 }]
  methods := #[k22m0, k22m1]
  instanceTypes := #[(.object "java/util/HashMap$Node"), (.object "java/util/HashMap$Node"), .int, .int, (.object "java/util/HashMap")]
  staticTypes := #[]
  resolved := Array.replicate 91 none
  statics := none }

def pool23 : Array CpInfo := pool [(16, .class_ 18), (1, u "java/util/Iterator"), (0, u "hasNext"), (0, u "()Z"), (10, .class_ 32), (0, u "java/lang/Object")] 20

def k23m0 : Method := { name := "hasNext", desc := "()Z", sig := { parameters := [], returnType := some .boolean }, accessFlags := 1025, code := none }
/-- java/util/Iterator -/
def k23 : Class := { plain "java/util/Iterator" (some 0) with
  accessFlags := 1537
  interfaces := #[]
  cf := some (fileOf pool23 16 #[] #[{ accessFlags := 1025, nameIndex := 19, descriptorIndex := 20, attributes := #[] }] 1537 31 #[] #[])
  fields := #[]
  methods := #[k23m0]
  instanceTypes := #[]
  staticTypes := #[]
  resolved := Array.replicate 53 none
  statics := none }

def pool24 : Array CpInfo := pool [(1, .methodref 2 3), (0, .class_ 4), (0, .nameAndType 5 6), (0, u "java/util/HashMap$HashIterator"), (0, u "<init>"), (0, u "(Ljava/util/HashMap;)V"), (1, .class_ 10), (1, u "java/util/HashMap$EntryIterator"), (6, .class_ 18), (0, u "java/util/Iterator"), (17, .class_ 37), (0, u "java/util/HashMap")] 11

def k24c0 : Code := { maxStack := 2, maxLocals := 2, code := jdk_142_method_1_code, exceptionTable := #[], attributes := #[] }
def k24m0 : Method := { name := "<init>", desc := "(Ljava/util/HashMap;)V", sig := { parameters := [(.object "java/util/HashMap")], returnType := none }, accessFlags := 0, code := some k24c0 }
/-- java/util/HashMap$EntryIterator -/
def k24 : Class := { plain "java/util/HashMap$EntryIterator" (some 22) with
  accessFlags := 48
  interfaces := #[23]
  cf := some (fileOf pool24 8 #[.nestHost 36] #[{ accessFlags := 0, nameIndex := 5, descriptorIndex := 6, attributes := #[] }] 48 2 #[17] #[])
  fields := #[]
  methods := #[k24m0]
  instanceTypes := #[(.object "java/util/HashMap$Node"), (.object "java/util/HashMap$Node"), .int, .int, (.object "java/util/HashMap")]
  staticTypes := #[]
  resolved := Array.replicate 49 none
  statics := none }

def pool25 : Array CpInfo := pool [(2, .class_ 4), (1, u "java/lang/Object"), (0, u "<init>"), (0, u "()V"), (12, .class_ 20), (0, u "java/util/Collections"), (63, u "r"), (0, u "Ljava/util/Random;"), (77, .nameAndType 164 165), (0, u "getClass"), (0, u "()Ljava/lang/Class;"), (0, .class_ 167), (0, u "java/util/Collections$UnmodifiableCollection"), (6, .class_ 175), (0, u "java/util/Collections$UnmodifiableSequencedCollection"), (6, .class_ 183), (0, u "java/util/Collections$UnmodifiableSet"), (6, .class_ 191), (0, u "java/util/Collections$UnmodifiableSequencedSet"), (6, .class_ 199), (0, u "java/util/Collections$UnmodifiableSortedSet"), (6, .class_ 207), (0, u "java/util/Collections$UnmodifiableNavigableSet"), (4, .class_ 213), (0, u "java/util/Collections$UnmodifiableList"), (1, .class_ 216), (0, u "java/util/Collections$UnmodifiableRandomAccessList"), (3, .interfaceMethodref 221 163), (0, .class_ 222), (0, u "java/util/Map"), (0, .class_ 224), (0, u "java/util/Collections$UnmodifiableMap"), (0, .methodref 223 226), (0, .nameAndType 5 227), (0, u "(Ljava/util/Map;)V"), (3, .class_ 232), (0, u "java/util/Collections$UnmodifiableSequencedMap"), (4, .class_ 238), (0, u "java/util/Collections$UnmodifiableSortedMap"), (6, .class_ 246), (0, u "java/util/Collections$UnmodifiableNavigableMap"), (3, .class_ 251), (0, u "java/util/Collections$SynchronizedCollection"), (4, .class_ 257), (0, u "java/util/Collections$SynchronizedSet"), (4, .class_ 263), (0, u "java/util/Collections$SynchronizedSortedSet"), (1, .class_ 266), (0, u "java/util/Collections$SynchronizedNavigableSet"), (1, .class_ 269), (0, u "java/util/Collections$SynchronizedRandomAccessList"), (1, .class_ 272), (0, u "java/util/Collections$SynchronizedList"), (5, .class_ 279), (0, u "java/util/Collections$SynchronizedMap"), (1, .class_ 282), (0, u "java/util/Collections$SynchronizedSortedMap"), (1, .class_ 285), (0, u "java/util/Collections$SynchronizedNavigableMap"), (1, .class_ 288), (0, u "java/util/Collections$CheckedCollection"), (11, .class_ 301), (0, u "java/util/Collections$CheckedQueue"), (3, .class_ 306), (0, u "java/util/Collections$CheckedSet"), (3, .class_ 311), (0, u "java/util/Collections$CheckedSortedSet"), (3, .class_ 316), (0, u "java/util/Collections$CheckedNavigableSet"), (3, .class_ 321), (0, u "java/util/Collections$CheckedRandomAccessList"), (3, .class_ 326), (0, u "java/util/Collections$CheckedList"), (1, .class_ 329), (0, u "java/util/Collections$CheckedMap"), (3, .class_ 334), (0, u "java/util/Collections$CheckedSortedMap"), (3, .class_ 339), (0, u "java/util/Collections$CheckedNavigableMap"), (4, .class_ 346), (1, u "java/util/Collections$EmptyIterator"), (3, .class_ 352), (1, u "java/util/Collections$EmptyListIterator"), (2, .class_ 357), (1, u "java/util/Collections$EmptyEnumeration"), (4, u "EMPTY_SET"), (0, u "Ljava/util/Set;"), (6, u "EMPTY_LIST"), (0, u "Ljava/util/List;"), (2, u "EMPTY_MAP"), (0, u "Ljava/util/Map;"), (4, .class_ 381), (0, u "java/util/Collections$SingletonSet"), (2, .class_ 385), (0, u "java/util/Collections$1"), (1, .class_ 388), (0, u "java/util/Collections$2"), (1, .class_ 391), (0, u "java/util/Collections$SingletonList"), (1, .class_ 394), (0, u "java/util/Collections$SingletonMap"), (22, .class_ 418), (0, u "java/util/Collections$CopiesList"), (4, .class_ 425), (1, u "java/util/Collections$ReverseComparator"), (8, .class_ 435), (0, u "java/util/Collections$ReverseComparator2"), (6, .class_ 443), (0, u "java/util/Collections$3"), (25, .class_ 470), (0, u "java/util/Collections$SetFromMap"), (2, .class_ 474), (0, u "java/util/Collections$SequencedSetFromMap"), (3, .class_ 479), (0, u "java/util/Collections$AsLIFOQueue"), (11, .class_ 492), (0, u "java/util/Collections$EmptySet"), (1, .class_ 495), (0, u "java/util/Collections$EmptyList"), (1, .class_ 498), (0, u "java/util/Collections$EmptyMap"), (1, u "BINARYSEARCH_THRESHOLD"), (0, u "I"), (2, u "REVERSE_THRESHOLD"), (1, u "SHUFFLE_THRESHOLD"), (1, u "FILL_THRESHOLD"), (1, u "ROTATE_THRESHOLD"), (1, u "COPY_THRESHOLD"), (1, u "REPLACEALL_THRESHOLD"), (1, u "INDEXOFSUBLIST_THRESHOLD"), (132, u "unmodifiableMap"), (0, u "(Ljava/util/Map;)Ljava/util/Map;"), (199, .class_ 851), (0, u "java/util/Collections$CheckedMap$CheckedEntrySet"), (0, .class_ 853), (0, u "java/util/Collections$CheckedMap$CheckedEntrySet$CheckedEntry"), (0, .class_ 855), (0, u "java/util/Collections$CheckedMap$CheckedEntrySet$1"), (0, .class_ 857), (0, u "java/util/Collections$CheckedList$1"), (0, .class_ 859), (0, u "java/util/Collections$CheckedCollection$1"), (0, .class_ 861), (0, u "java/util/Collections$UnmodifiableNavigableMap$EmptyNavigableMap"), (0, .class_ 863), (0, u "java/util/Collections$UnmodifiableMap$UnmodifiableEntrySet"), (0, .class_ 865), (0, u "java/util/Collections$UnmodifiableMap$UnmodifiableEntrySet$UnmodifiableEntry"), (0, .class_ 867), (0, u "java/util/Collections$UnmodifiableMap$UnmodifiableEntrySet$UnmodifiableEntrySetSpliterator"), (0, .class_ 869), (0, u "java/util/Collections$UnmodifiableMap$UnmodifiableEntrySet$1"), (0, .class_ 871), (0, u "java/util/Collections$UnmodifiableList$1"), (0, .class_ 873), (0, u "java/util/Collections$UnmodifiableNavigableSet$EmptyNavigableSet"), (0, .class_ 875), (0, u "java/util/Collections$UnmodifiableCollection$1")] 57

def k25m0 : Method := { name := "<init>", desc := "()V", sig := { parameters := [], returnType := none }, accessFlags := 2, code := none }
def k25c1 : Code := { maxStack := 3, maxLocals := 1, code := jdk_79_method_36_code, exceptionTable := #[], attributes := #[] }
def k25m1 : Method := { name := "unmodifiableMap", desc := "(Ljava/util/Map;)Ljava/util/Map;", sig := { parameters := [(.object "java/util/Map")], returnType := some (.object "java/util/Map") }, accessFlags := 9, code := some k25c1 }
/-- java/util/Collections -/
def k25 : Class := { plain "java/util/Collections" (some 0) with
  accessFlags := 33
  interfaces := #[]
  cf := some (fileOf pool25 19 #[.nestMembers #[478, 473, 469, 434, 423, 417, 393, 390, 380, 497, 494, 491, 355, 350, 344, 338, 333, 328, 850, 852, 854, 320, 325, 856, 315, 310, 305, 300, 287, 858, 284, 281, 278, 268, 271, 265, 262, 256, 250, 245, 860, 237, 231, 223, 862, 864, 866, 868, 215, 212, 870, 206, 872, 198, 190, 182, 174, 166, 874, 442, 387, 384]] #[{ accessFlags := 2, nameIndex := 5, descriptorIndex := 6, attributes := #[] }, { accessFlags := 9, nameIndex := 649, descriptorIndex := 650, attributes := #[] }] 33 2 #[] #[{ accessFlags := 26, nameIndex := 500, descriptorIndex := 501, attributes := #[] }, { accessFlags := 26, nameIndex := 504, descriptorIndex := 501, attributes := #[] }, { accessFlags := 26, nameIndex := 506, descriptorIndex := 501, attributes := #[] }, { accessFlags := 26, nameIndex := 508, descriptorIndex := 501, attributes := #[] }, { accessFlags := 26, nameIndex := 510, descriptorIndex := 501, attributes := #[] }, { accessFlags := 26, nameIndex := 512, descriptorIndex := 501, attributes := #[] }, { accessFlags := 26, nameIndex := 514, descriptorIndex := 501, attributes := #[] }, { accessFlags := 26, nameIndex := 516, descriptorIndex := 501, attributes := #[] }, { accessFlags := 10, nameIndex := 84, descriptorIndex := 85, attributes := #[] }, { accessFlags := 25, nameIndex := 362, descriptorIndex := 363, attributes := #[] }, { accessFlags := 25, nameIndex := 370, descriptorIndex := 371, attributes := #[] }, { accessFlags := 25, nameIndex := 374, descriptorIndex := 375, attributes := #[] }])
  fields := #[{ name := "BINARYSEARCH_THRESHOLD", type := .int, accessFlags := 26, slot := 0, constantValue := 0 }, { name := "REVERSE_THRESHOLD", type := .int, accessFlags := 26, slot := 1, constantValue := 0 }, { name := "SHUFFLE_THRESHOLD", type := .int, accessFlags := 26, slot := 2, constantValue := 0 }, { name := "FILL_THRESHOLD", type := .int, accessFlags := 26, slot := 3, constantValue := 0 }, { name := "ROTATE_THRESHOLD", type := .int, accessFlags := 26, slot := 4, constantValue := 0 }, { name := "COPY_THRESHOLD", type := .int, accessFlags := 26, slot := 5, constantValue := 0 }, { name := "REPLACEALL_THRESHOLD", type := .int, accessFlags := 26, slot := 6, constantValue := 0 }, { name := "INDEXOFSUBLIST_THRESHOLD", type := .int, accessFlags := 26, slot := 7, constantValue := 0 }, { name := "r", type := (.object "java/util/Random"), accessFlags := 10, slot := 8, constantValue := 0 }, { name := "EMPTY_SET", type := (.object "java/util/Set"), accessFlags := 25, slot := 9, constantValue := 0 }, { name := "EMPTY_LIST", type := (.object "java/util/List"), accessFlags := 25, slot := 10, constantValue := 0 }, { name := "EMPTY_MAP", type := (.object "java/util/Map"), accessFlags := 25, slot := 11, constantValue := 0 }]
  methods := #[k25m0, k25m1]
  instanceTypes := #[]
  staticTypes := #[.int, .int, .int, .int, .int, .int, .int, .int, (.object "java/util/Random"), (.object "java/util/Set"), (.object "java/util/List"), (.object "java/util/Map")]
  resolved := Array.replicate 933 none
  statics := none }

def pool26 : Array CpInfo := pool [(1, .methodref 2 3), (0, .class_ 4), (0, .nameAndType 5 6), (0, u "java/lang/Object"), (0, u "<init>"), (0, u "()V"), (3, .fieldref 11 12), (0, .class_ 13), (0, .nameAndType 14 15), (0, u "java/util/Collections$UnmodifiableMap"), (0, u "m"), (0, u "Ljava/util/Map;"), (1, .class_ 19), (1, u "java/util/Map"), (22, u "keySet"), (0, u "Ljava/util/Set;"), (4, .class_ 50), (1, u "java/util/Collections"), (4, u "entrySet"), (9, u "values"), (0, u "Ljava/util/Collection;"), (25, .class_ 93), (0, u "java/io/Serializable"), (0, u "serialVersionUID"), (0, u "J"), (8, u "(Ljava/util/Map;)V")] 70

def k26c0 : Code := { maxStack := 2, maxLocals := 2, code := jdk_2500_method_1_code, exceptionTable := #[], attributes := #[] }
def k26m0 : Method := { name := "<init>", desc := "(Ljava/util/Map;)V", sig := { parameters := [(.object "java/util/Map")], returnType := none }, accessFlags := 0, code := some k26c0 }
/-- java/util/Collections$UnmodifiableMap -/
def k26 : Class := { plain "java/util/Collections$UnmodifiableMap" (some 0) with
  accessFlags := 32
  interfaces := #[2, 5]
  cf := some (fileOf pool26 11 #[.nestHost 48] #[{ accessFlags := 0, nameIndex := 5, descriptorIndex := 104, attributes := #[] }] 32 2 #[17, 92] #[{ accessFlags := 26, nameIndex := 94, descriptorIndex := 95, attributes := #[] }, { accessFlags := 16, nameIndex := 14, descriptorIndex := 15, attributes := #[] }, { accessFlags := 130, nameIndex := 42, descriptorIndex := 43, attributes := #[] }, { accessFlags := 130, nameIndex := 55, descriptorIndex := 43, attributes := #[] }, { accessFlags := 130, nameIndex := 65, descriptorIndex := 66, attributes := #[] }])
  fields := #[{ name := "serialVersionUID", type := .long, accessFlags := 26, slot := 0, constantValue := 0 }, { name := "m", type := (.object "java/util/Map"), accessFlags := 16, slot := 0, constantValue := 0 }, { name := "keySet", type := (.object "java/util/Set"), accessFlags := 130, slot := 1, constantValue := 0 }, { name := "entrySet", type := (.object "java/util/Set"), accessFlags := 130, slot := 2, constantValue := 0 }, { name := "values", type := (.object "java/util/Collection"), accessFlags := 130, slot := 3, constantValue := 0 }]
  methods := #[k26m0]
  instanceTypes := #[(.object "java/util/Map"), (.object "java/util/Set"), (.object "java/util/Set"), (.object "java/util/Collection")]
  staticTypes := #[.long]
  resolved := Array.replicate 175 none
  mirror := some 1
  statics := none }

def pool27 : Array CpInfo := pool [(1, u "java/lang/Class"), (0, .class_ 1), (0, u "java/lang/Object"), (0, .class_ 3)] 3

/-- java/lang/Class -/
def k27 : Class := { plain "java/lang/Class" (some 0) with
  accessFlags := 49
  interfaces := #[]
  cf := some (fileOf pool27 2 #[] #[] 49 4 #[] #[])
  fields := #[]
  methods := #[]
  instanceTypes := #[]
  staticTypes := #[]
  resolved := Array.replicate 8 none
  statics := none }

/-- the primitive byte -/
def k28 : Class := { plain "byte" none with kind := .primitive 'B', accessFlags := 0x411 }
/-- [B -/
def k29 : Class := { plain "[B" (some 0) with kind := .array 28 .byte, interfaces := #[4, 5], accessFlags := 1041 }

/-- the primitive int -/
def k30 : Class := { plain "int" none with kind := .primitive 'I', accessFlags := 0x411 }
/-- [I -/
def k31 : Class := { plain "[I" (some 0) with kind := .array 30 .int, interfaces := #[4, 5], accessFlags := 1041 }

def heap : Heap := #[{ cls := 27, slots := #[], vm := .mirror 15 },
  { cls := 27, slots := #[], vm := .mirror 26 }]
def classes : Array Class := #[k0, k1, k2, k3, k4, k5, k6, k7, k8, k9, k10, k11, k12, k13, k14, k15, k16, k17, k18, k19, k20, k21, k22, k23, k24, k25, k26, k27, k28, k29, k30, k31]
def interned : List (Array UInt16 × Addr) := []
def slotsUsed : Nat := 0
def theMethod : MethodId := ⟨1, 1⟩
def args0 : Array Value := #[.int 1, .int 2]
def aboutOver (below : List Frame) : State where
  vm := { classes := classes, interned := interned.toArray }
  heap := heap
  slotsUsed := slotsUsed
  threads := #[{ frames := .invoking theMethod args0 :: below }]
def below0 : List Frame := [.native { method := ⟨0, 0⟩, args := #[] }]
def about1 : State := aboutOver below0
def p0 : Program := .bare "" "" ""
def e0 : Env := launch0.env 0 0 0
theorem w_frames : about1.frames = Frame.invoking theMethod args0 :: below0 := rfl
set_option maxRecDepth 65536 in
theorem w_args : argsFit about1.vm theMethod args0 = true := by decide +kernel
set_option maxRecDepth 65536 in
theorem w_heap : heapFits about1 = true := by decide +kernel
set_option maxRecDepth 65536 in
theorem w_runnable : about1.curStatus? = some .runnable := by decide +kernel
set_option maxRecDepth 65536 in
theorem w_alone : about1.alone = true := by decide +kernel
set_option maxRecDepth 65536 in
theorem w_named : about1.methodNamed? x = some theMethod := by decide +kernel
set_option maxRecDepth 65536 in
theorem w_hears : about1.hears theMethod below0 = true := by decide +kernel
set_option maxRecDepth 65536 in
theorem w_ripe : about1.ripe theMethod args0 below0 = true := by decide +kernel
theorem w_running : about1.status = .running := rfl
set_option maxRecDepth 65536 in
theorem w_room : about1.hasRoom e0.platform room_1 = true :=
  launch0.hasRoom_least _ room_1 (by decide +kernel) (by decide +kernel) (by decide +kernel) (by decide +kernel) (by decide +kernel) (by decide +kernel)
theorem allAtoms_all (ts : List Jvm.Cond) (a : Array Jvm.Value) (st : Jvm.State) : (allAtoms ts).before a st = ts.all (fun c => c.before a st) := by
  induction ts with
  | nil => rfl
  | cons c t ih =>
    show (Jvm.Cond.and c (allAtoms t)).before a st = _
    rw [Jvm.Cond.before_and, ih, List.all_cons]
def words1 : List Jvm.Cond := Jvm.Cond.code x code maxLocals ret :: tables_1
/-- a 'code' word, met by the world's own term for the bytes: nothing is compared byte by byte -/
theorem code_word {y : MethodName} {bytes : ByteArray} {mx : Nat} {rt : Option FieldType} {a : Array Value} {s : State} {m : MethodId} {meth : Method} {c : Code} (h1 : s.methodNamed? y = some m) (h2 : s.vm.method? m = some meth) (h3 : meth.code = some c) (h4 : c.code = bytes)
    (h5 : (c.maxLocals == mx && c.exceptionTable.isEmpty && decide (c.maxStack ≤ mostOperands) && decide (meth.sig.returnType = rt) && !meth.locks && decide (parseMethodDescriptor y.desc = some meth.sig)) = true) : (Jvm.Cond.code y bytes mx rt).before a s = true := by
  simp only [Bool.and_eq_true, beq_iff_eq, Bool.not_eq_true', decide_eq_true_eq] at h5
  obtain ⟨⟨⟨⟨⟨g1, g2⟩, g3⟩, g4⟩, g5⟩, g6⟩ := h5
  simp [Cond.before, Cond.holds, Cond.value, h1, h2, h3, h4, g1, g2, g3, g4, g5, g6]
def isCode : Jvm.Cond → Bool
  | .code _ _ _ _ => true
  | _ => false
theorem all_split {L : List Jvm.Cond} {P : Jvm.Cond → Bool} (h1 : L.all (fun c => isCode c || P c) = true) (h2 : ∀ c ∈ L.filter isCode, P c = true) : L.all P = true := by
  refine List.all_eq_true.mpr fun c hc => ?_
  have h := List.all_eq_true.mp h1 c hc
  rcases Bool.eq_false_or_eq_true (isCode c) with hi | hi
  · exact h2 c (List.mem_filter.mpr ⟨hc, hi⟩)
  · simpa [hi] using h
set_option maxRecDepth 65536 in
theorem w_c0 : (Jvm.Cond.code x code maxLocals ret).before args0 about1 = true := code_word (m := ⟨1, 1⟩) (meth := k1m1) (c := k1c1) (by decide +kernel) rfl rfl rfl (by decide +kernel)
set_option maxRecDepth 65536 in
theorem w_c1 : (Jvm.Cond.code ({ cls := "java/util/HashMap", name := "<init>", desc := "()V" } : Jvm.MethodName) jdk_69_method_7_code (1 : Nat) (Option.none : Option Jvm.ClassFile.FieldType)).before args0 about1 = true := code_word (m := ⟨6, 0⟩) (meth := k6m0) (c := k6c0) (by decide +kernel) rfl rfl rfl (by decide +kernel)
set_option maxRecDepth 65536 in
theorem w_c2 : (Jvm.Cond.code ({ cls := "java/util/AbstractMap", name := "<init>", desc := "()V" } : Jvm.MethodName) jdk_71_method_1_code (1 : Nat) (Option.none : Option Jvm.ClassFile.FieldType)).before args0 about1 = true := code_word (m := ⟨3, 0⟩) (meth := k3m0) (c := k3c0) (by decide +kernel) rfl rfl rfl (by decide +kernel)
set_option maxRecDepth 65536 in
theorem w_c3 : (Jvm.Cond.code ({ cls := "java/lang/Object", name := "<init>", desc := "()V" } : Jvm.MethodName) object_method_1_code (1 : Nat) (Option.none : Option Jvm.ClassFile.FieldType)).before args0 about1 = true := code_word (m := ⟨0, 0⟩) (meth := k0m0) (c := k0c0) (by decide +kernel) rfl rfl rfl (by decide +kernel)
set_option maxRecDepth 65536 in
theorem w_c4 : (Jvm.Cond.code ({ cls := "com/example/hapax/hapax/core/Result", name := "<init>", desc := "(ILjava/util/Map;[B)V" } : Jvm.MethodName) prog_26_method_1_code (8 : Nat) (Option.none : Option Jvm.ClassFile.FieldType)).before args0 about1 = true := code_word (m := ⟨7, 0⟩) (meth := k7m0) (c := k7c0) (by decide +kernel) rfl rfl rfl (by decide +kernel)
set_option maxRecDepth 65536 in
theorem w_c5 : (Jvm.Cond.code ({ cls := "java/util/Objects", name := "requireNonNull", desc := "(Ljava/lang/Object;Ljava/lang/String;)Ljava/lang/Object;" } : Jvm.MethodName) jdk_31_method_11_code (2 : Nat) (Option.some (Jvm.ClassFile.FieldType.object "java/lang/Object"))).before args0 about1 = true := code_word (m := ⟨13, 1⟩) (meth := k13m1) (c := k13c1) (by decide +kernel) rfl rfl rfl (by decide +kernel)
set_option maxRecDepth 65536 in
theorem w_c6 : (Jvm.Cond.code ({ cls := "java/util/LinkedHashMap", name := "<init>", desc := "()V" } : Jvm.MethodName) jdk_94_method_16_code (1 : Nat) (Option.none : Option Jvm.ClassFile.FieldType)).before args0 about1 = true := code_word (m := ⟨15, 0⟩) (meth := k15m0) (c := k15c0) (by decide +kernel) rfl rfl rfl (by decide +kernel)
set_option maxRecDepth 65536 in
theorem w_c7 : (Jvm.Cond.code ({ cls := "java/util/HashMap", name := "entrySet", desc := "()Ljava/util/Set;" } : Jvm.MethodName) jdk_69_method_29_code (2 : Nat) (Option.some (Jvm.ClassFile.FieldType.object "java/util/Set"))).before args0 about1 = true := code_word (m := ⟨6, 1⟩) (meth := k6m1) (c := k6c1) (by decide +kernel) rfl rfl rfl (by decide +kernel)
set_option maxRecDepth 65536 in
theorem w_c8 : (Jvm.Cond.code ({ cls := "java/util/HashMap$EntrySet", name := "<init>", desc := "(Ljava/util/HashMap;)V" } : Jvm.MethodName) jdk_111_method_1_code (2 : Nat) (Option.none : Option Jvm.ClassFile.FieldType)).before args0 about1 = true := code_word (m := ⟨21, 0⟩) (meth := k21m0) (c := k21c0) (by decide +kernel) rfl rfl rfl (by decide +kernel)
set_option maxRecDepth 65536 in
theorem w_c9 : (Jvm.Cond.code ({ cls := "java/util/AbstractSet", name := "<init>", desc := "()V" } : Jvm.MethodName) jdk_91_method_1_code (1 : Nat) (Option.none : Option Jvm.ClassFile.FieldType)).before args0 about1 = true := code_word (m := ⟨20, 0⟩) (meth := k20m0) (c := k20c0) (by decide +kernel) rfl rfl rfl (by decide +kernel)
set_option maxRecDepth 65536 in
theorem w_c10 : (Jvm.Cond.code ({ cls := "java/util/AbstractCollection", name := "<init>", desc := "()V" } : Jvm.MethodName) jdk_22_method_1_code (1 : Nat) (Option.none : Option Jvm.ClassFile.FieldType)).before args0 about1 = true := code_word (m := ⟨18, 0⟩) (meth := k18m0) (c := k18c0) (by decide +kernel) rfl rfl rfl (by decide +kernel)
set_option maxRecDepth 65536 in
theorem w_c11 : (Jvm.Cond.code ({ cls := "java/util/HashMap$EntrySet", name := "iterator", desc := "()Ljava/util/Iterator;" } : Jvm.MethodName) jdk_111_method_4_code (1 : Nat) (Option.some (Jvm.ClassFile.FieldType.object "java/util/Iterator"))).before args0 about1 = true := code_word (m := ⟨21, 1⟩) (meth := k21m1) (c := k21c1) (by decide +kernel) rfl rfl rfl (by decide +kernel)
set_option maxRecDepth 65536 in
theorem w_c12 : (Jvm.Cond.code ({ cls := "java/util/HashMap$EntryIterator", name := "<init>", desc := "(Ljava/util/HashMap;)V" } : Jvm.MethodName) jdk_142_method_1_code (2 : Nat) (Option.none : Option Jvm.ClassFile.FieldType)).before args0 about1 = true := code_word (m := ⟨24, 0⟩) (meth := k24m0) (c := k24c0) (by decide +kernel) rfl rfl rfl (by decide +kernel)
set_option maxRecDepth 65536 in
theorem w_c13 : (Jvm.Cond.code ({ cls := "java/util/HashMap$HashIterator", name := "<init>", desc := "(Ljava/util/HashMap;)V" } : Jvm.MethodName) jdk_99_method_1_code (3 : Nat) (Option.none : Option Jvm.ClassFile.FieldType)).before args0 about1 = true := code_word (m := ⟨22, 0⟩) (meth := k22m0) (c := k22c0) (by decide +kernel) rfl rfl rfl (by decide +kernel)
set_option maxRecDepth 65536 in
theorem w_c14 : (Jvm.Cond.code ({ cls := "java/util/HashMap$HashIterator", name := "hasNext", desc := "()Z" } : Jvm.MethodName) jdk_99_method_2_code (1 : Nat) (Option.some Jvm.ClassFile.FieldType.boolean)).before args0 about1 = true := code_word (m := ⟨22, 1⟩) (meth := k22m1) (c := k22c1) (by decide +kernel) rfl rfl rfl (by decide +kernel)
set_option maxRecDepth 65536 in
theorem w_c15 : (Jvm.Cond.code ({ cls := "java/util/Collections", name := "unmodifiableMap", desc := "(Ljava/util/Map;)Ljava/util/Map;" } : Jvm.MethodName) jdk_79_method_36_code (1 : Nat) (Option.some (Jvm.ClassFile.FieldType.object "java/util/Map"))).before args0 about1 = true := code_word (m := ⟨25, 1⟩) (meth := k25m1) (c := k25c1) (by decide +kernel) rfl rfl rfl (by decide +kernel)
set_option maxRecDepth 65536 in
theorem w_c16 : (Jvm.Cond.code ({ cls := "java/util/Collections$UnmodifiableMap", name := "<init>", desc := "(Ljava/util/Map;)V" } : Jvm.MethodName) jdk_2500_method_1_code (2 : Nat) (Option.none : Option Jvm.ClassFile.FieldType)).before args0 about1 = true := code_word (m := ⟨26, 0⟩) (meth := k26m0) (c := k26c0) (by decide +kernel) rfl rfl rfl (by decide +kernel)
set_option maxRecDepth 65536 in
theorem w_c17 : (Jvm.Cond.code ({ cls := "com/example/hapax/hapax/core/Result", name := "isFinal", desc := "()Z" } : Jvm.MethodName) prog_26_method_5_code (1 : Nat) (Option.some Jvm.ClassFile.FieldType.boolean)).before args0 about1 = true := code_word (m := ⟨7, 2⟩) (meth := k7m2) (c := k7c2) (by decide +kernel) rfl rfl rfl (by decide +kernel)
set_option maxRecDepth 65536 in
theorem w_c18 : (Jvm.Cond.code ({ cls := "com/example/hapax/hapax/core/Result", name := "status", desc := "()I" } : Jvm.MethodName) prog_26_method_2_code (1 : Nat) (Option.some Jvm.ClassFile.FieldType.int)).before args0 about1 = true := code_word (m := ⟨7, 1⟩) (meth := k7m1) (c := k7c1) (by decide +kernel) rfl rfl rfl (by decide +kernel)
def codes1 : List Jvm.Cond := [Jvm.Cond.code x code maxLocals ret, Jvm.Cond.code ({ cls := "java/util/HashMap", name := "<init>", desc := "()V" } : Jvm.MethodName) jdk_69_method_7_code (1 : Nat) (Option.none : Option Jvm.ClassFile.FieldType), Jvm.Cond.code ({ cls := "java/util/AbstractMap", name := "<init>", desc := "()V" } : Jvm.MethodName) jdk_71_method_1_code (1 : Nat) (Option.none : Option Jvm.ClassFile.FieldType), Jvm.Cond.code ({ cls := "java/lang/Object", name := "<init>", desc := "()V" } : Jvm.MethodName) object_method_1_code (1 : Nat) (Option.none : Option Jvm.ClassFile.FieldType), Jvm.Cond.code ({ cls := "com/example/hapax/hapax/core/Result", name := "<init>", desc := "(ILjava/util/Map;[B)V" } : Jvm.MethodName) prog_26_method_1_code (8 : Nat) (Option.none : Option Jvm.ClassFile.FieldType), Jvm.Cond.code ({ cls := "java/util/Objects", name := "requireNonNull", desc := "(Ljava/lang/Object;Ljava/lang/String;)Ljava/lang/Object;" } : Jvm.MethodName) jdk_31_method_11_code (2 : Nat) (Option.some (Jvm.ClassFile.FieldType.object "java/lang/Object")), Jvm.Cond.code ({ cls := "java/util/LinkedHashMap", name := "<init>", desc := "()V" } : Jvm.MethodName) jdk_94_method_16_code (1 : Nat) (Option.none : Option Jvm.ClassFile.FieldType), Jvm.Cond.code ({ cls := "java/util/HashMap", name := "entrySet", desc := "()Ljava/util/Set;" } : Jvm.MethodName) jdk_69_method_29_code (2 : Nat) (Option.some (Jvm.ClassFile.FieldType.object "java/util/Set")), Jvm.Cond.code ({ cls := "java/util/HashMap$EntrySet", name := "<init>", desc := "(Ljava/util/HashMap;)V" } : Jvm.MethodName) jdk_111_method_1_code (2 : Nat) (Option.none : Option Jvm.ClassFile.FieldType), Jvm.Cond.code ({ cls := "java/util/AbstractSet", name := "<init>", desc := "()V" } : Jvm.MethodName) jdk_91_method_1_code (1 : Nat) (Option.none : Option Jvm.ClassFile.FieldType), Jvm.Cond.code ({ cls := "java/util/AbstractCollection", name := "<init>", desc := "()V" } : Jvm.MethodName) jdk_22_method_1_code (1 : Nat) (Option.none : Option Jvm.ClassFile.FieldType), Jvm.Cond.code ({ cls := "java/util/HashMap$EntrySet", name := "iterator", desc := "()Ljava/util/Iterator;" } : Jvm.MethodName) jdk_111_method_4_code (1 : Nat) (Option.some (Jvm.ClassFile.FieldType.object "java/util/Iterator")), Jvm.Cond.code ({ cls := "java/util/HashMap$EntryIterator", name := "<init>", desc := "(Ljava/util/HashMap;)V" } : Jvm.MethodName) jdk_142_method_1_code (2 : Nat) (Option.none : Option Jvm.ClassFile.FieldType), Jvm.Cond.code ({ cls := "java/util/HashMap$HashIterator", name := "<init>", desc := "(Ljava/util/HashMap;)V" } : Jvm.MethodName) jdk_99_method_1_code (3 : Nat) (Option.none : Option Jvm.ClassFile.FieldType), Jvm.Cond.code ({ cls := "java/util/HashMap$HashIterator", name := "hasNext", desc := "()Z" } : Jvm.MethodName) jdk_99_method_2_code (1 : Nat) (Option.some Jvm.ClassFile.FieldType.boolean), Jvm.Cond.code ({ cls := "java/util/Collections", name := "unmodifiableMap", desc := "(Ljava/util/Map;)Ljava/util/Map;" } : Jvm.MethodName) jdk_79_method_36_code (1 : Nat) (Option.some (Jvm.ClassFile.FieldType.object "java/util/Map")), Jvm.Cond.code ({ cls := "java/util/Collections$UnmodifiableMap", name := "<init>", desc := "(Ljava/util/Map;)V" } : Jvm.MethodName) jdk_2500_method_1_code (2 : Nat) (Option.none : Option Jvm.ClassFile.FieldType), Jvm.Cond.code ({ cls := "com/example/hapax/hapax/core/Result", name := "isFinal", desc := "()Z" } : Jvm.MethodName) prog_26_method_5_code (1 : Nat) (Option.some Jvm.ClassFile.FieldType.boolean), Jvm.Cond.code ({ cls := "com/example/hapax/hapax/core/Result", name := "status", desc := "()I" } : Jvm.MethodName) prog_26_method_2_code (1 : Nat) (Option.some Jvm.ClassFile.FieldType.int)]
set_option maxRecDepth 65536 in
theorem codes_eq : words1.filter isCode = codes1 := rfl
theorem w_codes : ∀ c ∈ words1.filter isCode, c.before args0 about1 = true := by
  rw [codes_eq]
  intro c hc
  simp only [codes1, List.mem_cons, List.not_mem_nil, or_false] at hc
  rcases hc with rfl | rfl | rfl | rfl | rfl | rfl | rfl | rfl | rfl | rfl | rfl | rfl | rfl | rfl | rfl | rfl | rfl | rfl | rfl
  · exact w_c0
  · exact w_c1
  · exact w_c2
  · exact w_c3
  · exact w_c4
  · exact w_c5
  · exact w_c6
  · exact w_c7
  · exact w_c8
  · exact w_c9
  · exact w_c10
  · exact w_c11
  · exact w_c12
  · exact w_c13
  · exact w_c14
  · exact w_c15
  · exact w_c16
  · exact w_c17
  · exact w_c18
set_option maxRecDepth 65536 in
theorem w_t1 : (words1.take 24).all (fun c => isCode c || c.before args0 about1) = true := by decide +kernel
set_option maxRecDepth 65536 in
theorem w_t2 : ((words1.drop 24).take 24).all (fun c => isCode c || c.before args0 about1) = true := by decide +kernel
set_option maxRecDepth 65536 in
theorem w_t3 : (((words1.drop 24).drop 24).take 24).all (fun c => isCode c || c.before args0 about1) = true := by decide +kernel
set_option maxRecDepth 65536 in
theorem w_t4 : ((((words1.drop 24).drop 24).drop 24).take 24).all (fun c => isCode c || c.before args0 about1) = true := by decide +kernel
set_option maxRecDepth 65536 in
theorem w_t5 : (((((words1.drop 24).drop 24).drop 24).drop 24).take 24).all (fun c => isCode c || c.before args0 about1) = true := by decide +kernel
set_option maxRecDepth 65536 in
theorem w_t6 : ((((((words1.drop 24).drop 24).drop 24).drop 24).drop 24).take 24).all (fun c => isCode c || c.before args0 about1) = true := by decide +kernel
set_option maxRecDepth 65536 in
theorem w_t7 : (((((((words1.drop 24).drop 24).drop 24).drop 24).drop 24).drop 24).take 24).all (fun c => isCode c || c.before args0 about1) = true := by decide +kernel
set_option maxRecDepth 65536 in
theorem w_t8 : (((((((words1.drop 24).drop 24).drop 24).drop 24).drop 24).drop 24).drop 24).all (fun c => isCode c || c.before args0 about1) = true := by decide +kernel
theorem w_tables : (allAtoms (Jvm.Cond.code x code maxLocals ret :: tables_1)).before args0 about1 = true := by
  rw [allAtoms_all]
  show words1.all (fun c => c.before args0 about1) = true
  refine all_split ?_ w_codes
  rw [← List.take_append_drop 24 words1, List.all_append, w_t1, ← List.take_append_drop 24 (words1.drop 24), List.all_append, w_t2, ← List.take_append_drop 24 ((words1.drop 24).drop 24), List.all_append, w_t3, ← List.take_append_drop 24 (((words1.drop 24).drop 24).drop 24), List.all_append, w_t4, ← List.take_append_drop 24 ((((words1.drop 24).drop 24).drop 24).drop 24), List.all_append, w_t5, ← List.take_append_drop 24 (((((words1.drop 24).drop 24).drop 24).drop 24).drop 24), List.all_append, w_t6, ← List.take_append_drop 24 ((((((words1.drop 24).drop 24).drop 24).drop 24).drop 24).drop 24), List.all_append, w_t7, w_t8]
  rfl
set_option maxRecDepth 65536 in
theorem w_case : (Jvm.Cond.and given_1 narrow_1).before args0 about1 = true := by decide +kernel
theorem w_applies : (headSpec (Jvm.Cond.code x code maxLocals ret :: tables_1) room_1).applies x e0.platform about1 = true :=
  (Spec.applies_iff w_frames).mpr ⟨w_running, w_runnable, w_alone, w_named, w_hears, w_ripe, w_room, w_tables⟩
theorem atStart : AtStart classFile x code maxLocals ret World_1 tables_1 room_1 Calls_1 rest_1 Pre_1 launch0 p0 e0 about1 theMethod args0 below0 :=
  ⟨lists_1, trivial, launch0.admits_env _ _ _, launch0.least_env, fairChoices_fair.cas, fairChoices_fair.clock, w_frames, w_args, w_heap, w_applies, ⟨⟨15, k15, 0, by decide +kernel, rfl, rfl, _, rfl, rfl⟩, ⟨⟨26, k26, 1, by decide +kernel, rfl, rfl, _, rfl, rfl⟩, trivial⟩⟩, trivial, w_case⟩
end start1
theorem witness_1 : WitnessClaimed_1 := ⟨start1.p0, start1.e0, start1.about1, start1.theMethod, start1.args0, start1.below0, start1.atStart⟩
end Jvm.Pilot.@@N@@
