import JvmDerived
import JvmDerived.Pilot.@@N@@Statement
import JvmDerived.Pilot.@@N@@Code
set_option linter.unusedVariables false
set_option linter.unusedSimpArgs false
@@BLOCK:HandJ.lean.txt@@
@@BLOCK:NumsL.lean.txt@@
@@BLOCK:SymMore.lean.txt@@
namespace Jvm.Pilot.@@N@@
open Jvm Jvm.ClassFile Sem Op Lib Jvm.Free Jvm.Stand Jvm.LawKit Jvm.RoadKit Bundle Jvm.Pilot.@@N@@.Jvm.D
/-! ## own_..: a layer of continuations over the library's laws: a walk that may branch -/
/-- from T with the frame g on top the run comes to an end of which P holds -/
def own_Fin (p : Program) (e : Env) (below : List Frame) (P : Outcome → State → Prop) (T : State) (g : JFrame) : Prop :=
  ∃ s₂ o, Steps p.tables e below (T.setTop g) s₂ ∧ s₂.status = .running ∧ Ended s₂ below o ∧ P o s₂
/-- what is known of the method that is walked -/
def own_Ctx (p : Program) (Z s : State) (m : MethodId) (meth : Method) (c : Code) (cls : String) (bytes : ByteArray) (maxL : Nat) (ret : Option FieldType) (nm : String) : Prop :=
  p.tables.exec = Jvm.exec ∧ Z.Warmed39 s.vm ∧ c.code = bytes ∧ c.maxLocals = maxL ∧ s.vm.findClass cls = some m.cls ∧ meth.sig.returnType = ret ∧ meth.locks = false ∧ meth.name = nm
/-- the walk's end: it returns v, Q says what it leaves -/
def own_P (s : State) (rm : Room) (Q : Option Value → Heap → List Loc → Prop) : Outcome → State → Prop :=
  fun o t => ∃ v L, o = .returned v ∧ Q v t.heap L ∧ FrameEnd s o t L rm.cells rm.slots
/-- a method's contract at one heap and one list of arguments -/
def own_Met (l : Launch) (Z : State) (y : MethodName) (bytes : ByteArray) (maxL : Nat) (ret : Option FieldType) (rm : Room) (as' : Array Value) (h : Heap) (Q : Option Value → Heap → List Loc → Prop) : Prop :=
  ∀ ws, MetFree l y (head1 (Jvm.Cond.code y bytes maxL ret :: ws) rm) (fun a U => a = as' ∧ Z.Warmed39 U.vm ∧ U.heap = h) (fun _ _ _ _ _ => True) (fun _ U o U' => ∃ v L, o = .returned v ∧ Q v U'.heap L ∧ FrameEnd U o U' L rm.cells rm.slots)
theorem own_enter {l : Launch} {Z : State} {y : MethodName} {bytes : ByteArray} {maxL : Nat} {ret : Option FieldType} {rm : Room} {as' : Array Value} {h : Heap} {Q : Option Value → Heap → List Loc → Prop} {Ls : Array Slot}
    (hpl : plainFor y = true) (hef : ∀ m, entryFrame m as' maxL = mkF m 0 Ls [])
    (body : ∀ (p : Program) (e : Env) (s : State) (m : MethodId) (below : List Frame) (meth : Method) (c : Code) (T : State), own_Ctx p Z s m meth c y.cls bytes maxL ret y.name → Stand p l e rm s m as' below meth c T [] 0 0 → T.heap = h → own_Fin p e below (own_P s rm Q) T (mkF m 0 Ls [])) :
    own_Met l Z y bytes maxL ret rm as' h Q := by
  intro ws
  refine MetFree.of_bodySF hpl hisR ?_
  intro p e s m args below meth c s₁ Bd hml0 hP hK
  obtain ⟨rfl, hZ, hh⟩ := hP
  have q := body p e s m below meth c s₁ ⟨Bd.exec, hZ, Bd.bytes, hml0, findClass_of_methodNamed Bd.named, Bd.returns, BodyLoose.notSynchronized Bd, (name_of_methodNamed Bd.named Bd.method).1⟩ (Stand.of_body Bd) (by rw [← hh, Bd.state]; rfl)
  rw [← hef m] at q
  exact q
/-- what a method leaves that writes nothing: the value, and the heap as it was -/
def own_QI (r : Int32) (h0 : Heap) (n0 : Nat) (v : Option Value) (h : Heap) (L : List Loc) : Prop := v = some (.int r) ∧ Fr n0 L ∧ h = h0
def own_QJ (r : Int64) (h0 : Heap) (n0 : Nat) (v : Option Value) (h : Heap) (L : List Loc) : Prop := v = some (.long r) ∧ Fr n0 L ∧ h = h0
def own_QR (r : Value) (h0 : Heap) (n0 : Nat) (v : Option Value) (h : Heap) (L : List Loc) : Prop := v = some r ∧ Fr n0 L ∧ h = h0
def own_QV (h0 : Heap) (n0 : Nat) (v : Option Value) (h : Heap) (L : List Loc) : Prop := v = none ∧ Fr n0 L ∧ h = h0
/-- what a law leaves: true -/
def own_Q1 (n0 : Nat) (v : Option Value) (h : Heap) (L : List Loc) : Prop := v = some (.int 1) ∧ Fr n0 L
theorem own_lrem_eq (x y : Int64) : x - (x / y) * y = x % y := Int64.toInt_inj.mp ((Jvm.Kit.i64_rem x y).trans (Int64.toInt_mod x y).symm)
theorem own_lrem {tb : Tables} [Ours tb] {e : Env} {below : List Frame} {T target : State} {m : MethodId} {c : Code} {g : JFrame} (h : At T m c below) (hx : tb.exec = Jvm.exec) (hg : g.method = m) {x y : Int64} {rest : List Value} (hd : decode c.code g.pc = .ok (.lrem, 1)) (hs : g.stack = .long y :: .long x :: rest) (hy : y ≠ 0)
    (hr : Steps tb e below (T.setTop { g with pc := g.pc + 1, stack := .long (x % y) :: rest }) target) : Steps tb e below (T.setTop g) target :=
  XS.lrem h hx hg hd hs hy (by rw [own_lrem_eq]; exact hr)
section Own
variable {p : Program} {l : Launch} {e : Env} {R : Room} {s : State} {m : MethodId} {args : Array Value} {below : List Frame} {meth : Method} {c : Code} {T : State} {locs : List Loc} {cells slots : Nat} {Z : State} {a0 : Array Value} {h : Heap}
  {P : Outcome → State → Prop} {cls : String} {bytes : ByteArray} {maxL : Nat} {ret : Option FieldType} {nm : String} {Q : Option Value → Heap → List Loc → Prop}
theorem own_seg {T' : State} {g g' : JFrame} (st : ∀ t, Steps p.tables e below (T'.setTop g') t → Steps p.tables e below (T.setTop g) t) (k : own_Fin p e below P T' g') : own_Fin p e below P T g := by
  obtain ⟨s₂, o, h1, h2⟩ := k
  exact ⟨s₂, o, st _ h1, h2⟩
theorem own_mono (X : Stand p l e R s m args below meth c T locs cells slots) {cells' slots' : Nat} (h1 : cells ≤ cells') (h2 : slots ≤ slots') : Stand p l e R s m args below meth c T locs cells' slots' :=
  ⟨X.admits, X.cas, X.clock, X.frames, X.room, X.hears, X.method, X.code, X.here, X.tail, X.warmed, X.limits, X.bytes, X.same.mono h1 h2⟩
/-- the end of a walk -/
theorem own_out (K : own_Ctx p Z s m meth c cls bytes maxL ret nm) (X : Stand p l e R s m args below meth c T locs cells slots) {v : Option Value} (hv : ret = none → v = none) {g : JFrame}
    (st : ∀ fs, (∀ (f : JFrame) (acts : List Action), f.method = m → f.locked = none → f.entered = [] → (doReturn e (T.setTop f) acts v).1 = T.setFrames fs) → Steps p.tables e below (T.setTop g) (T.setFrames fs))
    (hQ : Q v T.heap locs) (hc : cells ≤ R.cells) (hs : slots ≤ R.slots) : own_Fin p e below (own_P s R Q) T g := by
  obtain ⟨hx, hZ, hby, hml, hown, hret, hlk, hnm⟩ := K
  obtain ⟨fs, hr, hrun, hended, hW, hsame⟩ := X.leave (v := v) (fun q => hv (hret ▸ q)) hlk
  exact ⟨_, _, st fs hr, hrun, hended, _, _, rfl, hQ, ⟨_, rfl⟩, hW, hsame.mono hc hs⟩
theorem own_retV (K : own_Ctx p Z s m meth c cls bytes maxL none nm) (X : Stand p l e R s m args below meth c T locs cells slots) {pc : Nat} {Ls : Array Slot} (hd : decode bytes pc = .ok (.return_, 1))
    (hQ : Q none T.heap locs) (hc : cells ≤ R.cells) (hs : slots ≤ R.slots) : own_Fin p e below (own_P s R Q) T (mkF m pc Ls []) :=
  own_out K X (fun _ => rfl) (fun fs hr => X.returnOut K.1 K.2.2.2.2.2.1 (hb K.2.2.1 hd) hr) hQ hc hs
theorem own_retO {t : FieldType} (K : own_Ctx p Z s m meth c cls bytes maxL (some t) nm) (X : Stand p l e R s m args below meth c T locs cells slots) {pc : Nat} {Ls : Array Slot} {w : Value} {i : Instr} {rest : List Value} (hn : narrow t w = w)
    (hi : (i = .ireturn ∧ (t = .int ∨ t = .boolean ∨ t = .byte ∨ t = .char ∨ t = .short) ∧ ∃ z, w = .int z) ∨ (i = .lreturn ∧ t = .long ∧ ∃ z, w = .long z) ∨ (i = .dreturn ∧ t = .double ∧ ∃ z, w = .double z) ∨ (i = .freturn ∧ t = .float ∧ ∃ z, w = .float z) ∨ (i = .areturn ∧ t.isReference = true ∧ w.isRef = true))
    (hd : decode bytes pc = .ok (i, 1)) (hQ : Q (some w) T.heap locs) (hc : cells ≤ R.cells) (hs : slots ≤ R.slots) : own_Fin p e below (own_P s R Q) T (mkF m pc Ls (w :: rest)) :=
  own_out K X (fun q => nomatch q) (fun fs hr => retOut X K.1 K.2.2.2.2.2.1 hn hi (hb K.2.2.1 hd) hr) hQ hc hs
theorem own_retI (K : own_Ctx p Z s m meth c cls bytes maxL (some .int) nm) (X : Stand p l e R s m args below meth c T locs cells slots) {pc : Nat} {Ls : Array Slot} {z : Int32} {rest : List Value}
    (hd : decode bytes pc = .ok (.ireturn, 1)) (hQ : Q (some (.int z)) T.heap locs) (hc : cells ≤ R.cells) (hs : slots ≤ R.slots) : own_Fin p e below (own_P s R Q) T (mkF m pc Ls (.int z :: rest)) :=
  own_retO K X rfl (Or.inl ⟨rfl, Or.inl rfl, z, rfl⟩) hd hQ hc hs
theorem own_retJ (K : own_Ctx p Z s m meth c cls bytes maxL (some .long) nm) (X : Stand p l e R s m args below meth c T locs cells slots) {pc : Nat} {Ls : Array Slot} {z : Int64} {rest : List Value}
    (hd : decode bytes pc = .ok (.lreturn, 1)) (hQ : Q (some (.long z)) T.heap locs) (hc : cells ≤ R.cells) (hs : slots ≤ R.slots) : own_Fin p e below (own_P s R Q) T (mkF m pc Ls (.long z :: rest)) :=
  own_retO K X rfl (Or.inr (Or.inl ⟨rfl, rfl, z, rfl⟩)) hd hQ hc hs
theorem own_retA {t : FieldType} (K : own_Ctx p Z s m meth c cls bytes maxL (some t) nm) (ht : t.isReference = true) (X : Stand p l e R s m args below meth c T locs cells slots) {pc : Nat} {Ls : Array Slot} {w : Value} {rest : List Value} (hw : w.isRef = true)
    (hd : decode bytes pc = .ok (.areturn, 1)) (hQ : Q (some w) T.heap locs) (hc : cells ≤ R.cells) (hs : slots ≤ R.slots) : own_Fin p e below (own_P s R Q) T (mkF m pc Ls (w :: rest)) :=
  own_retO K X (by cases t <;> first | rfl | (cases ht; done) | (rcases ref_cases hw with rfl | ⟨a, rfl⟩ <;> rfl)) (Or.inr (Or.inr (Or.inr (Or.inr ⟨rfl, ht, hw⟩)))) hd hQ hc hs
theorem own_retN {t : FieldType} (K : own_Ctx p Z s m meth c cls bytes maxL (some t) nm) (ht : t = .boolean ∨ t = .byte ∨ t = .char ∨ t = .short) (X : Stand p l e R s m args below meth c T locs cells slots) {pc : Nat} {Ls : Array Slot} {z : Int32} {rest : List Value}
    (hd : decode bytes pc = .ok (.ireturn, 1)) (hQ : Q (some (.int (nar t z))) T.heap locs) (hc : cells ≤ R.cells) (hs : slots ≤ R.slots) : own_Fin p e below (own_P s R Q) T (mkF m pc Ls (.int z :: rest)) :=
  own_out K X (fun q => nomatch q) (fun fs hr => retN X K.1 K.2.2.2.2.2.1 ht (hb K.2.2.1 hd) hr) hQ hc hs
/-! calls -/
theorem own_callS (K : own_Ctx p Z s m meth c cls bytes maxL ret nm) (X : Stand p l e R s m args below meth c T locs cells slots) (eT : T.heap = h) {y : MethodName} {yb : ByteArray} {yl : Nat} {yr : Option FieldType} {rm : Room} {as' : Array Value} {Q' : Option Value → Heap → List Loc → Prop}
    (M : own_Met l Z y yb yl yr rm as' h Q') {index : Nat} (w1 : (Jvm.Cond.methodLink cls index y).before a0 Z = true) (w2 : (Jvm.Cond.static y).before a0 Z = true) (w3 : (Jvm.Cond.initialized y.cls).before a0 Z = true) (w4 : (Jvm.Cond.code y yb yl yr).before a0 Z = true)
    (hy : y.cls ≠ "java/lang/invoke/MethodHandle" ∧ y.cls ≠ "java/lang/invoke/VarHandle") (argsL rest : List Value) {ps : List FieldType} {r : Option FieldType} (hpd : parseMethodDescriptor y.desc = some ⟨ps, r⟩) (hlen : argsL.length = ps.length) {pc : Nat} {Ls : Array Slot} {stk : List Value}
    (hstk : stk = argsL.reverse ++ rest) (has : argsL.toArray = as') (hsize : Ls.size = maxL) (hd : decode bytes pc = .ok (.invokestatic index, 3)) (hf : rm.frames + 1 ≤ R.frames) (hl : (rest.map fun v => v.category).sum + (yl + 11) + rm.locals ≤ R.locals) (hc : cells + rm.cells ≤ R.cells) (hs : slots + rm.slots ≤ R.slots)
    (k : ∀ (T' : State) (L : List Loc) (v : Option Value), Stand p l e R s m args below meth c T' (locs ++ L) (cells + rm.cells) (slots + rm.slots) → Q' v T'.heap L → own_Fin p e below P T' (mkF m (pc + 3) Ls (v.toList ++ rest))) :
    own_Fin p e below P T (mkF m pc Ls stk) := by
  obtain ⟨hx, hZ, hby, hml, hown, hret, hlk, hnm⟩ := K
  obtain ⟨v, _, ⟨T', L', k', n'⟩, -, X', ⟨L, hQ, l1, l2, l3⟩, st⟩ := Jvm.LawKit.callS X hx (y := y) hown (mvT hZ w1) (mvT hZ w2) (mvT hZ w3) (mvT hZ w4) hy (backOf (W := (rest.map fun v => v.category).sum) (M []) hZ w4 w3 hf hl) (g := mkF m pc Ls stk) rfl (hsize.trans hml.symm) (argsL := argsL) (rest := rest) (lenOf hpd hlen) hstk (by show 2 * 0 + _ ≤ _; omega) (hb hby hd) (fun _ _ => ⟨has, eT, hc, hs⟩)
  dsimp only [Pt.U, Pt.locs, Pt.cells, Pt.slots] at X' l1 l2 l3 st hQ
  subst l1 l2 l3
  exact own_seg st (k T' L v X' hQ)
theorem own_callI (K : own_Ctx p Z s m meth c cls bytes maxL ret nm) (X : Stand p l e R s m args below meth c T locs cells slots) (eT : T.heap = h) {y : MethodName} {yb : ByteArray} {yl : Nat} {rm : Room} {as' : Array Value} {Q' : Option Value → Heap → List Loc → Prop}
    (M : own_Met l Z y yb yl none rm as' h Q') (hy1 : y.name = "<init>") {index : Nat} (w1 : (Jvm.Cond.methodLink cls index y).before a0 Z = true) (w2 : (Jvm.Cond.instanceMethod y).before a0 Z = true) (w3 : (Jvm.Cond.initialized y.cls).before a0 Z = true) (w4 : (Jvm.Cond.code y yb yl none).before a0 Z = true)
    (hy : y.cls ≠ "java/lang/invoke/MethodHandle" ∧ y.cls ≠ "java/lang/invoke/VarHandle") (a : Addr) (argsL rest : List Value) {ps : List FieldType} {r : Option FieldType} (hpd : parseMethodDescriptor y.desc = some ⟨ps, r⟩) (hlen : argsL.length = ps.length) {pc : Nat} {Ls : Array Slot} {stk : List Value}
    (hstk : stk = argsL.reverse ++ .ref a :: rest) (has : (.ref a :: argsL).toArray = as') (hsize : Ls.size = maxL) (hd : decode bytes pc = .ok (.invokespecial index, 3)) (hf : rm.frames + 1 ≤ R.frames) (hl : (rest.map fun v => v.category).sum + (yl + 11) + rm.locals ≤ R.locals) (hc : cells + rm.cells ≤ R.cells) (hs : slots + rm.slots ≤ R.slots)
    (k : ∀ (T' : State) (L : List Loc) (v : Option Value), Stand p l e R s m args below meth c T' (locs ++ L) (cells + rm.cells) (slots + rm.slots) → Q' v T'.heap L → own_Fin p e below P T' (mkF m (pc + 3) Ls (v.toList ++ rest))) :
    own_Fin p e below P T (mkF m pc Ls stk) := by
  obtain ⟨hx, hZ, hby, hml, hown, hret, hlk, hnm⟩ := K
  obtain ⟨v, _, ⟨T', L', k', n'⟩, -, X', ⟨L, hQ, l1, l2, l3⟩, st⟩ := X.specialBack hx (y := y) hy1 hown (mvT hZ w1) (mvT hZ w2) (mvT hZ w4) hy (backOf (W := (rest.map fun v => v.category).sum) (M []) hZ w4 w3 hf hl) (g := mkF m pc Ls stk) rfl (hsize.trans hml.symm) (Steps.refl _) (a := a) (argsL := argsL) (rest := rest) (lenOf hpd hlen) hstk (by show 2 * 0 + _ ≤ _; omega) (hb hby hd) (fun _ _ => ⟨has, eT, hc, hs⟩)
  dsimp only [Pt.U, Pt.locs, Pt.cells, Pt.slots] at X' l1 l2 l3 st hQ
  subst l1 l2 l3
  exact own_seg (fun t q => st.trans q) (k T' L v X' hQ)
theorem own_callV (K : own_Ctx p Z s m meth c cls bytes maxL ret nm) (X : Stand p l e R s m args below meth c T locs cells slots) (eT : T.heap = h) {y z : MethodName} {yb : ByteArray} {yl : Nat} {yr : Option FieldType} {rm : Room} {as' : Array Value} {Q' : Option Value → Heap → List Loc → Prop}
    (M : own_Met l Z z yb yl yr rm as' h Q') {index : Nat} {C : String} (w1 : (Jvm.Cond.methodLink cls index y).before a0 Z = true) (w2 : (Jvm.Cond.declares y).before a0 Z = true) (nf : ∀ args, (Jvm.Cond.selects C y z).before args s = true → NotFace s y) (w5 : (Jvm.Cond.selects C y z).before a0 Z = true) (w6 : (Jvm.Cond.instanceMethod z).before a0 Z = true) (w3 : (Jvm.Cond.initialized z.cls).before a0 Z = true) (w4 : (Jvm.Cond.code z yb yl yr).before a0 Z = true)
    (hy : y.cls ≠ "java/lang/invoke/MethodHandle" ∧ y.cls ≠ "java/lang/invoke/VarHandle") (a : Addr) (E : Exa Z h a C) (argsL rest : List Value) {ps : List FieldType} {r : Option FieldType} (hpd : parseMethodDescriptor y.desc = some ⟨ps, r⟩) (hlen : argsL.length = ps.length) {pc : Nat} {Ls : Array Slot} {stk : List Value}
    (hstk : stk = argsL.reverse ++ .ref a :: rest) (has : (.ref a :: argsL).toArray = as') (hsize : Ls.size = maxL) (hd : decode bytes pc = .ok (.invokevirtual index, 3)) (hf : rm.frames + 1 ≤ R.frames) (hl : (rest.map fun v => v.category).sum + (yl + 11) + rm.locals ≤ R.locals) (hc : cells + rm.cells ≤ R.cells) (hs : slots + rm.slots ≤ R.slots)
    (k : ∀ (T' : State) (L : List Loc) (v : Option Value), Stand p l e R s m args below meth c T' (locs ++ L) (cells + rm.cells) (slots + rm.slots) → Q' v T'.heap L → own_Fin p e below P T' (mkF m (pc + 3) Ls (v.toList ++ rest))) :
    own_Fin p e below P T (mkF m pc Ls stk) := by
  obtain ⟨hx, hZ, hby, hml, hown, hret, hlk, hnm⟩ := K
  obtain ⟨cq, kq, qa, qb, qc⟩ := isOf hZ eT E
  obtain ⟨v, _, ⟨T', L', k', n'⟩, -, X', ⟨L, hQ, l1, l2, l3⟩, st⟩ := X.virtualBack hx (y := y) (z := z) hown (mvT hZ w1) (mvT hZ w2) (nf #[] (mvT hZ w5)) (mvT hZ w5) (mvT hZ w6) hy (backOf (W := (rest.map fun v => v.category).sum) (M []) hZ w4 w3 hf hl) qa qc (g := mkF m pc Ls stk) rfl (hsize.trans hml.symm) (Steps.refl _) (argsL := argsL) (rest := rest) (lenOf hpd hlen) hstk (by show 2 * 0 + _ ≤ _; omega) (hb hby hd) (fun _ _ => ⟨has, eT, hc, hs⟩)
  dsimp only [Pt.U, Pt.locs, Pt.cells, Pt.slots] at X' l1 l2 l3 st hQ
  subst l1 l2 l3
  exact own_seg (fun t q => st.trans q) (k T' L v X' hQ)
theorem own_callP (K : own_Ctx p Z s m meth c cls bytes maxL ret nm) (X : Stand p l e R s m args below meth c T locs cells slots) (eT : T.heap = h) {y : MethodName} {yb : ByteArray} {yl : Nat} {yr : Option FieldType} {rm : Room} {as' : Array Value} {Q' : Option Value → Heap → List Loc → Prop}
    (M : own_Met l Z y yb yl yr rm as' h Q') {index kk : Nat} (w1 : (Jvm.Cond.methodLink cls index y).before a0 Z = true) (w2 : (Jvm.Cond.instanceMethod y).before a0 Z = true) (w7 : (Jvm.Cond.instantiable y.cls kk).before a0 Z = true) (w6 : (Jvm.Cond.privateMethod y).before a0 Z = true) (w3 : (Jvm.Cond.initialized y.cls).before a0 Z = true) (w4 : (Jvm.Cond.code y yb yl yr).before a0 Z = true)
    (hy : y.cls ≠ "java/lang/invoke/MethodHandle" ∧ y.cls ≠ "java/lang/invoke/VarHandle") (a : Addr) (E : Exa Z h a y.cls) (argsL rest : List Value) {ps : List FieldType} {r : Option FieldType} (hpd : parseMethodDescriptor y.desc = some ⟨ps, r⟩) (hlen : argsL.length = ps.length) {pc : Nat} {Ls : Array Slot} {stk : List Value}
    (hstk : stk = argsL.reverse ++ .ref a :: rest) (has : (.ref a :: argsL).toArray = as') (hsize : Ls.size = maxL) (hd : decode bytes pc = .ok (.invokevirtual index, 3)) (hf : rm.frames + 1 ≤ R.frames) (hl : (rest.map fun v => v.category).sum + (yl + 11) + rm.locals ≤ R.locals) (hc : cells + rm.cells ≤ R.cells) (hs : slots + rm.slots ≤ R.slots)
    (k : ∀ (T' : State) (L : List Loc) (v : Option Value), Stand p l e R s m args below meth c T' (locs ++ L) (cells + rm.cells) (slots + rm.slots) → Q' v T'.heap L → own_Fin p e below P T' (mkF m (pc + 3) Ls (v.toList ++ rest))) :
    own_Fin p e below P T (mkF m pc Ls stk) := by
  obtain ⟨hx, hZ, hby, hml, hown, hret, hlk, hnm⟩ := K
  obtain ⟨cq, q1, q2⟩ := E.cell
  obtain ⟨v, _, ⟨T', L', k', n'⟩, -, X', ⟨L, hQ, l1, l2, l3⟩, st⟩ := X.privateBack hx (y := y) hown (mvT hZ w1) (mvT hZ w2) (Jvm.Kit.selects_private hy (mvT hZ w7) (mvP hZ w6) (mvT hZ w2)) (Cond.privateMethod_at (mvP hZ w6 (args := #[]))) (mvT hZ w4) hy (backOf (W := (rest.map fun v => v.category).sum) (M []) hZ w4 w3 hf hl) (g := mkF m pc Ls stk) rfl (hsize.trans hml.symm) (Steps.refl _) (a := a) (by rw [eT]; exact q1) q2 (argsL := argsL) (rest := rest) (lenOf hpd hlen) hstk (by show 2 * 0 + _ ≤ _; omega) (hb hby hd) (fun _ _ => ⟨has, eT, hc, hs⟩)
  dsimp only [Pt.U, Pt.locs, Pt.cells, Pt.slots] at X' l1 l2 l3 st hQ
  subst l1 l2 l3
  exact own_seg (fun t q => st.trans q) (k T' L v X' hQ)
theorem own_callF (K : own_Ctx p Z s m meth c cls bytes maxL ret nm) (X : Stand p l e R s m args below meth c T locs cells slots) (eT : T.heap = h) {xi y : MethodName} {yb : ByteArray} {yl : Nat} {yr : Option FieldType} {rm : Room} {as' : Array Value} {Q' : Option Value → Heap → List Loc → Prop}
    (M : own_Met l Z y yb yl yr rm as' h Q') {index count : Nat} {C : String} (w1 : (Jvm.Cond.methodLink cls index xi).before a0 Z = true) (w2 : (Jvm.Cond.declares xi).before a0 Z = true) (w8 : (Jvm.Cond.interfaceMethod xi.cls xi.cls xi.name xi.desc).before a0 Z = true) (w8f : ((Jvm.Cond.interfaceMethod xi.cls xi.cls xi.name xi.desc).onTables && (Jvm.Cond.interfaceMethod xi.cls xi.cls xi.name xi.desc).keepsFace) = true) (w5 : (Jvm.Cond.selects C xi y).before a0 Z = true) (w6 : (Jvm.Cond.instanceMethod y).before a0 Z = true) (w9 : (Jvm.Cond.publicMethod y).before a0 Z = true) (w10 : (Jvm.Cond.unhidden C xi.name xi.desc).before a0 Z = true) (w11 : (Jvm.Cond.castable C xi.cls).before a0 Z = true) (w3 : (Jvm.Cond.initialized y.cls).before a0 Z = true) (w4 : (Jvm.Cond.code y yb yl yr).before a0 Z = true)
    (hy : xi.cls ≠ "java/lang/invoke/MethodHandle" ∧ xi.cls ≠ "java/lang/invoke/VarHandle") (a : Addr) (E : Exa Z h a C) (argsL rest : List Value) {ps : List FieldType} {r : Option FieldType} (hpd : parseMethodDescriptor xi.desc = some ⟨ps, r⟩) (hlen : argsL.length = ps.length) {pc : Nat} {Ls : Array Slot} {stk : List Value}
    (hstk : stk = argsL.reverse ++ .ref a :: rest) (has : (.ref a :: argsL).toArray = as') (hsize : Ls.size = maxL) (hd : decode bytes pc = .ok (.invokeinterface index count, 5)) (hf : rm.frames + 1 ≤ R.frames) (hl : (rest.map fun v => v.category).sum + (yl + 11) + rm.locals ≤ R.locals) (hc : cells + rm.cells ≤ R.cells) (hs : slots + rm.slots ≤ R.slots)
    (k : ∀ (T' : State) (L : List Loc) (v : Option Value), Stand p l e R s m args below meth c T' (locs ++ L) (cells + rm.cells) (slots + rm.slots) → Q' v T'.heap L → own_Fin p e below P T' (mkF m (pc + 5) Ls (v.toList ++ rest))) :
    own_Fin p e below P T (mkF m pc Ls stk) := by
  obtain ⟨hx, hZ, hby, hml, hown, hret, hlk, hnm⟩ := K
  obtain ⟨cq, kq, qa, qb, qc⟩ := isOf hZ eT E
  obtain ⟨v, _, ⟨T', L', k', n'⟩, -, X', ⟨L, hQ, l1, l2, l3⟩, st⟩ := X.interfaceBack hx (xi := xi) (y := y) hown (mvT hZ w1) (mvT hZ w2) (mvT hZ w8 w8f) (mvT hZ w5) (mvT hZ w6) (mvT hZ w9) (mvT hZ w10) (mvT hZ w11) hy (backOf (W := (rest.map fun v => v.category).sum) (M []) hZ w4 w3 hf hl) qa qb qc (g := mkF m pc Ls stk) rfl (hsize.trans hml.symm) (Steps.refl _) (argsL := argsL) (rest := rest) (lenOf hpd hlen) hstk (by show 2 * 0 + _ ≤ _; omega) (hb hby hd) (fun _ _ => ⟨has, eT, hc, hs⟩)
  dsimp only [Pt.U, Pt.locs, Pt.cells, Pt.slots] at X' l1 l2 l3 st hQ
  subst l1 l2 l3
  exact own_seg (fun t q => st.trans q) (k T' L v X' hQ)
/-! fields, objects -/
theorem own_getF (K : own_Ctx p Z s m meth c cls bytes maxL ret nm) (X : Stand p l e R s m args below meth c T locs cells slots) (eT : T.heap = h) {index : Nat} {R0 O n d host : String} {a : Addr} {v : Value} (w : (Jvm.Cond.fieldLink cls index R0 n d).before a0 Z = true ∨ (Jvm.Cond.fieldLinkNest cls index R0 n d host).before a0 Z = true) (via : Via Z R0 O n d) (F : Fld Z h a O n d v)
    {pc : Nat} {Ls : Array Slot} {rest : List Value} (hd : decode bytes pc = .ok (.getfield index, 3)) (k : ∀ T', Stand p l e R s m args below meth c T' locs cells slots → T'.heap = h → own_Fin p e below P T' (mkF m (pc + 3) Ls (v :: rest))) : own_Fin p e below P T (mkF m pc Ls (.ref a :: rest)) := by
  obtain ⟨hx, hZ, hby, hml, hown, hret, hlk, hnm⟩ := K
  obtain ⟨T', X', e', st⟩ := getF X hx hZ hown w via eT F (g := mkF m pc Ls (.ref a :: rest)) rfl rfl (hb hby hd)
  exact own_seg st (k T' X' e')
theorem own_putF (K : own_Ctx p Z s m meth c cls bytes maxL ret nm) (X : Stand p l e R s m args below meth c T locs cells slots) (eT : T.heap = h) {index kk : Nat} {R0 O n d host C : String} {a : Addr} {v old : Value} {ty : FieldType} (w : (Jvm.Cond.fieldLink cls index R0 n d).before a0 Z = true ∨ (Jvm.Cond.fieldLinkNest cls index R0 n d host).before a0 Z = true) (via : Via Z R0 O n d) (F : Fld Z h a O n d old) (E : Exa Z h a C)
    (L : (Jvm.Cond.lays C O n d).before a0 Z = true ∨ ((Jvm.Cond.laysFinal C O n d).before a0 Z = true ∧ cls = O ∧ nm = "<init>")) (wi : (Jvm.Cond.instantiable C kk).before a0 Z = true) (hty : parseFieldDescriptor d = some ty) (hn : narrow ty v = v) (hf : fits ty v = true)
    {pc : Nat} {Ls : Array Slot} {rest : List Value} (hd : decode bytes pc = .ok (.putfield index, 3)) (k : ∀ T' h', Stand p l e R s m args below meth c T' (locs ++ [⟨a, Jvm.RoadKit.slotOf Z O n d⟩]) cells slots → T'.heap = h' → Wr h h' a (Jvm.RoadKit.slotOf Z O n d) v → own_Fin p e below P T' (mkF m (pc + 3) Ls rest)) : own_Fin p e below P T (mkF m pc Ls (v :: .ref a :: rest)) := by
  obtain ⟨hx, hZ, hby, hml, hown, hret, hlk, hnm⟩ := K
  obtain ⟨T', h', X', e', W, st⟩ := putF X hx hZ hown w via eT F E (L.imp id fun q => ⟨q.1, q.2.1, hnm.trans q.2.2⟩) wi hty hn hf (g := mkF m pc Ls (v :: .ref a :: rest)) rfl rfl (hb hby hd)
  exact own_seg st (k T' h' X' e' W)
theorem own_newO (K : own_Ctx p Z s m meth c cls bytes maxL ret nm) (X : Stand p l e R s m args below meth c T locs cells slots) (eT : T.heap = h) {C : String} {index n : Nat} (w : (Jvm.Cond.classLink cls index C).before a0 Z = true) (wi : (Jvm.Cond.instantiable C n).before a0 Z = true) (wz : (Jvm.Cond.initialized C).before a0 Z = true)
    {pc : Nat} {Ls : Array Slot} {stk : List Value} (hd : decode bytes pc = .ok (.new index, 3)) (hc : cells + 1 ≤ R.cells) (hl : slots + n ≤ R.slots)
    (k : ∀ T' h' a, a = h.size → Stand p l e R s m args below meth c T' locs (cells + 1) (slots + n) → T'.heap = h' → Ext h h' → Exa Z h' a C → (∀ {O nm d : String} {ty : FieldType}, Laid Z a0 C O nm d → parseFieldDescriptor d = some ty → Fld Z h' a O nm d (defaultValue ty)) → own_Fin p e below P T' (mkF m (pc + 3) Ls (.ref a :: stk))) : own_Fin p e below P T (mkF m pc Ls stk) := by
  obtain ⟨hx, hZ, hby, hml, hown, hret, hlk, hnm⟩ := K
  obtain ⟨T', h', X', e', E, A, D, -, st⟩ := newO X hx hZ hown w wi wz eT (g := mkF m pc Ls stk) rfl (hb hby hd) hc hl
  exact own_seg st (k T' h' _ rfl X' e' E A D)
theorem own_initO (K : own_Ctx p Z s m meth c cls bytes maxL ret nm) (X : Stand p l e R s m args below meth c T locs cells slots) (eT : T.heap = h) {index : Nat} (w1 : (Jvm.Cond.methodLink cls index Lib.objectInit).before a0 Z = true) (w2 : (Jvm.Cond.instanceMethod Lib.objectInit).before a0 Z = true) (w3 : (Jvm.Cond.code Lib.objectInit ⟨#[0xb1]⟩ 1 none).before a0 Z = true)
    {pc : Nat} {Ls : Array Slot} {a : Addr} {rest : List Value} (hsize : Ls.size = maxL) (hd : decode bytes pc = .ok (.invokespecial index, 3)) (hf : 1 ≤ R.frames) (hl : (rest.map fun v => v.category).sum + 12 ≤ R.locals)
    (k : ∀ T', Stand p l e R s m args below meth c T' locs cells slots → T'.heap = h → own_Fin p e below P T' (mkF m (pc + 3) Ls rest)) : own_Fin p e below P T (mkF m pc Ls (.ref a :: rest)) := by
  obtain ⟨hx, hZ, hby, hml, hown, hret, hlk, hnm⟩ := K
  obtain ⟨T', X', e', st⟩ := initO X hx hZ hown w1 w2 w3 eT (g := mkF m pc Ls (.ref a :: rest)) rfl (hsize.trans hml.symm) rfl (hb hby hd) hf (W := (rest.map fun v => v.category).sum) (by show 2 * 0 + _ ≤ _; omega) hl
  exact own_seg st (k T' X' e')
theorem own_getS (K : own_Ctx p Z s m meth c cls bytes maxL ret nm) (X : Stand p l e R s m args below meth c T locs cells slots) (eT : T.heap = h) {index : Nat} {R0 O n d host : String} {v : Value} (w : (Jvm.Cond.fieldLink cls index R0 n d).before a0 Z = true ∨ (Jvm.Cond.fieldLinkNest cls index R0 n d host).before a0 Z = true) (via : Via Z R0 O n d) (F : Sta Z h O n d v)
    {pc : Nat} {Ls : Array Slot} {stk : List Value} (hd : decode bytes pc = .ok (.getstatic index, 3)) (k : ∀ T', Stand p l e R s m args below meth c T' locs cells slots → T'.heap = h → own_Fin p e below P T' (mkF m (pc + 3) Ls (v :: stk))) : own_Fin p e below P T (mkF m pc Ls stk) := by
  obtain ⟨hx, hZ, hby, hml, hown, hret, hlk, hnm⟩ := K
  obtain ⟨T', X', e', st⟩ := getS2 X hx hZ hown w via eT F (g := mkF m pc Ls stk) rfl (hb hby hd)
  exact own_seg st (k T' X' e')
end Own
/-! ## what an object's fields hold, all at once -/
def own_Obj (Z : State) (h : Heap) (a : Addr) (C : String) (fs : List (String × String × String × Value)) : Prop := Exa Z h a C ∧ ∀ q ∈ fs, Fld Z h a q.1 q.2.1 q.2.2.1 q.2.2.2
def own_Lay (Z : State) (a0 : Array Value) (C : String) (fs : List (String × String × String)) : Prop := ∀ q ∈ fs, Laid Z a0 C q.1 q.2.1 q.2.2 ∧ ∃ t, parseFieldDescriptor q.2.2 = some t
section Obj
variable {Z : State} {a0 : Array Value} {h h' : Heap} {a b : Addr} {C : String} {fs : List (String × String × String × Value)} {ws : List Addr} {sl : Nat} {v : Value}
theorem own_Obj.exa (O : own_Obj Z h a C fs) : Exa Z h a C := O.1
theorem own_Obj.lt (O : own_Obj Z h a C fs) : a < h.size := O.1.lt
theorem own_Obj.get (O : own_Obj Z h a C fs) (i : Nat) {q : String × String × String × Value} (hi : fs[i]? = some q) : Fld Z h a q.1 q.2.1 q.2.2.1 q.2.2.2 := O.2 q (List.mem_of_getElem? hi)
theorem own_Obj.ext (O : own_Obj Z h a C fs) (E : Ext h h') : own_Obj Z h' a C fs := ⟨O.1.ext E, fun q hq => (O.2 q hq).ext E⟩
theorem own_Obj.keep (O : own_Obj Z h a C fs) (K : Keep h h' ws) (n : a ∉ ws) : own_Obj Z h' a C fs := ⟨O.1.keep K, fun q hq => (O.2 q hq).keep K n⟩
theorem own_Obj.other (O : own_Obj Z h b C fs) (W : Wr h h' a sl v) (n : b ≠ a) : own_Obj Z h' b C fs := ⟨O.1.wr W, fun q hq => (O.2 q hq).other W (Or.inl n)⟩
theorem own_Obj.put (O : own_Obj Z h a C fs) {ls : List (String × String × String)} (Y : own_Lay Z a0 C ls) (hls : fs.map (fun q => (q.1, q.2.1, q.2.2.1)) = ls) (hnd : (ls.map (fun q => q.2.1)).Nodup) (i : Nat) {O' n d : String} {old : Value} (hi : fs[i]? = some (O', n, d, old)) (W : Wr h h' a (Jvm.RoadKit.slotOf Z O' n d) v) : own_Obj Z h' a C (fs.set i (O', n, d, v)) := by
  subst hls
  refine ⟨O.1.wr W, fun q hq => ?_⟩
  obtain ⟨j, hj⟩ := List.mem_iff_getElem?.mp hq
  by_cases e : i = j
  · subst e
    have hlt : i < fs.length := (List.getElem?_eq_some_iff.mp hi).1
    rw [List.getElem?_set_self hlt] at hj
    cases hj
    exact (O.get i hi).same W
  · rw [List.getElem?_set_ne e] at hj
    refine (O.get j hj).other W (Or.inr ?_)
    obtain ⟨L1, t1, p1⟩ := Y (q.1, q.2.1, q.2.2.1) (List.mem_map.mpr ⟨q, List.mem_of_getElem? hj, rfl⟩)
    obtain ⟨L2, t2, p2⟩ := Y (O', n, d) (List.mem_map.mpr ⟨(O', n, d, old), List.mem_of_getElem? hi, rfl⟩)
    refine slot_ne L1 L2 ?_ p1 p2
    intro en
    apply e
    rw [List.map_map] at hnd
    have k1 : (fs.map ((fun q : String × String × String => q.2.1) ∘ fun q : String × String × String × Value => (q.1, q.2.1, q.2.2.1)))[i]? = some n := by rw [List.getElem?_map, hi]; rfl
    have k2 : (fs.map ((fun q : String × String × String => q.2.1) ∘ fun q : String × String × String × Value => (q.1, q.2.1, q.2.2.1)))[j]? = some n := by rw [List.getElem?_map, hj, ← en]; rfl
    exact (List.getElem?_inj (List.getElem?_eq_some_iff.mp k1).1 hnd).mp (k1.trans k2.symm)
end Obj
/-! ## an array by the list of all that it holds -/
def own_Arr (Z : State) (h : Heap) (a : Addr) (ty : FieldType) (vs : List Value) : Prop := ∃ cl : Cell, Arr Z h a cl ty ∧ cl.slots.toList = vs
section Arrs
variable {p : Program} {l : Launch} {e : Env} {R : Room} {s : State} {m : MethodId} {args : Array Value} {below : List Frame} {meth : Method} {c : Code} {T : State} {locs : List Loc} {cells slots : Nat} {Z : State} {a0 : Array Value} {h h' : Heap}
  {P : Outcome → State → Prop} {cls : String} {bytes : ByteArray} {maxL : Nat} {ret : Option FieldType} {nm : String} {a b : Addr} {ty : FieldType} {vs : List Value} {ws : List Addr} {sl : Nat} {v : Value}
theorem own_Arr.lt (A : own_Arr Z h a ty vs) : a < h.size := by obtain ⟨cl, A, -⟩ := A; exact A.lt
theorem own_Arr.ext (A : own_Arr Z h a ty vs) (E : Ext h h') : own_Arr Z h' a ty vs := by obtain ⟨cl, A, q⟩ := A; exact ⟨cl, A.ext E, q⟩
theorem own_Arr.other (A : own_Arr Z h b ty vs) (W : Wr h h' a sl v) (n : b ≠ a) : own_Arr Z h' b ty vs := by obtain ⟨cl, A, q⟩ := A; exact ⟨cl, A.other W n, q⟩
theorem own_Arr.keep (A : own_Arr Z h a ty vs) (K : Keep h h' ws) (n : a ∉ ws) : own_Arr Z h' a ty vs := by obtain ⟨cl, A, q⟩ := A; exact ⟨cl, ⟨K.2.1 a cl A.1 n, A.2⟩, q⟩
theorem own_Arr.set (A : own_Arr Z h a ty vs) (W : Wr h h' a sl v) : own_Arr Z h' a ty (vs.set sl v) := by
  obtain ⟨cl, A, q⟩ := A
  exact ⟨_, A.same W, by simp [Cell.setSlot, q]⟩
theorem own_Arr.new {cA : ClassId} {n : Int32} (A : Arr Z h a (newA cA ty n) ty) : own_Arr Z h a ty (List.replicate n.toNatClampNeg (defaultValue ty)) := ⟨_, A, by simp [newA]⟩
theorem own_at {cl : Cell} (q : cl.slots.toList = vs) {i : Nat} (hv : vs[i]? = some v) : cl.slots[i]? = some v := by rw [← hv, ← q, Array.getElem?_toList]
theorem own_in {cl : Cell} (q : cl.slots.toList = vs) {j : Int32} (hj : ¬ j < 0) (hv : vs[j.toNatClampNeg]? = some v) : ¬ (j < 0 ∨ cl.slots.size ≤ j.toNatClampNeg) := by
  rintro (r | r)
  · exact hj r
  · have := (Array.getElem?_eq_some_iff.mp (own_at q hv)).1; omega
theorem own_iaload (K : own_Ctx p Z s m meth c cls bytes maxL ret nm) (X : Stand p l e R s m args below meth c T locs cells slots) (eT : T.heap = h) (A : own_Arr Z h a .int vs) {j : Int32} (hj : ¬ j < 0) (hv : vs[j.toNatClampNeg]? = some v)
    {pc : Nat} {Ls : Array Slot} {rest : List Value} (hd : decode bytes pc = .ok (.iaload, 1)) (k : own_Fin p e below P T (mkF m (pc + 1) Ls (v :: rest))) : own_Fin p e below P T (mkF m pc Ls (.int j :: .ref a :: rest)) := by
  obtain ⟨hx, hZ, hby, -⟩ := K
  obtain ⟨cl, A, q⟩ := A
  exact own_seg (fun t u => X.iaload hx (j := j) (v := v) (by rw [eT]; exact A.1) (State.isArrayOf_alike hZ.alike A.2.1) A.2.2 (own_in q hj hv) (own_at q hv) (g := mkF m pc Ls (.int j :: .ref a :: rest)) rfl rfl (hb hby hd) t u) k
theorem own_laload (K : own_Ctx p Z s m meth c cls bytes maxL ret nm) (X : Stand p l e R s m args below meth c T locs cells slots) (eT : T.heap = h) (A : own_Arr Z h a .long vs) {j : Int32} (hj : ¬ j < 0) (hv : vs[j.toNatClampNeg]? = some v)
    {pc : Nat} {Ls : Array Slot} {rest : List Value} (hd : decode bytes pc = .ok (.laload, 1)) (k : own_Fin p e below P T (mkF m (pc + 1) Ls (v :: rest))) : own_Fin p e below P T (mkF m pc Ls (.int j :: .ref a :: rest)) := by
  obtain ⟨hx, hZ, hby, -⟩ := K
  obtain ⟨cl, A, q⟩ := A
  exact own_seg (fun t u => X.laload hx (j := j) (v := v) (by rw [eT]; exact A.1) (State.isArrayOf_alike hZ.alike A.2.1) A.2.2 (own_in q hj hv) (own_at q hv) (g := mkF m pc Ls (.int j :: .ref a :: rest)) rfl rfl (hb hby hd) t u) k
theorem own_alen (K : own_Ctx p Z s m meth c cls bytes maxL ret nm) (X : Stand p l e R s m args below meth c T locs cells slots) (eT : T.heap = h) (A : own_Arr Z h a ty vs) {n : Int32} (hn : vs.length.toInt32 = n)
    {pc : Nat} {Ls : Array Slot} {rest : List Value} (hd : decode bytes pc = .ok (.arraylength, 1)) (k : own_Fin p e below P T (mkF m (pc + 1) Ls (.int n :: rest))) : own_Fin p e below P T (mkF m pc Ls (.ref a :: rest)) := by
  obtain ⟨hx, hZ, hby, -⟩ := K
  obtain ⟨cl, A, q⟩ := A
  subst q hn
  rw [Array.length_toList] at k
  exact own_seg (fun t u => X.arraylength hx (by rw [eT]; exact A.1) (State.isArrayOf_alike hZ.alike A.2.1) (g := mkF m pc Ls (.ref a :: rest)) rfl rfl (hb hby hd) t u) k
theorem own_iastore (K : own_Ctx p Z s m meth c cls bytes maxL ret nm) (X : Stand p l e R s m args below meth c T locs cells slots) (eT : T.heap = h) (A : own_Arr Z h a .int vs) {j x : Int32} (hj : ¬ j < 0) (hv : j.toNatClampNeg < vs.length)
    {pc : Nat} {Ls : Array Slot} {rest : List Value} (hd : decode bytes pc = .ok (.iastore, 1)) (k : ∀ T' h', Stand p l e R s m args below meth c T' (locs ++ [⟨a, j.toNatClampNeg⟩]) cells slots → T'.heap = h' → Wr h h' a j.toNatClampNeg (.int x) → own_Fin p e below P T' (mkF m (pc + 1) Ls rest)) : own_Fin p e below P T (mkF m pc Ls (.int x :: .int j :: .ref a :: rest)) := by
  obtain ⟨hx, hZ, hby, -⟩ := K
  obtain ⟨cl, A, q⟩ := A
  obtain ⟨T', h', X', e', W, st⟩ := stI X hx hZ eT A (j := j) (x := x) (own_in q hj (List.getElem?_eq_getElem hv)) (g := mkF m pc Ls (.int x :: .int j :: .ref a :: rest)) rfl rfl (hb hby hd)
  exact own_seg st (k T' h' X' e' W)
theorem own_lastore (K : own_Ctx p Z s m meth c cls bytes maxL ret nm) (X : Stand p l e R s m args below meth c T locs cells slots) (eT : T.heap = h) (A : own_Arr Z h a .long vs) {j : Int32} {x : Int64} (hj : ¬ j < 0) (hv : j.toNatClampNeg < vs.length)
    {pc : Nat} {Ls : Array Slot} {rest : List Value} (hd : decode bytes pc = .ok (.lastore, 1)) (k : ∀ T' h', Stand p l e R s m args below meth c T' (locs ++ [⟨a, j.toNatClampNeg⟩]) cells slots → T'.heap = h' → Wr h h' a j.toNatClampNeg (.long x) → own_Fin p e below P T' (mkF m (pc + 1) Ls rest)) : own_Fin p e below P T (mkF m pc Ls (.long x :: .int j :: .ref a :: rest)) := by
  obtain ⟨hx, hZ, hby, -⟩ := K
  obtain ⟨cl, A, q⟩ := A
  obtain ⟨T', h', X', e', W, st⟩ := stJ X hx hZ eT A (j := j) (x := x) (own_in q hj (List.getElem?_eq_getElem hv)) (g := mkF m pc Ls (.long x :: .int j :: .ref a :: rest)) rfl rfl (hb hby hd)
  exact own_seg st (k T' h' X' e' W)
theorem own_newP (K : own_Ctx p Z s m meth c cls bytes maxL ret nm) (X : Stand p l e R s m args below meth c T locs cells slots) (eT : T.heap = h) {aty : ArrayType} (w : (Jvm.Cond.arrayClass (newarray.typeOf aty)).before a0 Z = true) {n : Int32} (hn : ¬ n < 0) (cap : Nat) (hcap : n.toNatClampNeg ≤ cap) (hcb : cap * 8 ≤ 536870912)
    {pc : Nat} {Ls : Array Slot} {rest : List Value} (hd : decode bytes pc = .ok (.newarray aty, 2)) (hc : cells + 1 ≤ R.cells) (hl : slots + cap ≤ R.slots)
    (k : ∀ T' h' a, a = h.size → Stand p l e R s m args below meth c T' locs (cells + 1) (slots + cap) → T'.heap = h' → Ext h h' → own_Arr Z h' a (newarray.typeOf aty) (List.replicate n.toNatClampNeg (defaultValue (newarray.typeOf aty))) → own_Fin p e below P T' (mkF m (pc + 2) Ls (.ref a :: rest))) : own_Fin p e below P T (mkF m pc Ls (.int n :: rest)) := by
  obtain ⟨hx, hZ, hby, -⟩ := K
  obtain ⟨T', h', cA, X', e', E, A, st⟩ := newP X hx hZ w eT (g := mkF m pc Ls (.int n :: rest)) rfl (hb hby hd) rfl hn hcap hcb hc hl
  exact own_seg st (k T' h' _ rfl X' e' E (own_Arr.new A))
end Arrs
/-! ## an array of references, of which only the class and the length are told; a list of ints by a function -/
def own_RArr (Z : State) (h : Heap) (a : Addr) (C : String) (n : Nat) : Prop := ∃ cl : Cell, Arr Z h a cl (.object C) ∧ cl.slots.size = n ∧ Ovr Z cl.cls C
section RArrs
variable {p : Program} {l : Launch} {e : Env} {R : Room} {s : State} {m : MethodId} {args : Array Value} {below : List Frame} {meth : Method} {c : Code} {T : State} {locs : List Loc} {cells slots : Nat} {Z : State} {a0 : Array Value} {h h' : Heap}
  {P : Outcome → State → Prop} {cls : String} {bytes : ByteArray} {maxL : Nat} {ret : Option FieldType} {nm : String} {a b : Addr} {C : String} {n : Nat} {ws : List Addr} {sl : Nat} {v : Value}
theorem own_RArr.lt (A : own_RArr Z h a C n) : a < h.size := by obtain ⟨cl, A, -⟩ := A; exact A.lt
theorem own_RArr.ext (A : own_RArr Z h a C n) (E : Ext h h') : own_RArr Z h' a C n := by obtain ⟨cl, A, q⟩ := A; exact ⟨cl, A.ext E, q⟩
theorem own_RArr.other (A : own_RArr Z h b C n) (W : Wr h h' a sl v) (q : b ≠ a) : own_RArr Z h' b C n := by obtain ⟨cl, A, r⟩ := A; exact ⟨cl, A.other W q, r⟩
theorem own_RArr.keep (A : own_RArr Z h a C n) (K : Keep h h' ws) (q : a ∉ ws) : own_RArr Z h' a C n := by obtain ⟨cl, A, r⟩ := A; exact ⟨cl, ⟨K.2.1 a cl A.1 q, A.2⟩, r⟩
theorem own_RArr.set (A : own_RArr Z h a C n) (W : Wr h h' a sl v) : own_RArr Z h' a C n := by obtain ⟨cl, A, r1, r2⟩ := A; exact ⟨_, A.same W, by rw [sz_set]; exact r1, r2⟩
theorem own_aastore (K : own_Ctx p Z s m meth c cls bytes maxL ret nm) (X : Stand p l e R s m args below meth c T locs cells slots) (eT : T.heap = h) (A : own_RArr Z h a C n) {j : Int32} (hj : ¬ j < 0) (hv : j.toNatClampNeg < n) (F : v = .null ∨ ∃ y, v = .ref y ∧ Ins Z h y C true)
    {pc : Nat} {Ls : Array Slot} {rest : List Value} (hd : decode bytes pc = .ok (.aastore, 1)) (k : ∀ T' h', Stand p l e R s m args below meth c T' (locs ++ [⟨a, j.toNatClampNeg⟩]) cells slots → T'.heap = h' → Wr h h' a j.toNatClampNeg v → own_Fin p e below P T' (mkF m (pc + 1) Ls rest)) : own_Fin p e below P T (mkF m pc Ls (v :: .int j :: .ref a :: rest)) := by
  obtain ⟨hx, hZ, hby, -⟩ := K
  obtain ⟨cl, A, r1, r2⟩ := A
  have S : Sto Z h a v := by
    rcases F with rfl | ⟨y, rfl, I⟩
    · exact Or.inl rfl
    · exact Sto.of A r2 I
  obtain ⟨T', h', X', e', W, st⟩ := stR X hx hZ eT A (j := j) (v := v) (fun q => q.elim hj (fun q => by omega)) rfl S (g := mkF m pc Ls (v :: .int j :: .ref a :: rest)) rfl rfl (hb hby hd)
  exact own_seg st (k T' h' X' e' W)
theorem own_newR (K : own_Ctx p Z s m meth c cls bytes maxL ret nm) (X : Stand p l e R s m args below meth c T locs cells slots) (eT : T.heap = h) {index : Nat} (w1 : (Jvm.Cond.classLink cls index C).before a0 Z = true) (w2 : (Jvm.Cond.arrayOver (.object C)).before a0 Z = true) {z : Int32} (hn : ¬ z < 0) (cap : Nat) (hcap : z.toNatClampNeg = cap) (hcb : cap * 8 ≤ 536870912)
    {pc : Nat} {Ls : Array Slot} {rest : List Value} (hd : decode bytes pc = .ok (.anewarray index, 3)) (hc : cells + 1 ≤ R.cells) (hl : slots + cap ≤ R.slots)
    (k : ∀ T' h' a, a = h.size → Stand p l e R s m args below meth c T' locs (cells + 1) (slots + cap) → T'.heap = h' → Ext h h' → own_RArr Z h' a C cap → own_Fin p e below P T' (mkF m (pc + 3) Ls (.ref a :: rest))) : own_Fin p e below P T (mkF m pc Ls (.int z :: rest)) := by
  obtain ⟨hx, hZ, hby, hml, hown, -⟩ := K
  obtain ⟨T', h', cA, X', e', E, A, O, st⟩ := newR X hx hZ hown w1 w2 eT (g := mkF m pc Ls (.int z :: rest)) rfl (hb hby hd) rfl hn (Nat.le_of_eq hcap) hcb hc hl
  exact own_seg st (k T' h' _ rfl X' e' E ⟨_, A, by rw [sz_new]; exact hcap, O⟩)
end RArrs
def own_L (n : Nat) (f : Nat → Int32) : List Value := (List.range n).map fun i => Value.int (f i)
theorem own_L_len (n : Nat) (f : Nat → Int32) : (own_L n f).length = n := by simp [own_L]
theorem own_L_at {n : Nat} {f : Nat → Int32} {i : Nat} (h : i < n) : (own_L n f)[i]? = some (.int (f i)) := by simp [own_L, h]
theorem own_L_set {n : Nat} {f : Nat → Int32} {i : Nat} {v : Int32} (h : i < n) : (own_L n f).set i (.int v) = own_L n (fun j => if j = i then v else f j) := by
  apply List.ext_getElem?
  intro j
  by_cases e : i = j
  · subst e
    rw [List.getElem?_set_self (by rw [own_L_len]; exact h), own_L_at h, if_pos rfl]
  · rw [List.getElem?_set_ne e]
    by_cases q : j < n
    · rw [own_L_at q, own_L_at q, if_neg (Ne.symm e)]
    · rw [List.getElem?_eq_none (by rw [own_L_len]; omega), List.getElem?_eq_none (by rw [own_L_len]; omega)]
theorem own_L_rep (n : Nat) : List.replicate n (Value.int 0) = own_L n (fun _ => 0) := by
  apply List.ext_getElem?
  intro j
  by_cases q : j < n
  · rw [own_L_at q, List.getElem?_replicate, if_pos q]
  · rw [List.getElem?_replicate, if_neg q, List.getElem?_eq_none (by rw [own_L_len]; omega)]
theorem own_mask31 (x : Int32) : ¬ (x &&& (2147483647 : Int32)) < 0 := by
  have e := Jvm.Kit.i32_mask x 2147483647 (k := 31) (by decide) (by decide)
  have e0 : (0 : Int32).toInt = 0 := by decide
  rw [Int32.lt_iff_toInt_lt, e, e0]; omega
theorem own_mask11 (x : Int32) : ¬ (x &&& (2047 : Int32)) < 0 := by
  have e := Jvm.Kit.i32_mask x 2047 (k := 11) (by decide) (by decide)
  have e0 : (0 : Int32).toInt = 0 := by decide
  rw [Int32.lt_iff_toInt_lt, e, e0]; omega
theorem own_mask16 (x : Int32) : ¬ (x &&& (65535 : Int32)) < 0 := by
  have e := Jvm.Kit.i32_mask x 65535 (k := 16) (by decide) (by decide)
  have e0 : (0 : Int32).toInt = 0 := by decide
  rw [Int32.lt_iff_toInt_lt, e, e0]; omega
theorem own_mask4 (x : Int32) : ¬ ((46332 : Int32) + (x &&& (15 : Int32))) < 0 := by
  have e := Jvm.Kit.i32_mask x 15 (k := 4) (by decide) (by decide)
  have e0 : (0 : Int32).toInt = 0 := by decide
  have e1 : (46332 : Int32).toInt = 46332 := by decide
  have e2 : ((46332 : Int32) + (x &&& (15 : Int32))).toInt = (46332 : Int32).toInt + (x &&& (15 : Int32)).toInt := Jvm.Kit.i32_add (by omega) (by omega)
  rw [Int32.lt_iff_toInt_lt, e2, e, e0]; omega
theorem own_mask63 (x : Int64) : ¬ (x &&& (9223372036854775807 : Int64)) < 0 := by
  have e := Jvm.Kit.i64_mask x 9223372036854775807 (k := 63) (by decide) (by decide)
  have e0 : (0 : Int64).toInt = 0 := by decide
  rw [Int64.lt_iff_toInt_lt, e, e0]; omega
/-- c as a long, squared -/
theorem own_sq {c : Int32} (h0 : ¬ c < 0) : 0 ≤ c.toInt ∧ c.toInt < 2 ^ 31 ∧ (c.toInt64 * c.toInt64).toInt = c.toInt * c.toInt := by
  have e0 : (0 : Int32).toInt = 0 := by decide
  rw [Int32.lt_iff_toInt_lt, e0] at h0
  have h1 := c.toInt_lt
  have a : 0 ≤ c.toInt := by omega
  have b : c.toInt * c.toInt ≤ (2 ^ 31 - 1) * (2 ^ 31 - 1) := Int.mul_le_mul (by omega) (by omega) a (by omega)
  have d : 0 ≤ c.toInt * c.toInt := Int.mul_nonneg a a
  refine ⟨a, by omega, ?_⟩
  rw [Jvm.Kit.i64_mul (by rw [Jvm.Kit.i64_of_i32]; omega) (by rw [Jvm.Kit.i64_of_i32]; omega), Jvm.Kit.i64_of_i32]
theorem own_ent {c : Int32} (h0 : ¬ c < 0) : (2147483639 : Int64) < (c.toInt64 * c.toInt64) ↔ (46340 : Int32) < c := by
  obtain ⟨a, b, e⟩ := own_sq h0
  have e1 : (2147483639 : Int64).toInt = 2147483639 := by decide
  have e2 : (46340 : Int32).toInt = 46340 := by decide
  rw [Int64.lt_iff_toInt_lt, Int32.lt_iff_toInt_lt, e, e1, e2]
  constructor
  · intro q
    refine Int.lt_of_not_ge fun r => ?_
    have : c.toInt * c.toInt ≤ 46340 * 46340 := Int.mul_le_mul r r a (by omega)
    omega
  · intro q
    have : 46341 * 46341 ≤ c.toInt * c.toInt := Int.mul_le_mul (by omega) (by omega) (by omega) a
    omega
theorem own_heap {c : Int32} {h : Int64} (h0 : ¬ c < 0) (hh : ¬ h < 0) (hc : ¬ (46340 : Int32) < c) : (h / (4 : Int64)) < ((c.toInt64 * c.toInt64) * (8 : Int64)) ↔ h < (((32 : Int64) * c.toInt64) * c.toInt64) := by
  obtain ⟨a, b, e⟩ := own_sq h0
  have e2 : (46340 : Int32).toInt = 46340 := by decide
  have e3 : (0 : Int64).toInt = 0 := by decide
  have e4 : (4 : Int64).toInt = 4 := by decide
  have e5 : (8 : Int64).toInt = 8 := by decide
  have e6 : (32 : Int64).toInt = 32 := by decide
  have e7 := Jvm.Kit.i64_of_i32 c
  rw [Int32.lt_iff_toInt_lt, e2] at hc
  rw [Int64.lt_iff_toInt_lt, e3] at hh
  have d1 : 0 ≤ c.toInt * c.toInt := Int.mul_nonneg a a
  have d2 : c.toInt * c.toInt ≤ 46340 * 46340 := Int.mul_le_mul (by omega) (by omega) a (by omega)
  have f1 : ((c.toInt64 * c.toInt64) * (8 : Int64)).toInt = c.toInt * c.toInt * 8 := by
    rw [Jvm.Kit.i64_mul (by rw [e, e5]; omega) (by rw [e, e5]; omega), e, e5]
  have f2 : ((32 : Int64) * c.toInt64).toInt = 32 * c.toInt := by
    rw [Jvm.Kit.i64_mul (by rw [e7, e6]; omega) (by rw [e7, e6]; omega), e7, e6]
  have f4 : 32 * c.toInt * c.toInt = 32 * (c.toInt * c.toInt) := Int.mul_assoc _ _ _
  have f3 : (((32 : Int64) * c.toInt64) * c.toInt64).toInt = 32 * (c.toInt * c.toInt) := by
    rw [Jvm.Kit.i64_mul (by rw [f2, e7, f4]; omega) (by rw [f2, e7, f4]; omega), f2, e7, f4]
  have f5 : (h / (4 : Int64)).toInt = h.toInt / 4 := by
    rw [Jvm.Kit.i64_div (by rw [e4]; omega), e4, Int.tdiv_eq_ediv_of_nonneg (by omega)]
  rw [Int64.lt_iff_toInt_lt, Int64.lt_iff_toInt_lt, f1, f3, f5]
  omega
def own_keep (c b : Int32) (h : Int64) : Int32 := if b = 0 ∧ (1024 : Int32) < c then 0 else if (46340 : Int32) < c then 0 else if h < (((32 : Int64) * c.toInt64) * c.toInt64) then 0 else 1
def own_min (a b : Int32) : Int32 := if b < a then b else a
def own_max (a b : Int64) : Int64 := if a < b then b else a
theorem d1_0 : decode jdk_29_method_69_code 0 = .ok (.iload_n 0, 1) := by decide +kernel
theorem d1_1 : decode jdk_29_method_69_code 1 = .ok (.iload_n 1, 1) := by decide +kernel
theorem d1_2 : decode jdk_29_method_69_code 2 = .ok (.if_icmp .gt 7, 3) := by decide +kernel
theorem d1_9 : decode jdk_29_method_69_code 9 = .ok (.iload_n 1, 1) := by decide +kernel
theorem d1_10 : decode jdk_29_method_69_code 10 = .ok (.ireturn, 1) := by decide +kernel
theorem d1_5 : decode jdk_29_method_69_code 5 = .ok (.iload_n 0, 1) := by decide +kernel
theorem d1_6 : decode jdk_29_method_69_code 6 = .ok (.goto 4, 3) := by decide +kernel
set_option maxRecDepth 65536 in
set_option maxHeartbeats 40000000 in
theorem rm1 (l : Launch) (Z : State) (a0 : Array Value) (hw : ∀ d ∈ tables_1, d.before a0 Z = true) (p1 p2 : Int32) (h0 : Heap) (n0 : Nat) (Z0 : n0 ≤ h0.size)  :
    own_Met l Z (⟨"java/lang/Math", "min", "(II)I"⟩ : MethodName) jdk_29_method_69_code 2 (some .int) ({ frames := 0, cells := 0, slots := 0, locals := 0 } : Room) #[(.int p1), (.int p2)] h0 (own_QI (own_min p1 p2) h0 n0) := by
  refine own_enter (Jvm.Free.JP.mathPlain rfl (by decide +kernel)) (fun m => by first | rfl | (simp [entryFrame, mkF, argsToLocals, Value.category, maxLocals]; done)) (Ls := #[.val (.int p1), .val (.int p2)]) ?_
  intro p e s m below meth c T0 K X0 e0
  have hx := K.1
  have hZ := K.2.1
  have hby := K.2.2.1
  have hown := K.2.2.2.2.1
  have N0 := Fr.nil n0
  show own_Fin p e below _ T0 (mkF m 0 #[.val (.int p1), .val (.int p2)] [])
  refine own_seg (T' := T0) (g' := (mkF m 2 #[.val (.int p1), .val (.int p2)] [(.int p2), (.int p1)])) (fun tg kt => ?_) ?_
  · show Steps p.tables e below (T0.setTop (mkF m 0 #[.val (.int p1), .val (.int p2)] [])) tg
    refine XS.iloadN X0.here hx rfl (hb hby d1_0) rfl ?_
    show Steps p.tables e below (T0.setTop (mkF m 1 #[.val (.int p1), .val (.int p2)] [(.int p1)])) tg
    refine XS.iloadN X0.here hx rfl (hb hby d1_1) rfl ?_
    exact kt
  by_cases hc2 : p2 < p1
  · skip
    refine own_seg (T' := T0) (g' := (mkF m 9 #[.val (.int p1), .val (.int p2)] [])) (fun tg kt => XS.icmpYes X0.here hx rfl (pc0 := 2) (pc' := 9) rfl (hb hby d1_2) rfl (tlt hc2).2.2.1 (by decide) (by decide) kt) ?_
    refine own_seg (T' := T0) (g' := (mkF m 10 #[.val (.int p1), .val (.int p2)] [(.int p2)])) (fun tg kt => ?_) ?_
    · show Steps p.tables e below (T0.setTop (mkF m 9 #[.val (.int p1), .val (.int p2)] [])) tg
      refine XS.iloadN X0.here hx rfl (hb hby d1_9) rfl ?_
      exact kt
    exact own_retI K X0 d1_10 (⟨by rw [own_min, if_pos hc2], N0, e0⟩) (by decide) (by decide)
  · skip
    refine own_seg (T' := T0) (g' := (mkF m 5 #[.val (.int p1), .val (.int p2)] [])) (fun tg kt => XS.icmpNo X0.here hx rfl (hb hby d1_2) rfl (flt hc2).2.2.1 kt) ?_
    refine own_seg (T' := T0) (g' := (mkF m 10 #[.val (.int p1), .val (.int p2)] [(.int p1)])) (fun tg kt => ?_) ?_
    · show Steps p.tables e below (T0.setTop (mkF m 5 #[.val (.int p1), .val (.int p2)] [])) tg
      refine XS.iloadN X0.here hx rfl (hb hby d1_5) rfl ?_
      show Steps p.tables e below (T0.setTop (mkF m 6 #[.val (.int p1), .val (.int p2)] [(.int p1)])) tg
      refine XS.goto X0.here hx rfl (pc0 := 6) (pc' := 10) rfl (hb hby d1_6) (by decide) (by decide) ?_
      exact kt
    exact own_retI K X0 d1_10 (⟨by rw [own_min, if_neg hc2], N0, e0⟩) (by decide) (by decide)
theorem d2_0 : decode jdk_29_method_66_code 0 = .ok (.lload_n 0, 1) := by decide +kernel
theorem d2_1 : decode jdk_29_method_66_code 1 = .ok (.lload_n 2, 1) := by decide +kernel
theorem d2_2 : decode jdk_29_method_66_code 2 = .ok (.lcmp, 1) := by decide +kernel
theorem d2_3 : decode jdk_29_method_66_code 3 = .ok (.ifCond .lt 7, 3) := by decide +kernel
theorem d2_10 : decode jdk_29_method_66_code 10 = .ok (.lload_n 2, 1) := by decide +kernel
theorem d2_11 : decode jdk_29_method_66_code 11 = .ok (.lreturn, 1) := by decide +kernel
theorem d2_6 : decode jdk_29_method_66_code 6 = .ok (.lload_n 0, 1) := by decide +kernel
theorem d2_7 : decode jdk_29_method_66_code 7 = .ok (.goto 4, 3) := by decide +kernel
set_option maxRecDepth 65536 in
set_option maxHeartbeats 40000000 in
theorem rm2 (l : Launch) (Z : State) (a0 : Array Value) (hw : ∀ d ∈ tables_1, d.before a0 Z = true) (p1 p2 : Int64) (h0 : Heap) (n0 : Nat) (Z0 : n0 ≤ h0.size)  :
    own_Met l Z (⟨"java/lang/Math", "max", "(JJ)J"⟩ : MethodName) jdk_29_method_66_code 4 (some .long) ({ frames := 0, cells := 0, slots := 0, locals := 0 } : Room) #[(.long p1), (.long p2)] h0 (own_QJ (own_max p1 p2) h0 n0) := by
  refine own_enter (Jvm.Free.JP.mathPlain rfl (by decide +kernel)) (fun m => by first | rfl | (simp [entryFrame, mkF, argsToLocals, Value.category, maxLocals]; done)) (Ls := #[.val (.long p1), .second, .val (.long p2), .second]) ?_
  intro p e s m below meth c T0 K X0 e0
  have hx := K.1
  have hZ := K.2.1
  have hby := K.2.2.1
  have hown := K.2.2.2.2.1
  have N0 := Fr.nil n0
  show own_Fin p e below _ T0 (mkF m 0 #[.val (.long p1), .second, .val (.long p2), .second] [])
  refine own_seg (T' := T0) (g' := (mkF m 3 #[.val (.long p1), .second, .val (.long p2), .second] [(.int (lcmpW p1 p2))])) (fun tg kt => ?_) ?_
  · show Steps p.tables e below (T0.setTop (mkF m 0 #[.val (.long p1), .second, .val (.long p2), .second] [])) tg
    refine XS.lloadN X0.here hx rfl (hb hby d2_0) rfl ?_
    show Steps p.tables e below (T0.setTop (mkF m 1 #[.val (.long p1), .second, .val (.long p2), .second] [(.long p1)])) tg
    refine XS.lloadN X0.here hx rfl (hb hby d2_1) rfl ?_
    show Steps p.tables e below (T0.setTop (mkF m 2 #[.val (.long p1), .second, .val (.long p2), .second] [(.long p2), (.long p1)])) tg
    refine XS.lcmp X0.here hx rfl (hb hby d2_2) rfl ?_
    exact kt
  by_cases hc3 : p1 < p2
  · skip
    refine own_seg (T' := T0) (g' := (mkF m 10 #[.val (.long p1), .second, .val (.long p2), .second] [])) (fun tg kt => XS.ifYes X0.here hx rfl (pc0 := 3) (pc' := 10) rfl (hb hby d2_3) rfl ((if0 _ _).trans (tlt ((lw_lt _ _).mpr hc3)).1) (by decide) (by decide) kt) ?_
    refine own_seg (T' := T0) (g' := (mkF m 11 #[.val (.long p1), .second, .val (.long p2), .second] [(.long p2)])) (fun tg kt => ?_) ?_
    · show Steps p.tables e below (T0.setTop (mkF m 10 #[.val (.long p1), .second, .val (.long p2), .second] [])) tg
      refine XS.lloadN X0.here hx rfl (hb hby d2_10) rfl ?_
      exact kt
    exact own_retJ K X0 d2_11 (⟨by rw [own_max, if_pos hc3], N0, e0⟩) (by decide) (by decide)
  · skip
    refine own_seg (T' := T0) (g' := (mkF m 6 #[.val (.long p1), .second, .val (.long p2), .second] [])) (fun tg kt => XS.ifNo X0.here hx rfl (hb hby d2_3) rfl ((if0 _ _).trans (flt (fun q_ => hc3 ((lw_lt _ _).mp q_))).1) kt) ?_
    refine own_seg (T' := T0) (g' := (mkF m 11 #[.val (.long p1), .second, .val (.long p2), .second] [(.long p1)])) (fun tg kt => ?_) ?_
    · show Steps p.tables e below (T0.setTop (mkF m 6 #[.val (.long p1), .second, .val (.long p2), .second] [])) tg
      refine XS.lloadN X0.here hx rfl (hb hby d2_6) rfl ?_
      show Steps p.tables e below (T0.setTop (mkF m 7 #[.val (.long p1), .second, .val (.long p2), .second] [(.long p1)])) tg
      refine XS.goto X0.here hx rfl (pc0 := 7) (pc' := 11) rfl (hb hby d2_7) (by decide) (by decide) ?_
      exact kt
    exact own_retJ K X0 d2_11 (⟨by rw [own_max, if_neg hc3], N0, e0⟩) (by decide) (by decide)
theorem own_pn3 : plainName "com/example/murmuration/murmuration/LegTable" = true := by first | (simp [plainName, overriddenIn]; done) | decide +kernel
theorem d3_0 : decode prog_6_method_3_code 0 = .ok (.iload_n 0, 1) := by decide +kernel
theorem d3_1 : decode prog_6_method_3_code 1 = .ok (.i2l, 1) := by decide +kernel
theorem d3_2 : decode prog_6_method_3_code 2 = .ok (.iload_n 0, 1) := by decide +kernel
theorem d3_3 : decode prog_6_method_3_code 3 = .ok (.i2l, 1) := by decide +kernel
theorem d3_4 : decode prog_6_method_3_code 4 = .ok (.lmul, 1) := by decide +kernel
theorem d3_5 : decode prog_6_method_3_code 5 = .ok (.lstore 4, 2) := by decide +kernel
theorem d3_7 : decode prog_6_method_3_code 7 = .ok (.iload_n 1, 1) := by decide +kernel
theorem d3_8 : decode prog_6_method_3_code 8 = .ok (.ifCond .ne 10, 3) := by decide +kernel
theorem d3_11 : decode prog_6_method_3_code 11 = .ok (.iload_n 0, 1) := by decide +kernel
theorem d3_12 : decode prog_6_method_3_code 12 = .ok (.sipush 1024, 3) := by decide +kernel
theorem d3_15 : decode prog_6_method_3_code 15 = .ok (.if_icmp .gt 7, 3) := by decide +kernel
theorem d3_22 : decode prog_6_method_3_code 22 = .ok (.iconst 0, 1) := by decide +kernel
theorem d3_23 : decode prog_6_method_3_code 23 = .ok (.istore 6, 2) := by decide +kernel
theorem d3_25 : decode prog_6_method_3_code 25 = .ok (.iload 6, 2) := by decide +kernel
theorem d3_27 : decode prog_6_method_3_code 27 = .ok (.ifCond .eq 31, 3) := by decide +kernel
theorem d3_58 : decode prog_6_method_3_code 58 = .ok (.iconst 0, 1) := by decide +kernel
theorem d3_59 : decode prog_6_method_3_code 59 = .ok (.ireturn, 1) := by decide +kernel
theorem d3_18 : decode prog_6_method_3_code 18 = .ok (.iconst 1, 1) := by decide +kernel
theorem d3_19 : decode prog_6_method_3_code 19 = .ok (.goto 4, 3) := by decide +kernel
theorem d3_30 : decode prog_6_method_3_code 30 = .ok (.lload 4, 2) := by decide +kernel
theorem d3_32 : decode prog_6_method_3_code 32 = .ok (.ldc2_w 40, 3) := by decide +kernel
theorem d3_35 : decode prog_6_method_3_code 35 = .ok (.lcmp, 1) := by decide +kernel
theorem d3_36 : decode prog_6_method_3_code 36 = .ok (.ifCond .gt 22, 3) := by decide +kernel
theorem d3_39 : decode prog_6_method_3_code 39 = .ok (.lload 4, 2) := by decide +kernel
theorem d3_41 : decode prog_6_method_3_code 41 = .ok (.ldc2_w 44, 3) := by decide +kernel
theorem d3_44 : decode prog_6_method_3_code 44 = .ok (.lmul, 1) := by decide +kernel
theorem d3_45 : decode prog_6_method_3_code 45 = .ok (.lload_n 2, 1) := by decide +kernel
theorem d3_46 : decode prog_6_method_3_code 46 = .ok (.ldc2_w 46, 3) := by decide +kernel
theorem d3_49 : decode prog_6_method_3_code 49 = .ok (.ldiv, 1) := by decide +kernel
theorem d3_50 : decode prog_6_method_3_code 50 = .ok (.lcmp, 1) := by decide +kernel
theorem d3_51 : decode prog_6_method_3_code 51 = .ok (.ifCond .gt 7, 3) := by decide +kernel
theorem d3_54 : decode prog_6_method_3_code 54 = .ok (.iconst 1, 1) := by decide +kernel
theorem d3_55 : decode prog_6_method_3_code 55 = .ok (.goto 4, 3) := by decide +kernel
set_option maxRecDepth 65536 in
set_option maxHeartbeats 40000000 in
theorem rm3 (l : Launch) (Z : State) (a0 : Array Value) (hw : ∀ d ∈ tables_1, d.before a0 Z = true) (p1 p2 : Int32) (p3 : Int64) (r : Int32) (h0 : Heap) (n0 : Nat) (Z0 : n0 ≤ h0.size) (hz : ¬ p1 < 0) (hh : ¬ p3 < 0) (hr : r = own_keep p1 p2 p3) :
    own_Met l Z (⟨"com/example/murmuration/murmuration/LegTable", "isWorthKeeping", "(IZJ)Z"⟩ : MethodName) prog_6_method_3_code 7 (some .boolean) ({ frames := 0, cells := 0, slots := 0, locals := 0 } : Room) #[(.int p1), (.int p2), (.long p3)] h0 (own_QI r h0 n0) := by
  refine own_enter (plainFor_of_name own_pn3) (fun m => by first | rfl | (simp [entryFrame, mkF, argsToLocals, Value.category, maxLocals]; done)) (Ls := #[.val (.int p1), .val (.int p2), .val (.long p3), .second, .unset, .unset, .unset]) ?_
  intro p e s m below meth c T0 K X0 e0
  have hx := K.1
  have hZ := K.2.1
  have hby := K.2.2.1
  have hown := K.2.2.2.2.1
  have N0 := Fr.nil n0
  show own_Fin p e below _ T0 (mkF m 0 #[.val (.int p1), .val (.int p2), .val (.long p3), .second, .unset, .unset, .unset] [])
  refine own_seg (T' := T0) (g' := (mkF m 8 #[.val (.int p1), .val (.int p2), .val (.long p3), .second, .val (.long ((p1.toInt64) * (p1.toInt64))), .second, .unset] [(.int p2)])) (fun tg kt => ?_) ?_
  · show Steps p.tables e below (T0.setTop (mkF m 0 #[.val (.int p1), .val (.int p2), .val (.long p3), .second, .unset, .unset, .unset] [])) tg
    refine XS.iloadN X0.here hx rfl (hb hby d3_0) rfl ?_
    show Steps p.tables e below (T0.setTop (mkF m 1 #[.val (.int p1), .val (.int p2), .val (.long p3), .second, .unset, .unset, .unset] [(.int p1)])) tg
    refine XS.i2l X0.here hx rfl (hb hby d3_1) rfl ?_
    show Steps p.tables e below (T0.setTop (mkF m 2 #[.val (.int p1), .val (.int p2), .val (.long p3), .second, .unset, .unset, .unset] [(.long (p1.toInt64))])) tg
    refine XS.iloadN X0.here hx rfl (hb hby d3_2) rfl ?_
    show Steps p.tables e below (T0.setTop (mkF m 3 #[.val (.int p1), .val (.int p2), .val (.long p3), .second, .unset, .unset, .unset] [(.int p1), (.long (p1.toInt64))])) tg
    refine XS.i2l X0.here hx rfl (hb hby d3_3) rfl ?_
    show Steps p.tables e below (T0.setTop (mkF m 4 #[.val (.int p1), .val (.int p2), .val (.long p3), .second, .unset, .unset, .unset] [(.long (p1.toInt64)), (.long (p1.toInt64))])) tg
    refine XS.lmul X0.here hx rfl (hb hby d3_4) rfl ?_
    show Steps p.tables e below (T0.setTop (mkF m 5 #[.val (.int p1), .val (.int p2), .val (.long p3), .second, .unset, .unset, .unset] [(.long ((p1.toInt64) * (p1.toInt64)))])) tg
    refine XS.lstore X0.here hx rfl (hb hby d3_5) rfl (l' := #[.val (.int p1), .val (.int p2), .val (.long p3), .second, .val (.long ((p1.toInt64) * (p1.toInt64))), .second, .unset]) rfl ?_
    show Steps p.tables e below (T0.setTop (mkF m 7 #[.val (.int p1), .val (.int p2), .val (.long p3), .second, .val (.long ((p1.toInt64) * (p1.toInt64))), .second, .unset] [])) tg
    refine XS.iloadN X0.here hx rfl (hb hby d3_7) rfl ?_
    exact kt
  by_cases hc8 : p2 = (0 : Int32)
  · skip
    refine own_seg (T' := T0) (g' := (mkF m 11 #[.val (.int p1), .val (.int p2), .val (.long p3), .second, .val (.long ((p1.toInt64) * (p1.toInt64))), .second, .unset] [])) (fun tg kt => XS.ifNo X0.here hx rfl (hb hby d3_8) rfl ((if0 _ _).trans (teq hc8).2) kt) ?_
    refine own_seg (T' := T0) (g' := (mkF m 15 #[.val (.int p1), .val (.int p2), .val (.long p3), .second, .val (.long ((p1.toInt64) * (p1.toInt64))), .second, .unset] [(.int (1024 : Int32)), (.int p1)])) (fun tg kt => ?_) ?_
    · show Steps p.tables e below (T0.setTop (mkF m 11 #[.val (.int p1), .val (.int p2), .val (.long p3), .second, .val (.long ((p1.toInt64) * (p1.toInt64))), .second, .unset] [])) tg
      refine XS.iloadN X0.here hx rfl (hb hby d3_11) rfl ?_
      show Steps p.tables e below (T0.setTop (mkF m 12 #[.val (.int p1), .val (.int p2), .val (.long p3), .second, .val (.long ((p1.toInt64) * (p1.toInt64))), .second, .unset] [(.int p1)])) tg
      refine XS.sipush X0.here hx rfl (hb hby d3_12) ?_
      exact kt
    by_cases hc15 : (1024 : Int32) < p1
    · skip
      refine own_seg (T' := T0) (g' := (mkF m 22 #[.val (.int p1), .val (.int p2), .val (.long p3), .second, .val (.long ((p1.toInt64) * (p1.toInt64))), .second, .unset] [])) (fun tg kt => XS.icmpYes X0.here hx rfl (pc0 := 15) (pc' := 22) rfl (hb hby d3_15) rfl (tlt hc15).2.2.1 (by decide) (by decide) kt) ?_
      refine own_seg (T' := T0) (g' := (mkF m 27 #[.val (.int p1), .val (.int p2), .val (.long p3), .second, .val (.long ((p1.toInt64) * (p1.toInt64))), .second, .val (.int (0 : Int32))] [(.int (0 : Int32))])) (fun tg kt => ?_) ?_
      · show Steps p.tables e below (T0.setTop (mkF m 22 #[.val (.int p1), .val (.int p2), .val (.long p3), .second, .val (.long ((p1.toInt64) * (p1.toInt64))), .second, .unset] [])) tg
        refine XS.iconst X0.here hx rfl (hb hby d3_22) ?_
        show Steps p.tables e below (T0.setTop (mkF m 23 #[.val (.int p1), .val (.int p2), .val (.long p3), .second, .val (.long ((p1.toInt64) * (p1.toInt64))), .second, .unset] [(.int (0 : Int32))])) tg
        refine XS.istore X0.here hx rfl (hb hby d3_23) rfl (l' := #[.val (.int p1), .val (.int p2), .val (.long p3), .second, .val (.long ((p1.toInt64) * (p1.toInt64))), .second, .val (.int (0 : Int32))]) rfl ?_
        show Steps p.tables e below (T0.setTop (mkF m 25 #[.val (.int p1), .val (.int p2), .val (.long p3), .second, .val (.long ((p1.toInt64) * (p1.toInt64))), .second, .val (.int (0 : Int32))] [])) tg
        refine XS.iload X0.here hx rfl (hb hby d3_25) rfl ?_
        exact kt
      have hc27 : (0 : Int32) = (0 : Int32) := by decide
      refine own_seg (T' := T0) (g' := (mkF m 58 #[.val (.int p1), .val (.int p2), .val (.long p3), .second, .val (.long ((p1.toInt64) * (p1.toInt64))), .second, .val (.int (0 : Int32))] [])) (fun tg kt => XS.ifYes X0.here hx rfl (pc0 := 27) (pc' := 58) rfl (hb hby d3_27) rfl ((if0 _ _).trans (teq hc27).1) (by decide) (by decide) kt) ?_
      refine own_seg (T' := T0) (g' := (mkF m 59 #[.val (.int p1), .val (.int p2), .val (.long p3), .second, .val (.long ((p1.toInt64) * (p1.toInt64))), .second, .val (.int (0 : Int32))] [(.int (0 : Int32))])) (fun tg kt => ?_) ?_
      · show Steps p.tables e below (T0.setTop (mkF m 58 #[.val (.int p1), .val (.int p2), .val (.long p3), .second, .val (.long ((p1.toInt64) * (p1.toInt64))), .second, .val (.int (0 : Int32))] [])) tg
        refine XS.iconst X0.here hx rfl (hb hby d3_58) ?_
        exact kt
      exact own_retN K (by simp) X0 d3_59 (⟨by rw [hr, own_keep, if_pos ⟨hc8, hc15⟩]; rfl, N0, e0⟩) (by decide) (by decide)
    · skip
      refine own_seg (T' := T0) (g' := (mkF m 18 #[.val (.int p1), .val (.int p2), .val (.long p3), .second, .val (.long ((p1.toInt64) * (p1.toInt64))), .second, .unset] [])) (fun tg kt => XS.icmpNo X0.here hx rfl (hb hby d3_15) rfl (flt hc15).2.2.1 kt) ?_
      refine own_seg (T' := T0) (g' := (mkF m 27 #[.val (.int p1), .val (.int p2), .val (.long p3), .second, .val (.long ((p1.toInt64) * (p1.toInt64))), .second, .val (.int (1 : Int32))] [(.int (1 : Int32))])) (fun tg kt => ?_) ?_
      · show Steps p.tables e below (T0.setTop (mkF m 18 #[.val (.int p1), .val (.int p2), .val (.long p3), .second, .val (.long ((p1.toInt64) * (p1.toInt64))), .second, .unset] [])) tg
        refine XS.iconst X0.here hx rfl (hb hby d3_18) ?_
        show Steps p.tables e below (T0.setTop (mkF m 19 #[.val (.int p1), .val (.int p2), .val (.long p3), .second, .val (.long ((p1.toInt64) * (p1.toInt64))), .second, .unset] [(.int (1 : Int32))])) tg
        refine XS.goto X0.here hx rfl (pc0 := 19) (pc' := 23) rfl (hb hby d3_19) (by decide) (by decide) ?_
        show Steps p.tables e below (T0.setTop (mkF m 23 #[.val (.int p1), .val (.int p2), .val (.long p3), .second, .val (.long ((p1.toInt64) * (p1.toInt64))), .second, .unset] [(.int (1 : Int32))])) tg
        refine XS.istore X0.here hx rfl (hb hby d3_23) rfl (l' := #[.val (.int p1), .val (.int p2), .val (.long p3), .second, .val (.long ((p1.toInt64) * (p1.toInt64))), .second, .val (.int (1 : Int32))]) rfl ?_
        show Steps p.tables e below (T0.setTop (mkF m 25 #[.val (.int p1), .val (.int p2), .val (.long p3), .second, .val (.long ((p1.toInt64) * (p1.toInt64))), .second, .val (.int (1 : Int32))] [])) tg
        refine XS.iload X0.here hx rfl (hb hby d3_25) rfl ?_
        exact kt
      have hc27 : ¬ ((1 : Int32) = (0 : Int32)) := by decide
      refine own_seg (T' := T0) (g' := (mkF m 30 #[.val (.int p1), .val (.int p2), .val (.long p3), .second, .val (.long ((p1.toInt64) * (p1.toInt64))), .second, .val (.int (1 : Int32))] [])) (fun tg kt => XS.ifNo X0.here hx rfl (hb hby d3_27) rfl ((if0 _ _).trans (feq hc27).1) kt) ?_
      refine own_seg (T' := T0) (g' := (mkF m 36 #[.val (.int p1), .val (.int p2), .val (.long p3), .second, .val (.long ((p1.toInt64) * (p1.toInt64))), .second, .val (.int (1 : Int32))] [(.int (lcmpW ((p1.toInt64) * (p1.toInt64)) (2147483639 : Int64)))])) (fun tg kt => ?_) ?_
      · show Steps p.tables e below (T0.setTop (mkF m 30 #[.val (.int p1), .val (.int p2), .val (.long p3), .second, .val (.long ((p1.toInt64) * (p1.toInt64))), .second, .val (.int (1 : Int32))] [])) tg
        refine XS.lload X0.here hx rfl (hb hby d3_30) rfl ?_
        show Steps p.tables e below (T0.setTop (mkF m 32 #[.val (.int p1), .val (.int p2), .val (.long p3), .second, .val (.long ((p1.toInt64) * (p1.toInt64))), .second, .val (.int (1 : Int32))] [(.long ((p1.toInt64) * (p1.toInt64)))])) tg
        refine X0.ldc2Long hx hown (mvT hZ (hw _ (List.mem_of_getElem? (i := 14) rfl))) (g := (mkF m 32 #[.val (.int p1), .val (.int p2), .val (.long p3), .second, .val (.long ((p1.toInt64) * (p1.toInt64))), .second, .val (.int (1 : Int32))] [(.long ((p1.toInt64) * (p1.toInt64)))])) rfl (hb hby d3_32) _ ?_
        show Steps p.tables e below (T0.setTop (mkF m 35 #[.val (.int p1), .val (.int p2), .val (.long p3), .second, .val (.long ((p1.toInt64) * (p1.toInt64))), .second, .val (.int (1 : Int32))] [(.long (2147483639 : Int64)), (.long ((p1.toInt64) * (p1.toInt64)))])) tg
        refine XS.lcmp X0.here hx rfl (hb hby d3_35) rfl ?_
        exact kt
      by_cases hc36 : (2147483639 : Int64) < ((p1.toInt64) * (p1.toInt64))
      · skip
        refine own_seg (T' := T0) (g' := (mkF m 58 #[.val (.int p1), .val (.int p2), .val (.long p3), .second, .val (.long ((p1.toInt64) * (p1.toInt64))), .second, .val (.int (1 : Int32))] [])) (fun tg kt => XS.ifYes X0.here hx rfl (pc0 := 36) (pc' := 58) rfl (hb hby d3_36) rfl ((if0 _ _).trans (tlt ((lw_gt _ _).mpr hc36)).2.2.1) (by decide) (by decide) kt) ?_
        refine own_seg (T' := T0) (g' := (mkF m 59 #[.val (.int p1), .val (.int p2), .val (.long p3), .second, .val (.long ((p1.toInt64) * (p1.toInt64))), .second, .val (.int (1 : Int32))] [(.int (0 : Int32))])) (fun tg kt => ?_) ?_
        · show Steps p.tables e below (T0.setTop (mkF m 58 #[.val (.int p1), .val (.int p2), .val (.long p3), .second, .val (.long ((p1.toInt64) * (p1.toInt64))), .second, .val (.int (1 : Int32))] [])) tg
          refine XS.iconst X0.here hx rfl (hb hby d3_58) ?_
          exact kt
        exact own_retN K (by simp) X0 d3_59 (⟨by rw [hr, own_keep, if_neg (fun q_ => hc15 q_.2), if_pos ((own_ent hz).mp hc36)]; rfl, N0, e0⟩) (by decide) (by decide)
      · skip
        refine own_seg (T' := T0) (g' := (mkF m 39 #[.val (.int p1), .val (.int p2), .val (.long p3), .second, .val (.long ((p1.toInt64) * (p1.toInt64))), .second, .val (.int (1 : Int32))] [])) (fun tg kt => XS.ifNo X0.here hx rfl (hb hby d3_36) rfl ((if0 _ _).trans (flt (fun q_ => hc36 ((lw_gt _ _).mp q_))).2.2.1) kt) ?_
        refine own_seg (T' := T0) (g' := (mkF m 51 #[.val (.int p1), .val (.int p2), .val (.long p3), .second, .val (.long ((p1.toInt64) * (p1.toInt64))), .second, .val (.int (1 : Int32))] [(.int (lcmpW (((p1.toInt64) * (p1.toInt64)) * (8 : Int64)) (p3 / (4 : Int64))))])) (fun tg kt => ?_) ?_
        · show Steps p.tables e below (T0.setTop (mkF m 39 #[.val (.int p1), .val (.int p2), .val (.long p3), .second, .val (.long ((p1.toInt64) * (p1.toInt64))), .second, .val (.int (1 : Int32))] [])) tg
          refine XS.lload X0.here hx rfl (hb hby d3_39) rfl ?_
          show Steps p.tables e below (T0.setTop (mkF m 41 #[.val (.int p1), .val (.int p2), .val (.long p3), .second, .val (.long ((p1.toInt64) * (p1.toInt64))), .second, .val (.int (1 : Int32))] [(.long ((p1.toInt64) * (p1.toInt64)))])) tg
          refine X0.ldc2Long hx hown (mvT hZ (hw _ (List.mem_of_getElem? (i := 15) rfl))) (g := (mkF m 41 #[.val (.int p1), .val (.int p2), .val (.long p3), .second, .val (.long ((p1.toInt64) * (p1.toInt64))), .second, .val (.int (1 : Int32))] [(.long ((p1.toInt64) * (p1.toInt64)))])) rfl (hb hby d3_41) _ ?_
          show Steps p.tables e below (T0.setTop (mkF m 44 #[.val (.int p1), .val (.int p2), .val (.long p3), .second, .val (.long ((p1.toInt64) * (p1.toInt64))), .second, .val (.int (1 : Int32))] [(.long (8 : Int64)), (.long ((p1.toInt64) * (p1.toInt64)))])) tg
          refine XS.lmul X0.here hx rfl (hb hby d3_44) rfl ?_
          show Steps p.tables e below (T0.setTop (mkF m 45 #[.val (.int p1), .val (.int p2), .val (.long p3), .second, .val (.long ((p1.toInt64) * (p1.toInt64))), .second, .val (.int (1 : Int32))] [(.long (((p1.toInt64) * (p1.toInt64)) * (8 : Int64)))])) tg
          refine XS.lloadN X0.here hx rfl (hb hby d3_45) rfl ?_
          show Steps p.tables e below (T0.setTop (mkF m 46 #[.val (.int p1), .val (.int p2), .val (.long p3), .second, .val (.long ((p1.toInt64) * (p1.toInt64))), .second, .val (.int (1 : Int32))] [(.long p3), (.long (((p1.toInt64) * (p1.toInt64)) * (8 : Int64)))])) tg
          refine X0.ldc2Long hx hown (mvT hZ (hw _ (List.mem_of_getElem? (i := 16) rfl))) (g := (mkF m 46 #[.val (.int p1), .val (.int p2), .val (.long p3), .second, .val (.long ((p1.toInt64) * (p1.toInt64))), .second, .val (.int (1 : Int32))] [(.long p3), (.long (((p1.toInt64) * (p1.toInt64)) * (8 : Int64)))])) rfl (hb hby d3_46) _ ?_
          show Steps p.tables e below (T0.setTop (mkF m 49 #[.val (.int p1), .val (.int p2), .val (.long p3), .second, .val (.long ((p1.toInt64) * (p1.toInt64))), .second, .val (.int (1 : Int32))] [(.long (4 : Int64)), (.long p3), (.long (((p1.toInt64) * (p1.toInt64)) * (8 : Int64)))])) tg
          refine XS.ldiv X0.here hx rfl (hb hby d3_49) rfl (by decide) ?_
          show Steps p.tables e below (T0.setTop (mkF m 50 #[.val (.int p1), .val (.int p2), .val (.long p3), .second, .val (.long ((p1.toInt64) * (p1.toInt64))), .second, .val (.int (1 : Int32))] [(.long (p3 / (4 : Int64))), (.long (((p1.toInt64) * (p1.toInt64)) * (8 : Int64)))])) tg
          refine XS.lcmp X0.here hx rfl (hb hby d3_50) rfl ?_
          exact kt
        by_cases hc51 : (p3 / (4 : Int64)) < (((p1.toInt64) * (p1.toInt64)) * (8 : Int64))
        · skip
          refine own_seg (T' := T0) (g' := (mkF m 58 #[.val (.int p1), .val (.int p2), .val (.long p3), .second, .val (.long ((p1.toInt64) * (p1.toInt64))), .second, .val (.int (1 : Int32))] [])) (fun tg kt => XS.ifYes X0.here hx rfl (pc0 := 51) (pc' := 58) rfl (hb hby d3_51) rfl ((if0 _ _).trans (tlt ((lw_gt _ _).mpr hc51)).2.2.1) (by decide) (by decide) kt) ?_
          refine own_seg (T' := T0) (g' := (mkF m 59 #[.val (.int p1), .val (.int p2), .val (.long p3), .second, .val (.long ((p1.toInt64) * (p1.toInt64))), .second, .val (.int (1 : Int32))] [(.int (0 : Int32))])) (fun tg kt => ?_) ?_
          · show Steps p.tables e below (T0.setTop (mkF m 58 #[.val (.int p1), .val (.int p2), .val (.long p3), .second, .val (.long ((p1.toInt64) * (p1.toInt64))), .second, .val (.int (1 : Int32))] [])) tg
            refine XS.iconst X0.here hx rfl (hb hby d3_58) ?_
            exact kt
          exact own_retN K (by simp) X0 d3_59 (⟨by rw [hr, own_keep, if_neg (fun q_ => hc15 q_.2), if_neg (fun q_ => hc36 ((own_ent hz).mpr q_)), if_pos ((own_heap hz hh (fun q_ => hc36 ((own_ent hz).mpr q_))).mp hc51)]; rfl, N0, e0⟩) (by decide) (by decide)
        · skip
          refine own_seg (T' := T0) (g' := (mkF m 54 #[.val (.int p1), .val (.int p2), .val (.long p3), .second, .val (.long ((p1.toInt64) * (p1.toInt64))), .second, .val (.int (1 : Int32))] [])) (fun tg kt => XS.ifNo X0.here hx rfl (hb hby d3_51) rfl ((if0 _ _).trans (flt (fun q_ => hc51 ((lw_gt _ _).mp q_))).2.2.1) kt) ?_
          refine own_seg (T' := T0) (g' := (mkF m 59 #[.val (.int p1), .val (.int p2), .val (.long p3), .second, .val (.long ((p1.toInt64) * (p1.toInt64))), .second, .val (.int (1 : Int32))] [(.int (1 : Int32))])) (fun tg kt => ?_) ?_
          · show Steps p.tables e below (T0.setTop (mkF m 54 #[.val (.int p1), .val (.int p2), .val (.long p3), .second, .val (.long ((p1.toInt64) * (p1.toInt64))), .second, .val (.int (1 : Int32))] [])) tg
            refine XS.iconst X0.here hx rfl (hb hby d3_54) ?_
            show Steps p.tables e below (T0.setTop (mkF m 55 #[.val (.int p1), .val (.int p2), .val (.long p3), .second, .val (.long ((p1.toInt64) * (p1.toInt64))), .second, .val (.int (1 : Int32))] [(.int (1 : Int32))])) tg
            refine XS.goto X0.here hx rfl (pc0 := 55) (pc' := 59) rfl (hb hby d3_55) (by decide) (by decide) ?_
            exact kt
          exact own_retN K (by simp) X0 d3_59 (⟨by rw [hr, own_keep, if_neg (fun q_ => hc15 q_.2), if_neg (fun q_ => hc36 ((own_ent hz).mpr q_)), if_neg (fun q_ => hc51 ((own_heap hz hh (fun q_ => hc36 ((own_ent hz).mpr q_))).mpr q_))]; rfl, N0, e0⟩) (by decide) (by decide)
  · skip
    refine own_seg (T' := T0) (g' := (mkF m 18 #[.val (.int p1), .val (.int p2), .val (.long p3), .second, .val (.long ((p1.toInt64) * (p1.toInt64))), .second, .unset] [])) (fun tg kt => XS.ifYes X0.here hx rfl (pc0 := 8) (pc' := 18) rfl (hb hby d3_8) rfl ((if0 _ _).trans (feq hc8).2) (by decide) (by decide) kt) ?_
    refine own_seg (T' := T0) (g' := (mkF m 27 #[.val (.int p1), .val (.int p2), .val (.long p3), .second, .val (.long ((p1.toInt64) * (p1.toInt64))), .second, .val (.int (1 : Int32))] [(.int (1 : Int32))])) (fun tg kt => ?_) ?_
    · show Steps p.tables e below (T0.setTop (mkF m 18 #[.val (.int p1), .val (.int p2), .val (.long p3), .second, .val (.long ((p1.toInt64) * (p1.toInt64))), .second, .unset] [])) tg
      refine XS.iconst X0.here hx rfl (hb hby d3_18) ?_
      show Steps p.tables e below (T0.setTop (mkF m 19 #[.val (.int p1), .val (.int p2), .val (.long p3), .second, .val (.long ((p1.toInt64) * (p1.toInt64))), .second, .unset] [(.int (1 : Int32))])) tg
      refine XS.goto X0.here hx rfl (pc0 := 19) (pc' := 23) rfl (hb hby d3_19) (by decide) (by decide) ?_
      show Steps p.tables e below (T0.setTop (mkF m 23 #[.val (.int p1), .val (.int p2), .val (.long p3), .second, .val (.long ((p1.toInt64) * (p1.toInt64))), .second, .unset] [(.int (1 : Int32))])) tg
      refine XS.istore X0.here hx rfl (hb hby d3_23) rfl (l' := #[.val (.int p1), .val (.int p2), .val (.long p3), .second, .val (.long ((p1.toInt64) * (p1.toInt64))), .second, .val (.int (1 : Int32))]) rfl ?_
      show Steps p.tables e below (T0.setTop (mkF m 25 #[.val (.int p1), .val (.int p2), .val (.long p3), .second, .val (.long ((p1.toInt64) * (p1.toInt64))), .second, .val (.int (1 : Int32))] [])) tg
      refine XS.iload X0.here hx rfl (hb hby d3_25) rfl ?_
      exact kt
    have hc27 : ¬ ((1 : Int32) = (0 : Int32)) := by decide
    refine own_seg (T' := T0) (g' := (mkF m 30 #[.val (.int p1), .val (.int p2), .val (.long p3), .second, .val (.long ((p1.toInt64) * (p1.toInt64))), .second, .val (.int (1 : Int32))] [])) (fun tg kt => XS.ifNo X0.here hx rfl (hb hby d3_27) rfl ((if0 _ _).trans (feq hc27).1) kt) ?_
    refine own_seg (T' := T0) (g' := (mkF m 36 #[.val (.int p1), .val (.int p2), .val (.long p3), .second, .val (.long ((p1.toInt64) * (p1.toInt64))), .second, .val (.int (1 : Int32))] [(.int (lcmpW ((p1.toInt64) * (p1.toInt64)) (2147483639 : Int64)))])) (fun tg kt => ?_) ?_
    · show Steps p.tables e below (T0.setTop (mkF m 30 #[.val (.int p1), .val (.int p2), .val (.long p3), .second, .val (.long ((p1.toInt64) * (p1.toInt64))), .second, .val (.int (1 : Int32))] [])) tg
      refine XS.lload X0.here hx rfl (hb hby d3_30) rfl ?_
      show Steps p.tables e below (T0.setTop (mkF m 32 #[.val (.int p1), .val (.int p2), .val (.long p3), .second, .val (.long ((p1.toInt64) * (p1.toInt64))), .second, .val (.int (1 : Int32))] [(.long ((p1.toInt64) * (p1.toInt64)))])) tg
      refine X0.ldc2Long hx hown (mvT hZ (hw _ (List.mem_of_getElem? (i := 14) rfl))) (g := (mkF m 32 #[.val (.int p1), .val (.int p2), .val (.long p3), .second, .val (.long ((p1.toInt64) * (p1.toInt64))), .second, .val (.int (1 : Int32))] [(.long ((p1.toInt64) * (p1.toInt64)))])) rfl (hb hby d3_32) _ ?_
      show Steps p.tables e below (T0.setTop (mkF m 35 #[.val (.int p1), .val (.int p2), .val (.long p3), .second, .val (.long ((p1.toInt64) * (p1.toInt64))), .second, .val (.int (1 : Int32))] [(.long (2147483639 : Int64)), (.long ((p1.toInt64) * (p1.toInt64)))])) tg
      refine XS.lcmp X0.here hx rfl (hb hby d3_35) rfl ?_
      exact kt
    by_cases hc36 : (2147483639 : Int64) < ((p1.toInt64) * (p1.toInt64))
    · skip
      refine own_seg (T' := T0) (g' := (mkF m 58 #[.val (.int p1), .val (.int p2), .val (.long p3), .second, .val (.long ((p1.toInt64) * (p1.toInt64))), .second, .val (.int (1 : Int32))] [])) (fun tg kt => XS.ifYes X0.here hx rfl (pc0 := 36) (pc' := 58) rfl (hb hby d3_36) rfl ((if0 _ _).trans (tlt ((lw_gt _ _).mpr hc36)).2.2.1) (by decide) (by decide) kt) ?_
      refine own_seg (T' := T0) (g' := (mkF m 59 #[.val (.int p1), .val (.int p2), .val (.long p3), .second, .val (.long ((p1.toInt64) * (p1.toInt64))), .second, .val (.int (1 : Int32))] [(.int (0 : Int32))])) (fun tg kt => ?_) ?_
      · show Steps p.tables e below (T0.setTop (mkF m 58 #[.val (.int p1), .val (.int p2), .val (.long p3), .second, .val (.long ((p1.toInt64) * (p1.toInt64))), .second, .val (.int (1 : Int32))] [])) tg
        refine XS.iconst X0.here hx rfl (hb hby d3_58) ?_
        exact kt
      exact own_retN K (by simp) X0 d3_59 (⟨by rw [hr, own_keep, if_neg (fun q_ => hc8 q_.1), if_pos ((own_ent hz).mp hc36)]; rfl, N0, e0⟩) (by decide) (by decide)
    · skip
      refine own_seg (T' := T0) (g' := (mkF m 39 #[.val (.int p1), .val (.int p2), .val (.long p3), .second, .val (.long ((p1.toInt64) * (p1.toInt64))), .second, .val (.int (1 : Int32))] [])) (fun tg kt => XS.ifNo X0.here hx rfl (hb hby d3_36) rfl ((if0 _ _).trans (flt (fun q_ => hc36 ((lw_gt _ _).mp q_))).2.2.1) kt) ?_
      refine own_seg (T' := T0) (g' := (mkF m 51 #[.val (.int p1), .val (.int p2), .val (.long p3), .second, .val (.long ((p1.toInt64) * (p1.toInt64))), .second, .val (.int (1 : Int32))] [(.int (lcmpW (((p1.toInt64) * (p1.toInt64)) * (8 : Int64)) (p3 / (4 : Int64))))])) (fun tg kt => ?_) ?_
      · show Steps p.tables e below (T0.setTop (mkF m 39 #[.val (.int p1), .val (.int p2), .val (.long p3), .second, .val (.long ((p1.toInt64) * (p1.toInt64))), .second, .val (.int (1 : Int32))] [])) tg
        refine XS.lload X0.here hx rfl (hb hby d3_39) rfl ?_
        show Steps p.tables e below (T0.setTop (mkF m 41 #[.val (.int p1), .val (.int p2), .val (.long p3), .second, .val (.long ((p1.toInt64) * (p1.toInt64))), .second, .val (.int (1 : Int32))] [(.long ((p1.toInt64) * (p1.toInt64)))])) tg
        refine X0.ldc2Long hx hown (mvT hZ (hw _ (List.mem_of_getElem? (i := 15) rfl))) (g := (mkF m 41 #[.val (.int p1), .val (.int p2), .val (.long p3), .second, .val (.long ((p1.toInt64) * (p1.toInt64))), .second, .val (.int (1 : Int32))] [(.long ((p1.toInt64) * (p1.toInt64)))])) rfl (hb hby d3_41) _ ?_
        show Steps p.tables e below (T0.setTop (mkF m 44 #[.val (.int p1), .val (.int p2), .val (.long p3), .second, .val (.long ((p1.toInt64) * (p1.toInt64))), .second, .val (.int (1 : Int32))] [(.long (8 : Int64)), (.long ((p1.toInt64) * (p1.toInt64)))])) tg
        refine XS.lmul X0.here hx rfl (hb hby d3_44) rfl ?_
        show Steps p.tables e below (T0.setTop (mkF m 45 #[.val (.int p1), .val (.int p2), .val (.long p3), .second, .val (.long ((p1.toInt64) * (p1.toInt64))), .second, .val (.int (1 : Int32))] [(.long (((p1.toInt64) * (p1.toInt64)) * (8 : Int64)))])) tg
        refine XS.lloadN X0.here hx rfl (hb hby d3_45) rfl ?_
        show Steps p.tables e below (T0.setTop (mkF m 46 #[.val (.int p1), .val (.int p2), .val (.long p3), .second, .val (.long ((p1.toInt64) * (p1.toInt64))), .second, .val (.int (1 : Int32))] [(.long p3), (.long (((p1.toInt64) * (p1.toInt64)) * (8 : Int64)))])) tg
        refine X0.ldc2Long hx hown (mvT hZ (hw _ (List.mem_of_getElem? (i := 16) rfl))) (g := (mkF m 46 #[.val (.int p1), .val (.int p2), .val (.long p3), .second, .val (.long ((p1.toInt64) * (p1.toInt64))), .second, .val (.int (1 : Int32))] [(.long p3), (.long (((p1.toInt64) * (p1.toInt64)) * (8 : Int64)))])) rfl (hb hby d3_46) _ ?_
        show Steps p.tables e below (T0.setTop (mkF m 49 #[.val (.int p1), .val (.int p2), .val (.long p3), .second, .val (.long ((p1.toInt64) * (p1.toInt64))), .second, .val (.int (1 : Int32))] [(.long (4 : Int64)), (.long p3), (.long (((p1.toInt64) * (p1.toInt64)) * (8 : Int64)))])) tg
        refine XS.ldiv X0.here hx rfl (hb hby d3_49) rfl (by decide) ?_
        show Steps p.tables e below (T0.setTop (mkF m 50 #[.val (.int p1), .val (.int p2), .val (.long p3), .second, .val (.long ((p1.toInt64) * (p1.toInt64))), .second, .val (.int (1 : Int32))] [(.long (p3 / (4 : Int64))), (.long (((p1.toInt64) * (p1.toInt64)) * (8 : Int64)))])) tg
        refine XS.lcmp X0.here hx rfl (hb hby d3_50) rfl ?_
        exact kt
      by_cases hc51 : (p3 / (4 : Int64)) < (((p1.toInt64) * (p1.toInt64)) * (8 : Int64))
      · skip
        refine own_seg (T' := T0) (g' := (mkF m 58 #[.val (.int p1), .val (.int p2), .val (.long p3), .second, .val (.long ((p1.toInt64) * (p1.toInt64))), .second, .val (.int (1 : Int32))] [])) (fun tg kt => XS.ifYes X0.here hx rfl (pc0 := 51) (pc' := 58) rfl (hb hby d3_51) rfl ((if0 _ _).trans (tlt ((lw_gt _ _).mpr hc51)).2.2.1) (by decide) (by decide) kt) ?_
        refine own_seg (T' := T0) (g' := (mkF m 59 #[.val (.int p1), .val (.int p2), .val (.long p3), .second, .val (.long ((p1.toInt64) * (p1.toInt64))), .second, .val (.int (1 : Int32))] [(.int (0 : Int32))])) (fun tg kt => ?_) ?_
        · show Steps p.tables e below (T0.setTop (mkF m 58 #[.val (.int p1), .val (.int p2), .val (.long p3), .second, .val (.long ((p1.toInt64) * (p1.toInt64))), .second, .val (.int (1 : Int32))] [])) tg
          refine XS.iconst X0.here hx rfl (hb hby d3_58) ?_
          exact kt
        exact own_retN K (by simp) X0 d3_59 (⟨by rw [hr, own_keep, if_neg (fun q_ => hc8 q_.1), if_neg (fun q_ => hc36 ((own_ent hz).mpr q_)), if_pos ((own_heap hz hh (fun q_ => hc36 ((own_ent hz).mpr q_))).mp hc51)]; rfl, N0, e0⟩) (by decide) (by decide)
      · skip
        refine own_seg (T' := T0) (g' := (mkF m 54 #[.val (.int p1), .val (.int p2), .val (.long p3), .second, .val (.long ((p1.toInt64) * (p1.toInt64))), .second, .val (.int (1 : Int32))] [])) (fun tg kt => XS.ifNo X0.here hx rfl (hb hby d3_51) rfl ((if0 _ _).trans (flt (fun q_ => hc51 ((lw_gt _ _).mp q_))).2.2.1) kt) ?_
        refine own_seg (T' := T0) (g' := (mkF m 59 #[.val (.int p1), .val (.int p2), .val (.long p3), .second, .val (.long ((p1.toInt64) * (p1.toInt64))), .second, .val (.int (1 : Int32))] [(.int (1 : Int32))])) (fun tg kt => ?_) ?_
        · show Steps p.tables e below (T0.setTop (mkF m 54 #[.val (.int p1), .val (.int p2), .val (.long p3), .second, .val (.long ((p1.toInt64) * (p1.toInt64))), .second, .val (.int (1 : Int32))] [])) tg
          refine XS.iconst X0.here hx rfl (hb hby d3_54) ?_
          show Steps p.tables e below (T0.setTop (mkF m 55 #[.val (.int p1), .val (.int p2), .val (.long p3), .second, .val (.long ((p1.toInt64) * (p1.toInt64))), .second, .val (.int (1 : Int32))] [(.int (1 : Int32))])) tg
          refine XS.goto X0.here hx rfl (pc0 := 55) (pc' := 59) rfl (hb hby d3_55) (by decide) (by decide) ?_
          exact kt
        exact own_retN K (by simp) X0 d3_59 (⟨by rw [hr, own_keep, if_neg (fun q_ => hc8 q_.1), if_neg (fun q_ => hc36 ((own_ent hz).mpr q_)), if_neg (fun q_ => hc51 ((own_heap hz hh (fun q_ => hc36 ((own_ent hz).mpr q_))).mpr q_))]; rfl, N0, e0⟩) (by decide) (by decide)
theorem own_pd0 : parseMethodDescriptor "(IZJ)Z" = some ⟨[.int, .boolean, .long], some .boolean⟩ := by decide +kernel
set_option maxRecDepth 65536 in
set_option maxHeartbeats 40000000 in
theorem sg0_126a0 {p : Program} {l : Launch} {e : Env} {s : State} {m : MethodId} {args : Array Value} {below : List Frame} {meth : Method} {c : Code} {T0 : State} {locs : List Loc} {Z : State} {a0 : Array Value} {h0 : Heap} {n0 : Nat} (hw : ∀ d ∈ tables_1, d.before a0 Z = true) (p1 p2 : Int32) (p3 : Int64) (p4 i6 c7 : Int32) (j8 j10 : Int64)
    (K : own_Ctx p Z s m meth c "com/example/murmuration/murmuration/LegTableIsWorthKeepingPinLaw" code maxLocals ret "law") (X0 : Stand p l e room_1 s m args below meth c T0 locs 0 0) (e0 : T0.heap = h0) (N0 : Fr n0 locs) (Z0 : n0 ≤ h0.size) (hz : ¬ c7 < 0) (hh : ¬ j8 < 0) :
    own_Fin p e below (own_P s room_1 (own_Q1 n0)) T0 (mkF m 126 #[.val (.int p1), .val (.int p2), .val (.long p3), .second, .val (.int p4), .val (.int (0 : Int32)), .val (.int i6), .val (.int c7), .val (.long j8), .second, .unset, .unset] []) := by
  have hx := K.1
  have hZ := K.2.1
  have hby := K.2.2.1
  have hown := K.2.2.2.2.1
  refine own_seg (T' := T0) (g' := (mkF m 128 #[.val (.int p1), .val (.int p2), .val (.long p3), .second, .val (.int p4), .val (.int (0 : Int32)), .val (.int i6), .val (.int c7), .val (.long j8), .second, .unset, .unset] [(.int (0 : Int32))])) (fun tg kt => ?_) ?_
  · show Steps p.tables e below (T0.setTop (mkF m 126 #[.val (.int p1), .val (.int p2), .val (.long p3), .second, .val (.int p4), .val (.int (0 : Int32)), .val (.int i6), .val (.int c7), .val (.long j8), .second, .unset, .unset] [])) tg
    refine XS.iload X0.here hx rfl (hb hby at_126) rfl ?_
    exact kt
  have hc128 : (0 : Int32) = (0 : Int32) := by decide
  refine own_seg (T' := T0) (g' := (mkF m 131 #[.val (.int p1), .val (.int p2), .val (.long p3), .second, .val (.int p4), .val (.int (0 : Int32)), .val (.int i6), .val (.int c7), .val (.long j8), .second, .unset, .unset] [])) (fun tg kt => XS.ifNo X0.here hx rfl (hb hby at_128) rfl ((if0 _ _).trans (teq hc128).2) kt) ?_
  refine own_seg (T' := T0) (g' := (mkF m 136 #[.val (.int p1), .val (.int p2), .val (.long p3), .second, .val (.int p4), .val (.int (0 : Int32)), .val (.int i6), .val (.int c7), .val (.long j8), .second, .unset, .unset] [(.int (1024 : Int32)), (.int c7)])) (fun tg kt => ?_) ?_
  · show Steps p.tables e below (T0.setTop (mkF m 131 #[.val (.int p1), .val (.int p2), .val (.long p3), .second, .val (.int p4), .val (.int (0 : Int32)), .val (.int i6), .val (.int c7), .val (.long j8), .second, .unset, .unset] [])) tg
    refine XS.iload X0.here hx rfl (hb hby at_131) rfl ?_
    show Steps p.tables e below (T0.setTop (mkF m 133 #[.val (.int p1), .val (.int p2), .val (.long p3), .second, .val (.int p4), .val (.int (0 : Int32)), .val (.int i6), .val (.int c7), .val (.long j8), .second, .unset, .unset] [(.int c7)])) tg
    refine XS.sipush X0.here hx rfl (hb hby at_133) ?_
    exact kt
  by_cases hc136 : (1024 : Int32) < c7
  · skip
    refine own_seg (T' := T0) (g' := (mkF m 167 #[.val (.int p1), .val (.int p2), .val (.long p3), .second, .val (.int p4), .val (.int (0 : Int32)), .val (.int i6), .val (.int c7), .val (.long j8), .second, .unset, .unset] [])) (fun tg kt => XS.icmpYes X0.here hx rfl (pc0 := 136) (pc' := 167) rfl (hb hby at_136) rfl (tlt hc136).2.2.1 (by decide) (by decide) kt) ?_
    refine own_seg (T' := T0) (g' := (mkF m 176 #[.val (.int p1), .val (.int p2), .val (.long p3), .second, .val (.int p4), .val (.int (0 : Int32)), .val (.int i6), .val (.int c7), .val (.long j8), .second, .val (.int (0 : Int32)), .unset] [(.long j8), (.int (0 : Int32)), (.int c7)])) (fun tg kt => ?_) ?_
    · show Steps p.tables e below (T0.setTop (mkF m 167 #[.val (.int p1), .val (.int p2), .val (.long p3), .second, .val (.int p4), .val (.int (0 : Int32)), .val (.int i6), .val (.int c7), .val (.long j8), .second, .unset, .unset] [])) tg
      refine XS.iconst X0.here hx rfl (hb hby at_167) ?_
      show Steps p.tables e below (T0.setTop (mkF m 168 #[.val (.int p1), .val (.int p2), .val (.long p3), .second, .val (.int p4), .val (.int (0 : Int32)), .val (.int i6), .val (.int c7), .val (.long j8), .second, .unset, .unset] [(.int (0 : Int32))])) tg
      refine XS.istore X0.here hx rfl (hb hby at_168) rfl (l' := #[.val (.int p1), .val (.int p2), .val (.long p3), .second, .val (.int p4), .val (.int (0 : Int32)), .val (.int i6), .val (.int c7), .val (.long j8), .second, .val (.int (0 : Int32)), .unset]) rfl ?_
      show Steps p.tables e below (T0.setTop (mkF m 170 #[.val (.int p1), .val (.int p2), .val (.long p3), .second, .val (.int p4), .val (.int (0 : Int32)), .val (.int i6), .val (.int c7), .val (.long j8), .second, .val (.int (0 : Int32)), .unset] [])) tg
      refine XS.iload X0.here hx rfl (hb hby at_170) rfl ?_
      show Steps p.tables e below (T0.setTop (mkF m 172 #[.val (.int p1), .val (.int p2), .val (.long p3), .second, .val (.int p4), .val (.int (0 : Int32)), .val (.int i6), .val (.int c7), .val (.long j8), .second, .val (.int (0 : Int32)), .unset] [(.int c7)])) tg
      refine XS.iload X0.here hx rfl (hb hby at_172) rfl ?_
      show Steps p.tables e below (T0.setTop (mkF m 174 #[.val (.int p1), .val (.int p2), .val (.long p3), .second, .val (.int p4), .val (.int (0 : Int32)), .val (.int i6), .val (.int c7), .val (.long j8), .second, .val (.int (0 : Int32)), .unset] [(.int (0 : Int32)), (.int c7)])) tg
      refine XS.lload X0.here hx rfl (hb hby at_174) rfl ?_
      exact kt
    refine own_callS K X0 e0 (rm3 l Z a0 hw c7 (0 : Int32) j8 0 h0 n0 Z0 hz hh (by rw [own_keep, if_pos ⟨rfl, hc136⟩])) (hw _ (List.mem_of_getElem? (i := 10) rfl)) (hw _ (List.mem_of_getElem? (i := 11) rfl)) (hw _ (List.mem_of_getElem? (i := 12) rfl)) (hw _ (List.mem_of_getElem? (i := 13) rfl)) (by decide) [(.int c7), (.int (0 : Int32)), (.long j8)] [] own_pd0 rfl rfl rfl rfl at_176 (by decide) (Nat.le_of_ble_eq_true rfl) (by decide) (by decide) ?_
    intro T1 L1 v1 X1 hQ1
    obtain ⟨rfl, Nq1, e1⟩ := hQ1
    have N1 := Fr.app N0 Nq1
    show own_Fin p e below _ T1 (mkF m 179 #[.val (.int p1), .val (.int p2), .val (.long p3), .second, .val (.int p4), .val (.int (0 : Int32)), .val (.int i6), .val (.int c7), .val (.long j8), .second, .val (.int (0 : Int32)), .unset] [(.int (0 : Int32))])
    refine own_seg (T' := T1) (g' := (mkF m 181 #[.val (.int p1), .val (.int p2), .val (.long p3), .second, .val (.int p4), .val (.int (0 : Int32)), .val (.int i6), .val (.int c7), .val (.long j8), .second, .val (.int (0 : Int32)), .unset] [(.int (0 : Int32)), (.int (0 : Int32))])) (fun tg kt => ?_) ?_
    · show Steps p.tables e below (T1.setTop (mkF m 179 #[.val (.int p1), .val (.int p2), .val (.long p3), .second, .val (.int p4), .val (.int (0 : Int32)), .val (.int i6), .val (.int c7), .val (.long j8), .second, .val (.int (0 : Int32)), .unset] [(.int (0 : Int32))])) tg
      refine XS.iload X1.here hx rfl (hb hby at_179) rfl ?_
      exact kt
    have hc181 : (0 : Int32) = (0 : Int32) := by decide
    refine own_seg (T' := T1) (g' := (mkF m 184 #[.val (.int p1), .val (.int p2), .val (.long p3), .second, .val (.int p4), .val (.int (0 : Int32)), .val (.int i6), .val (.int c7), .val (.long j8), .second, .val (.int (0 : Int32)), .unset] [])) (fun tg kt => XS.icmpNo X1.here hx rfl (hb hby at_181) rfl (teq hc181).2 kt) ?_
    refine own_seg (T' := T1) (g' := (mkF m 189 #[.val (.int p1), .val (.int p2), .val (.long p3), .second, .val (.int p4), .val (.int (0 : Int32)), .val (.int i6), .val (.int c7), .val (.long j8), .second, .val (.int (0 : Int32)), .unset] [(.int (1 : Int32))])) (fun tg kt => ?_) ?_
    · show Steps p.tables e below (T1.setTop (mkF m 184 #[.val (.int p1), .val (.int p2), .val (.long p3), .second, .val (.int p4), .val (.int (0 : Int32)), .val (.int i6), .val (.int c7), .val (.long j8), .second, .val (.int (0 : Int32)), .unset] [])) tg
      refine XS.iconst X1.here hx rfl (hb hby at_184) ?_
      show Steps p.tables e below (T1.setTop (mkF m 185 #[.val (.int p1), .val (.int p2), .val (.long p3), .second, .val (.int p4), .val (.int (0 : Int32)), .val (.int i6), .val (.int c7), .val (.long j8), .second, .val (.int (0 : Int32)), .unset] [(.int (1 : Int32))])) tg
      refine XS.goto X1.here hx rfl (pc0 := 185) (pc' := 189) rfl (hb hby at_185) (by decide) (by decide) ?_
      exact kt
    exact own_retN K (by simp) X1 at_189 (⟨rfl, N1⟩) (by decide) (by decide)
  · skip
    refine own_seg (T' := T0) (g' := (mkF m 139 #[.val (.int p1), .val (.int p2), .val (.long p3), .second, .val (.int p4), .val (.int (0 : Int32)), .val (.int i6), .val (.int c7), .val (.long j8), .second, .unset, .unset] [])) (fun tg kt => XS.icmpNo X0.here hx rfl (hb hby at_136) rfl (flt hc136).2.2.1 kt) ?_
    refine own_seg (T' := T0) (g' := (mkF m 143 #[.val (.int p1), .val (.int p2), .val (.long p3), .second, .val (.int p4), .val (.int (0 : Int32)), .val (.int i6), .val (.int c7), .val (.long j8), .second, .unset, .unset] [(.int (46340 : Int32)), (.int c7)])) (fun tg kt => ?_) ?_
    · show Steps p.tables e below (T0.setTop (mkF m 139 #[.val (.int p1), .val (.int p2), .val (.long p3), .second, .val (.int p4), .val (.int (0 : Int32)), .val (.int i6), .val (.int c7), .val (.long j8), .second, .unset, .unset] [])) tg
      refine XS.iload X0.here hx rfl (hb hby at_139) rfl ?_
      show Steps p.tables e below (T0.setTop (mkF m 141 #[.val (.int p1), .val (.int p2), .val (.long p3), .second, .val (.int p4), .val (.int (0 : Int32)), .val (.int i6), .val (.int c7), .val (.long j8), .second, .unset, .unset] [(.int c7)])) tg
      refine X0.ldcInt hx hown (mvT hZ (hw _ (List.mem_of_getElem? (i := 9) rfl))) (g := (mkF m 141 #[.val (.int p1), .val (.int p2), .val (.long p3), .second, .val (.int p4), .val (.int (0 : Int32)), .val (.int i6), .val (.int c7), .val (.long j8), .second, .unset, .unset] [(.int c7)])) rfl (hb hby at_141) _ ?_
      exact kt
    by_cases hc143 : (46340 : Int32) < c7
    · skip
      refine own_seg (T' := T0) (g' := (mkF m 167 #[.val (.int p1), .val (.int p2), .val (.long p3), .second, .val (.int p4), .val (.int (0 : Int32)), .val (.int i6), .val (.int c7), .val (.long j8), .second, .unset, .unset] [])) (fun tg kt => XS.icmpYes X0.here hx rfl (pc0 := 143) (pc' := 167) rfl (hb hby at_143) rfl (tlt hc143).2.2.1 (by decide) (by decide) kt) ?_
      refine own_seg (T' := T0) (g' := (mkF m 176 #[.val (.int p1), .val (.int p2), .val (.long p3), .second, .val (.int p4), .val (.int (0 : Int32)), .val (.int i6), .val (.int c7), .val (.long j8), .second, .val (.int (0 : Int32)), .unset] [(.long j8), (.int (0 : Int32)), (.int c7)])) (fun tg kt => ?_) ?_
      · show Steps p.tables e below (T0.setTop (mkF m 167 #[.val (.int p1), .val (.int p2), .val (.long p3), .second, .val (.int p4), .val (.int (0 : Int32)), .val (.int i6), .val (.int c7), .val (.long j8), .second, .unset, .unset] [])) tg
        refine XS.iconst X0.here hx rfl (hb hby at_167) ?_
        show Steps p.tables e below (T0.setTop (mkF m 168 #[.val (.int p1), .val (.int p2), .val (.long p3), .second, .val (.int p4), .val (.int (0 : Int32)), .val (.int i6), .val (.int c7), .val (.long j8), .second, .unset, .unset] [(.int (0 : Int32))])) tg
        refine XS.istore X0.here hx rfl (hb hby at_168) rfl (l' := #[.val (.int p1), .val (.int p2), .val (.long p3), .second, .val (.int p4), .val (.int (0 : Int32)), .val (.int i6), .val (.int c7), .val (.long j8), .second, .val (.int (0 : Int32)), .unset]) rfl ?_
        show Steps p.tables e below (T0.setTop (mkF m 170 #[.val (.int p1), .val (.int p2), .val (.long p3), .second, .val (.int p4), .val (.int (0 : Int32)), .val (.int i6), .val (.int c7), .val (.long j8), .second, .val (.int (0 : Int32)), .unset] [])) tg
        refine XS.iload X0.here hx rfl (hb hby at_170) rfl ?_
        show Steps p.tables e below (T0.setTop (mkF m 172 #[.val (.int p1), .val (.int p2), .val (.long p3), .second, .val (.int p4), .val (.int (0 : Int32)), .val (.int i6), .val (.int c7), .val (.long j8), .second, .val (.int (0 : Int32)), .unset] [(.int c7)])) tg
        refine XS.iload X0.here hx rfl (hb hby at_172) rfl ?_
        show Steps p.tables e below (T0.setTop (mkF m 174 #[.val (.int p1), .val (.int p2), .val (.long p3), .second, .val (.int p4), .val (.int (0 : Int32)), .val (.int i6), .val (.int c7), .val (.long j8), .second, .val (.int (0 : Int32)), .unset] [(.int (0 : Int32)), (.int c7)])) tg
        refine XS.lload X0.here hx rfl (hb hby at_174) rfl ?_
        exact kt
      refine own_callS K X0 e0 (rm3 l Z a0 hw c7 (0 : Int32) j8 0 h0 n0 Z0 hz hh (by rw [own_keep, if_neg (fun q_ => hc136 q_.2), if_pos hc143])) (hw _ (List.mem_of_getElem? (i := 10) rfl)) (hw _ (List.mem_of_getElem? (i := 11) rfl)) (hw _ (List.mem_of_getElem? (i := 12) rfl)) (hw _ (List.mem_of_getElem? (i := 13) rfl)) (by decide) [(.int c7), (.int (0 : Int32)), (.long j8)] [] own_pd0 rfl rfl rfl rfl at_176 (by decide) (Nat.le_of_ble_eq_true rfl) (by decide) (by decide) ?_
      intro T2 L2 v2 X2 hQ2
      obtain ⟨rfl, Nq2, e2⟩ := hQ2
      have N2 := Fr.app N0 Nq2
      show own_Fin p e below _ T2 (mkF m 179 #[.val (.int p1), .val (.int p2), .val (.long p3), .second, .val (.int p4), .val (.int (0 : Int32)), .val (.int i6), .val (.int c7), .val (.long j8), .second, .val (.int (0 : Int32)), .unset] [(.int (0 : Int32))])
      refine own_seg (T' := T2) (g' := (mkF m 181 #[.val (.int p1), .val (.int p2), .val (.long p3), .second, .val (.int p4), .val (.int (0 : Int32)), .val (.int i6), .val (.int c7), .val (.long j8), .second, .val (.int (0 : Int32)), .unset] [(.int (0 : Int32)), (.int (0 : Int32))])) (fun tg kt => ?_) ?_
      · show Steps p.tables e below (T2.setTop (mkF m 179 #[.val (.int p1), .val (.int p2), .val (.long p3), .second, .val (.int p4), .val (.int (0 : Int32)), .val (.int i6), .val (.int c7), .val (.long j8), .second, .val (.int (0 : Int32)), .unset] [(.int (0 : Int32))])) tg
        refine XS.iload X2.here hx rfl (hb hby at_179) rfl ?_
        exact kt
      have hc181 : (0 : Int32) = (0 : Int32) := by decide
      refine own_seg (T' := T2) (g' := (mkF m 184 #[.val (.int p1), .val (.int p2), .val (.long p3), .second, .val (.int p4), .val (.int (0 : Int32)), .val (.int i6), .val (.int c7), .val (.long j8), .second, .val (.int (0 : Int32)), .unset] [])) (fun tg kt => XS.icmpNo X2.here hx rfl (hb hby at_181) rfl (teq hc181).2 kt) ?_
      refine own_seg (T' := T2) (g' := (mkF m 189 #[.val (.int p1), .val (.int p2), .val (.long p3), .second, .val (.int p4), .val (.int (0 : Int32)), .val (.int i6), .val (.int c7), .val (.long j8), .second, .val (.int (0 : Int32)), .unset] [(.int (1 : Int32))])) (fun tg kt => ?_) ?_
      · show Steps p.tables e below (T2.setTop (mkF m 184 #[.val (.int p1), .val (.int p2), .val (.long p3), .second, .val (.int p4), .val (.int (0 : Int32)), .val (.int i6), .val (.int c7), .val (.long j8), .second, .val (.int (0 : Int32)), .unset] [])) tg
        refine XS.iconst X2.here hx rfl (hb hby at_184) ?_
        show Steps p.tables e below (T2.setTop (mkF m 185 #[.val (.int p1), .val (.int p2), .val (.long p3), .second, .val (.int p4), .val (.int (0 : Int32)), .val (.int i6), .val (.int c7), .val (.long j8), .second, .val (.int (0 : Int32)), .unset] [(.int (1 : Int32))])) tg
        refine XS.goto X2.here hx rfl (pc0 := 185) (pc' := 189) rfl (hb hby at_185) (by decide) (by decide) ?_
        exact kt
      exact own_retN K (by simp) X2 at_189 (⟨rfl, N2⟩) (by decide) (by decide)
    · skip
      refine own_seg (T' := T0) (g' := (mkF m 146 #[.val (.int p1), .val (.int p2), .val (.long p3), .second, .val (.int p4), .val (.int (0 : Int32)), .val (.int i6), .val (.int c7), .val (.long j8), .second, .unset, .unset] [])) (fun tg kt => XS.icmpNo X0.here hx rfl (hb hby at_143) rfl (flt hc143).2.2.1 kt) ?_
      refine own_seg (T' := T0) (g' := (mkF m 160 #[.val (.int p1), .val (.int p2), .val (.long p3), .second, .val (.int p4), .val (.int (0 : Int32)), .val (.int i6), .val (.int c7), .val (.long j8), .second, .unset, .unset] [(.int (lcmpW (((32 : Int64) * (c7.toInt64)) * (c7.toInt64)) j8))])) (fun tg kt => ?_) ?_
      · show Steps p.tables e below (T0.setTop (mkF m 146 #[.val (.int p1), .val (.int p2), .val (.long p3), .second, .val (.int p4), .val (.int (0 : Int32)), .val (.int i6), .val (.int c7), .val (.long j8), .second, .unset, .unset] [])) tg
        refine X0.ldc2Long hx hown (mvT hZ (hw _ (List.mem_of_getElem? (i := 5) rfl))) (g := (mkF m 146 #[.val (.int p1), .val (.int p2), .val (.long p3), .second, .val (.int p4), .val (.int (0 : Int32)), .val (.int i6), .val (.int c7), .val (.long j8), .second, .unset, .unset] [])) rfl (hb hby at_146) _ ?_
        show Steps p.tables e below (T0.setTop (mkF m 149 #[.val (.int p1), .val (.int p2), .val (.long p3), .second, .val (.int p4), .val (.int (0 : Int32)), .val (.int i6), .val (.int c7), .val (.long j8), .second, .unset, .unset] [(.long (32 : Int64))])) tg
        refine XS.iload X0.here hx rfl (hb hby at_149) rfl ?_
        show Steps p.tables e below (T0.setTop (mkF m 151 #[.val (.int p1), .val (.int p2), .val (.long p3), .second, .val (.int p4), .val (.int (0 : Int32)), .val (.int i6), .val (.int c7), .val (.long j8), .second, .unset, .unset] [(.int c7), (.long (32 : Int64))])) tg
        refine XS.i2l X0.here hx rfl (hb hby at_151) rfl ?_
        show Steps p.tables e below (T0.setTop (mkF m 152 #[.val (.int p1), .val (.int p2), .val (.long p3), .second, .val (.int p4), .val (.int (0 : Int32)), .val (.int i6), .val (.int c7), .val (.long j8), .second, .unset, .unset] [(.long (c7.toInt64)), (.long (32 : Int64))])) tg
        refine XS.lmul X0.here hx rfl (hb hby at_152) rfl ?_
        show Steps p.tables e below (T0.setTop (mkF m 153 #[.val (.int p1), .val (.int p2), .val (.long p3), .second, .val (.int p4), .val (.int (0 : Int32)), .val (.int i6), .val (.int c7), .val (.long j8), .second, .unset, .unset] [(.long ((32 : Int64) * (c7.toInt64)))])) tg
        refine XS.iload X0.here hx rfl (hb hby at_153) rfl ?_
        show Steps p.tables e below (T0.setTop (mkF m 155 #[.val (.int p1), .val (.int p2), .val (.long p3), .second, .val (.int p4), .val (.int (0 : Int32)), .val (.int i6), .val (.int c7), .val (.long j8), .second, .unset, .unset] [(.int c7), (.long ((32 : Int64) * (c7.toInt64)))])) tg
        refine XS.i2l X0.here hx rfl (hb hby at_155) rfl ?_
        show Steps p.tables e below (T0.setTop (mkF m 156 #[.val (.int p1), .val (.int p2), .val (.long p3), .second, .val (.int p4), .val (.int (0 : Int32)), .val (.int i6), .val (.int c7), .val (.long j8), .second, .unset, .unset] [(.long (c7.toInt64)), (.long ((32 : Int64) * (c7.toInt64)))])) tg
        refine XS.lmul X0.here hx rfl (hb hby at_156) rfl ?_
        show Steps p.tables e below (T0.setTop (mkF m 157 #[.val (.int p1), .val (.int p2), .val (.long p3), .second, .val (.int p4), .val (.int (0 : Int32)), .val (.int i6), .val (.int c7), .val (.long j8), .second, .unset, .unset] [(.long (((32 : Int64) * (c7.toInt64)) * (c7.toInt64)))])) tg
        refine XS.lload X0.here hx rfl (hb hby at_157) rfl ?_
        show Steps p.tables e below (T0.setTop (mkF m 159 #[.val (.int p1), .val (.int p2), .val (.long p3), .second, .val (.int p4), .val (.int (0 : Int32)), .val (.int i6), .val (.int c7), .val (.long j8), .second, .unset, .unset] [(.long j8), (.long (((32 : Int64) * (c7.toInt64)) * (c7.toInt64)))])) tg
        refine XS.lcmp X0.here hx rfl (hb hby at_159) rfl ?_
        exact kt
      by_cases hc160 : j8 < (((32 : Int64) * (c7.toInt64)) * (c7.toInt64))
      · skip
        refine own_seg (T' := T0) (g' := (mkF m 167 #[.val (.int p1), .val (.int p2), .val (.long p3), .second, .val (.int p4), .val (.int (0 : Int32)), .val (.int i6), .val (.int c7), .val (.long j8), .second, .unset, .unset] [])) (fun tg kt => XS.ifYes X0.here hx rfl (pc0 := 160) (pc' := 167) rfl (hb hby at_160) rfl ((if0 _ _).trans (tlt ((lw_gt _ _).mpr hc160)).2.2.1) (by decide) (by decide) kt) ?_
        refine own_seg (T' := T0) (g' := (mkF m 176 #[.val (.int p1), .val (.int p2), .val (.long p3), .second, .val (.int p4), .val (.int (0 : Int32)), .val (.int i6), .val (.int c7), .val (.long j8), .second, .val (.int (0 : Int32)), .unset] [(.long j8), (.int (0 : Int32)), (.int c7)])) (fun tg kt => ?_) ?_
        · show Steps p.tables e below (T0.setTop (mkF m 167 #[.val (.int p1), .val (.int p2), .val (.long p3), .second, .val (.int p4), .val (.int (0 : Int32)), .val (.int i6), .val (.int c7), .val (.long j8), .second, .unset, .unset] [])) tg
          refine XS.iconst X0.here hx rfl (hb hby at_167) ?_
          show Steps p.tables e below (T0.setTop (mkF m 168 #[.val (.int p1), .val (.int p2), .val (.long p3), .second, .val (.int p4), .val (.int (0 : Int32)), .val (.int i6), .val (.int c7), .val (.long j8), .second, .unset, .unset] [(.int (0 : Int32))])) tg
          refine XS.istore X0.here hx rfl (hb hby at_168) rfl (l' := #[.val (.int p1), .val (.int p2), .val (.long p3), .second, .val (.int p4), .val (.int (0 : Int32)), .val (.int i6), .val (.int c7), .val (.long j8), .second, .val (.int (0 : Int32)), .unset]) rfl ?_
          show Steps p.tables e below (T0.setTop (mkF m 170 #[.val (.int p1), .val (.int p2), .val (.long p3), .second, .val (.int p4), .val (.int (0 : Int32)), .val (.int i6), .val (.int c7), .val (.long j8), .second, .val (.int (0 : Int32)), .unset] [])) tg
          refine XS.iload X0.here hx rfl (hb hby at_170) rfl ?_
          show Steps p.tables e below (T0.setTop (mkF m 172 #[.val (.int p1), .val (.int p2), .val (.long p3), .second, .val (.int p4), .val (.int (0 : Int32)), .val (.int i6), .val (.int c7), .val (.long j8), .second, .val (.int (0 : Int32)), .unset] [(.int c7)])) tg
          refine XS.iload X0.here hx rfl (hb hby at_172) rfl ?_
          show Steps p.tables e below (T0.setTop (mkF m 174 #[.val (.int p1), .val (.int p2), .val (.long p3), .second, .val (.int p4), .val (.int (0 : Int32)), .val (.int i6), .val (.int c7), .val (.long j8), .second, .val (.int (0 : Int32)), .unset] [(.int (0 : Int32)), (.int c7)])) tg
          refine XS.lload X0.here hx rfl (hb hby at_174) rfl ?_
          exact kt
        refine own_callS K X0 e0 (rm3 l Z a0 hw c7 (0 : Int32) j8 0 h0 n0 Z0 hz hh (by rw [own_keep, if_neg (fun q_ => hc136 q_.2), if_neg hc143, if_pos hc160])) (hw _ (List.mem_of_getElem? (i := 10) rfl)) (hw _ (List.mem_of_getElem? (i := 11) rfl)) (hw _ (List.mem_of_getElem? (i := 12) rfl)) (hw _ (List.mem_of_getElem? (i := 13) rfl)) (by decide) [(.int c7), (.int (0 : Int32)), (.long j8)] [] own_pd0 rfl rfl rfl rfl at_176 (by decide) (Nat.le_of_ble_eq_true rfl) (by decide) (by decide) ?_
        intro T3 L3 v3 X3 hQ3
        obtain ⟨rfl, Nq3, e3⟩ := hQ3
        have N3 := Fr.app N0 Nq3
        show own_Fin p e below _ T3 (mkF m 179 #[.val (.int p1), .val (.int p2), .val (.long p3), .second, .val (.int p4), .val (.int (0 : Int32)), .val (.int i6), .val (.int c7), .val (.long j8), .second, .val (.int (0 : Int32)), .unset] [(.int (0 : Int32))])
        refine own_seg (T' := T3) (g' := (mkF m 181 #[.val (.int p1), .val (.int p2), .val (.long p3), .second, .val (.int p4), .val (.int (0 : Int32)), .val (.int i6), .val (.int c7), .val (.long j8), .second, .val (.int (0 : Int32)), .unset] [(.int (0 : Int32)), (.int (0 : Int32))])) (fun tg kt => ?_) ?_
        · show Steps p.tables e below (T3.setTop (mkF m 179 #[.val (.int p1), .val (.int p2), .val (.long p3), .second, .val (.int p4), .val (.int (0 : Int32)), .val (.int i6), .val (.int c7), .val (.long j8), .second, .val (.int (0 : Int32)), .unset] [(.int (0 : Int32))])) tg
          refine XS.iload X3.here hx rfl (hb hby at_179) rfl ?_
          exact kt
        have hc181 : (0 : Int32) = (0 : Int32) := by decide
        refine own_seg (T' := T3) (g' := (mkF m 184 #[.val (.int p1), .val (.int p2), .val (.long p3), .second, .val (.int p4), .val (.int (0 : Int32)), .val (.int i6), .val (.int c7), .val (.long j8), .second, .val (.int (0 : Int32)), .unset] [])) (fun tg kt => XS.icmpNo X3.here hx rfl (hb hby at_181) rfl (teq hc181).2 kt) ?_
        refine own_seg (T' := T3) (g' := (mkF m 189 #[.val (.int p1), .val (.int p2), .val (.long p3), .second, .val (.int p4), .val (.int (0 : Int32)), .val (.int i6), .val (.int c7), .val (.long j8), .second, .val (.int (0 : Int32)), .unset] [(.int (1 : Int32))])) (fun tg kt => ?_) ?_
        · show Steps p.tables e below (T3.setTop (mkF m 184 #[.val (.int p1), .val (.int p2), .val (.long p3), .second, .val (.int p4), .val (.int (0 : Int32)), .val (.int i6), .val (.int c7), .val (.long j8), .second, .val (.int (0 : Int32)), .unset] [])) tg
          refine XS.iconst X3.here hx rfl (hb hby at_184) ?_
          show Steps p.tables e below (T3.setTop (mkF m 185 #[.val (.int p1), .val (.int p2), .val (.long p3), .second, .val (.int p4), .val (.int (0 : Int32)), .val (.int i6), .val (.int c7), .val (.long j8), .second, .val (.int (0 : Int32)), .unset] [(.int (1 : Int32))])) tg
          refine XS.goto X3.here hx rfl (pc0 := 185) (pc' := 189) rfl (hb hby at_185) (by decide) (by decide) ?_
          exact kt
        exact own_retN K (by simp) X3 at_189 (⟨rfl, N3⟩) (by decide) (by decide)
      · skip
        refine own_seg (T' := T0) (g' := (mkF m 163 #[.val (.int p1), .val (.int p2), .val (.long p3), .second, .val (.int p4), .val (.int (0 : Int32)), .val (.int i6), .val (.int c7), .val (.long j8), .second, .unset, .unset] [])) (fun tg kt => XS.ifNo X0.here hx rfl (hb hby at_160) rfl ((if0 _ _).trans (flt (fun q_ => hc160 ((lw_gt _ _).mp q_))).2.2.1) kt) ?_
        refine own_seg (T' := T0) (g' := (mkF m 176 #[.val (.int p1), .val (.int p2), .val (.long p3), .second, .val (.int p4), .val (.int (0 : Int32)), .val (.int i6), .val (.int c7), .val (.long j8), .second, .val (.int (1 : Int32)), .unset] [(.long j8), (.int (0 : Int32)), (.int c7)])) (fun tg kt => ?_) ?_
        · show Steps p.tables e below (T0.setTop (mkF m 163 #[.val (.int p1), .val (.int p2), .val (.long p3), .second, .val (.int p4), .val (.int (0 : Int32)), .val (.int i6), .val (.int c7), .val (.long j8), .second, .unset, .unset] [])) tg
          refine XS.iconst X0.here hx rfl (hb hby at_163) ?_
          show Steps p.tables e below (T0.setTop (mkF m 164 #[.val (.int p1), .val (.int p2), .val (.long p3), .second, .val (.int p4), .val (.int (0 : Int32)), .val (.int i6), .val (.int c7), .val (.long j8), .second, .unset, .unset] [(.int (1 : Int32))])) tg
          refine XS.goto X0.here hx rfl (pc0 := 164) (pc' := 168) rfl (hb hby at_164) (by decide) (by decide) ?_
          show Steps p.tables e below (T0.setTop (mkF m 168 #[.val (.int p1), .val (.int p2), .val (.long p3), .second, .val (.int p4), .val (.int (0 : Int32)), .val (.int i6), .val (.int c7), .val (.long j8), .second, .unset, .unset] [(.int (1 : Int32))])) tg
          refine XS.istore X0.here hx rfl (hb hby at_168) rfl (l' := #[.val (.int p1), .val (.int p2), .val (.long p3), .second, .val (.int p4), .val (.int (0 : Int32)), .val (.int i6), .val (.int c7), .val (.long j8), .second, .val (.int (1 : Int32)), .unset]) rfl ?_
          show Steps p.tables e below (T0.setTop (mkF m 170 #[.val (.int p1), .val (.int p2), .val (.long p3), .second, .val (.int p4), .val (.int (0 : Int32)), .val (.int i6), .val (.int c7), .val (.long j8), .second, .val (.int (1 : Int32)), .unset] [])) tg
          refine XS.iload X0.here hx rfl (hb hby at_170) rfl ?_
          show Steps p.tables e below (T0.setTop (mkF m 172 #[.val (.int p1), .val (.int p2), .val (.long p3), .second, .val (.int p4), .val (.int (0 : Int32)), .val (.int i6), .val (.int c7), .val (.long j8), .second, .val (.int (1 : Int32)), .unset] [(.int c7)])) tg
          refine XS.iload X0.here hx rfl (hb hby at_172) rfl ?_
          show Steps p.tables e below (T0.setTop (mkF m 174 #[.val (.int p1), .val (.int p2), .val (.long p3), .second, .val (.int p4), .val (.int (0 : Int32)), .val (.int i6), .val (.int c7), .val (.long j8), .second, .val (.int (1 : Int32)), .unset] [(.int (0 : Int32)), (.int c7)])) tg
          refine XS.lload X0.here hx rfl (hb hby at_174) rfl ?_
          exact kt
        refine own_callS K X0 e0 (rm3 l Z a0 hw c7 (0 : Int32) j8 1 h0 n0 Z0 hz hh (by rw [own_keep, if_neg (fun q_ => hc136 q_.2), if_neg hc143, if_neg hc160])) (hw _ (List.mem_of_getElem? (i := 10) rfl)) (hw _ (List.mem_of_getElem? (i := 11) rfl)) (hw _ (List.mem_of_getElem? (i := 12) rfl)) (hw _ (List.mem_of_getElem? (i := 13) rfl)) (by decide) [(.int c7), (.int (0 : Int32)), (.long j8)] [] own_pd0 rfl rfl rfl rfl at_176 (by decide) (Nat.le_of_ble_eq_true rfl) (by decide) (by decide) ?_
        intro T4 L4 v4 X4 hQ4
        obtain ⟨rfl, Nq4, e4⟩ := hQ4
        have N4 := Fr.app N0 Nq4
        show own_Fin p e below _ T4 (mkF m 179 #[.val (.int p1), .val (.int p2), .val (.long p3), .second, .val (.int p4), .val (.int (0 : Int32)), .val (.int i6), .val (.int c7), .val (.long j8), .second, .val (.int (1 : Int32)), .unset] [(.int (1 : Int32))])
        refine own_seg (T' := T4) (g' := (mkF m 181 #[.val (.int p1), .val (.int p2), .val (.long p3), .second, .val (.int p4), .val (.int (0 : Int32)), .val (.int i6), .val (.int c7), .val (.long j8), .second, .val (.int (1 : Int32)), .unset] [(.int (1 : Int32)), (.int (1 : Int32))])) (fun tg kt => ?_) ?_
        · show Steps p.tables e below (T4.setTop (mkF m 179 #[.val (.int p1), .val (.int p2), .val (.long p3), .second, .val (.int p4), .val (.int (0 : Int32)), .val (.int i6), .val (.int c7), .val (.long j8), .second, .val (.int (1 : Int32)), .unset] [(.int (1 : Int32))])) tg
          refine XS.iload X4.here hx rfl (hb hby at_179) rfl ?_
          exact kt
        have hc181 : (1 : Int32) = (1 : Int32) := by decide
        refine own_seg (T' := T4) (g' := (mkF m 184 #[.val (.int p1), .val (.int p2), .val (.long p3), .second, .val (.int p4), .val (.int (0 : Int32)), .val (.int i6), .val (.int c7), .val (.long j8), .second, .val (.int (1 : Int32)), .unset] [])) (fun tg kt => XS.icmpNo X4.here hx rfl (hb hby at_181) rfl (teq hc181).2 kt) ?_
        refine own_seg (T' := T4) (g' := (mkF m 189 #[.val (.int p1), .val (.int p2), .val (.long p3), .second, .val (.int p4), .val (.int (0 : Int32)), .val (.int i6), .val (.int c7), .val (.long j8), .second, .val (.int (1 : Int32)), .unset] [(.int (1 : Int32))])) (fun tg kt => ?_) ?_
        · show Steps p.tables e below (T4.setTop (mkF m 184 #[.val (.int p1), .val (.int p2), .val (.long p3), .second, .val (.int p4), .val (.int (0 : Int32)), .val (.int i6), .val (.int c7), .val (.long j8), .second, .val (.int (1 : Int32)), .unset] [])) tg
          refine XS.iconst X4.here hx rfl (hb hby at_184) ?_
          show Steps p.tables e below (T4.setTop (mkF m 185 #[.val (.int p1), .val (.int p2), .val (.long p3), .second, .val (.int p4), .val (.int (0 : Int32)), .val (.int i6), .val (.int c7), .val (.long j8), .second, .val (.int (1 : Int32)), .unset] [(.int (1 : Int32))])) tg
          refine XS.goto X4.here hx rfl (pc0 := 185) (pc' := 189) rfl (hb hby at_185) (by decide) (by decide) ?_
          exact kt
        exact own_retN K (by simp) X4 at_189 (⟨rfl, N4⟩) (by decide) (by decide)
set_option maxRecDepth 65536 in
set_option maxHeartbeats 40000000 in
theorem sg0_126b0 {p : Program} {l : Launch} {e : Env} {s : State} {m : MethodId} {args : Array Value} {below : List Frame} {meth : Method} {c : Code} {T0 : State} {locs : List Loc} {Z : State} {a0 : Array Value} {h0 : Heap} {n0 : Nat} (hw : ∀ d ∈ tables_1, d.before a0 Z = true) (p1 p2 : Int32) (p3 : Int64) (p4 i6 c7 : Int32) (j8 j10 : Int64)
    (K : own_Ctx p Z s m meth c "com/example/murmuration/murmuration/LegTableIsWorthKeepingPinLaw" code maxLocals ret "law") (X0 : Stand p l e room_1 s m args below meth c T0 locs 0 0) (e0 : T0.heap = h0) (N0 : Fr n0 locs) (Z0 : n0 ≤ h0.size) (hz : ¬ c7 < 0) (hh : ¬ j8 < 0) :
    own_Fin p e below (own_P s room_1 (own_Q1 n0)) T0 (mkF m 126 #[.val (.int p1), .val (.int p2), .val (.long p3), .second, .val (.int p4), .val (.int (0 : Int32)), .val (.int i6), .val (.int c7), .val (.long j8), .second, .val (.long j10), .second] []) := by
  have hx := K.1
  have hZ := K.2.1
  have hby := K.2.2.1
  have hown := K.2.2.2.2.1
  refine own_seg (T' := T0) (g' := (mkF m 128 #[.val (.int p1), .val (.int p2), .val (.long p3), .second, .val (.int p4), .val (.int (0 : Int32)), .val (.int i6), .val (.int c7), .val (.long j8), .second, .val (.long j10), .second] [(.int (0 : Int32))])) (fun tg kt => ?_) ?_
  · show Steps p.tables e below (T0.setTop (mkF m 126 #[.val (.int p1), .val (.int p2), .val (.long p3), .second, .val (.int p4), .val (.int (0 : Int32)), .val (.int i6), .val (.int c7), .val (.long j8), .second, .val (.long j10), .second] [])) tg
    refine XS.iload X0.here hx rfl (hb hby at_126) rfl ?_
    exact kt
  have hc128 : (0 : Int32) = (0 : Int32) := by decide
  refine own_seg (T' := T0) (g' := (mkF m 131 #[.val (.int p1), .val (.int p2), .val (.long p3), .second, .val (.int p4), .val (.int (0 : Int32)), .val (.int i6), .val (.int c7), .val (.long j8), .second, .val (.long j10), .second] [])) (fun tg kt => XS.ifNo X0.here hx rfl (hb hby at_128) rfl ((if0 _ _).trans (teq hc128).2) kt) ?_
  refine own_seg (T' := T0) (g' := (mkF m 136 #[.val (.int p1), .val (.int p2), .val (.long p3), .second, .val (.int p4), .val (.int (0 : Int32)), .val (.int i6), .val (.int c7), .val (.long j8), .second, .val (.long j10), .second] [(.int (1024 : Int32)), (.int c7)])) (fun tg kt => ?_) ?_
  · show Steps p.tables e below (T0.setTop (mkF m 131 #[.val (.int p1), .val (.int p2), .val (.long p3), .second, .val (.int p4), .val (.int (0 : Int32)), .val (.int i6), .val (.int c7), .val (.long j8), .second, .val (.long j10), .second] [])) tg
    refine XS.iload X0.here hx rfl (hb hby at_131) rfl ?_
    show Steps p.tables e below (T0.setTop (mkF m 133 #[.val (.int p1), .val (.int p2), .val (.long p3), .second, .val (.int p4), .val (.int (0 : Int32)), .val (.int i6), .val (.int c7), .val (.long j8), .second, .val (.long j10), .second] [(.int c7)])) tg
    refine XS.sipush X0.here hx rfl (hb hby at_133) ?_
    exact kt
  by_cases hc136 : (1024 : Int32) < c7
  · skip
    refine own_seg (T' := T0) (g' := (mkF m 167 #[.val (.int p1), .val (.int p2), .val (.long p3), .second, .val (.int p4), .val (.int (0 : Int32)), .val (.int i6), .val (.int c7), .val (.long j8), .second, .val (.long j10), .second] [])) (fun tg kt => XS.icmpYes X0.here hx rfl (pc0 := 136) (pc' := 167) rfl (hb hby at_136) rfl (tlt hc136).2.2.1 (by decide) (by decide) kt) ?_
    refine own_seg (T' := T0) (g' := (mkF m 176 #[.val (.int p1), .val (.int p2), .val (.long p3), .second, .val (.int p4), .val (.int (0 : Int32)), .val (.int i6), .val (.int c7), .val (.long j8), .second, .val (.int (0 : Int32)), .unset] [(.long j8), (.int (0 : Int32)), (.int c7)])) (fun tg kt => ?_) ?_
    · show Steps p.tables e below (T0.setTop (mkF m 167 #[.val (.int p1), .val (.int p2), .val (.long p3), .second, .val (.int p4), .val (.int (0 : Int32)), .val (.int i6), .val (.int c7), .val (.long j8), .second, .val (.long j10), .second] [])) tg
      refine XS.iconst X0.here hx rfl (hb hby at_167) ?_
      show Steps p.tables e below (T0.setTop (mkF m 168 #[.val (.int p1), .val (.int p2), .val (.long p3), .second, .val (.int p4), .val (.int (0 : Int32)), .val (.int i6), .val (.int c7), .val (.long j8), .second, .val (.long j10), .second] [(.int (0 : Int32))])) tg
      refine XS.istore X0.here hx rfl (hb hby at_168) rfl (l' := #[.val (.int p1), .val (.int p2), .val (.long p3), .second, .val (.int p4), .val (.int (0 : Int32)), .val (.int i6), .val (.int c7), .val (.long j8), .second, .val (.int (0 : Int32)), .unset]) rfl ?_
      show Steps p.tables e below (T0.setTop (mkF m 170 #[.val (.int p1), .val (.int p2), .val (.long p3), .second, .val (.int p4), .val (.int (0 : Int32)), .val (.int i6), .val (.int c7), .val (.long j8), .second, .val (.int (0 : Int32)), .unset] [])) tg
      refine XS.iload X0.here hx rfl (hb hby at_170) rfl ?_
      show Steps p.tables e below (T0.setTop (mkF m 172 #[.val (.int p1), .val (.int p2), .val (.long p3), .second, .val (.int p4), .val (.int (0 : Int32)), .val (.int i6), .val (.int c7), .val (.long j8), .second, .val (.int (0 : Int32)), .unset] [(.int c7)])) tg
      refine XS.iload X0.here hx rfl (hb hby at_172) rfl ?_
      show Steps p.tables e below (T0.setTop (mkF m 174 #[.val (.int p1), .val (.int p2), .val (.long p3), .second, .val (.int p4), .val (.int (0 : Int32)), .val (.int i6), .val (.int c7), .val (.long j8), .second, .val (.int (0 : Int32)), .unset] [(.int (0 : Int32)), (.int c7)])) tg
      refine XS.lload X0.here hx rfl (hb hby at_174) rfl ?_
      exact kt
    refine own_callS K X0 e0 (rm3 l Z a0 hw c7 (0 : Int32) j8 0 h0 n0 Z0 hz hh (by rw [own_keep, if_pos ⟨rfl, hc136⟩])) (hw _ (List.mem_of_getElem? (i := 10) rfl)) (hw _ (List.mem_of_getElem? (i := 11) rfl)) (hw _ (List.mem_of_getElem? (i := 12) rfl)) (hw _ (List.mem_of_getElem? (i := 13) rfl)) (by decide) [(.int c7), (.int (0 : Int32)), (.long j8)] [] own_pd0 rfl rfl rfl rfl at_176 (by decide) (Nat.le_of_ble_eq_true rfl) (by decide) (by decide) ?_
    intro T1 L1 v1 X1 hQ1
    obtain ⟨rfl, Nq1, e1⟩ := hQ1
    have N1 := Fr.app N0 Nq1
    show own_Fin p e below _ T1 (mkF m 179 #[.val (.int p1), .val (.int p2), .val (.long p3), .second, .val (.int p4), .val (.int (0 : Int32)), .val (.int i6), .val (.int c7), .val (.long j8), .second, .val (.int (0 : Int32)), .unset] [(.int (0 : Int32))])
    refine own_seg (T' := T1) (g' := (mkF m 181 #[.val (.int p1), .val (.int p2), .val (.long p3), .second, .val (.int p4), .val (.int (0 : Int32)), .val (.int i6), .val (.int c7), .val (.long j8), .second, .val (.int (0 : Int32)), .unset] [(.int (0 : Int32)), (.int (0 : Int32))])) (fun tg kt => ?_) ?_
    · show Steps p.tables e below (T1.setTop (mkF m 179 #[.val (.int p1), .val (.int p2), .val (.long p3), .second, .val (.int p4), .val (.int (0 : Int32)), .val (.int i6), .val (.int c7), .val (.long j8), .second, .val (.int (0 : Int32)), .unset] [(.int (0 : Int32))])) tg
      refine XS.iload X1.here hx rfl (hb hby at_179) rfl ?_
      exact kt
    have hc181 : (0 : Int32) = (0 : Int32) := by decide
    refine own_seg (T' := T1) (g' := (mkF m 184 #[.val (.int p1), .val (.int p2), .val (.long p3), .second, .val (.int p4), .val (.int (0 : Int32)), .val (.int i6), .val (.int c7), .val (.long j8), .second, .val (.int (0 : Int32)), .unset] [])) (fun tg kt => XS.icmpNo X1.here hx rfl (hb hby at_181) rfl (teq hc181).2 kt) ?_
    refine own_seg (T' := T1) (g' := (mkF m 189 #[.val (.int p1), .val (.int p2), .val (.long p3), .second, .val (.int p4), .val (.int (0 : Int32)), .val (.int i6), .val (.int c7), .val (.long j8), .second, .val (.int (0 : Int32)), .unset] [(.int (1 : Int32))])) (fun tg kt => ?_) ?_
    · show Steps p.tables e below (T1.setTop (mkF m 184 #[.val (.int p1), .val (.int p2), .val (.long p3), .second, .val (.int p4), .val (.int (0 : Int32)), .val (.int i6), .val (.int c7), .val (.long j8), .second, .val (.int (0 : Int32)), .unset] [])) tg
      refine XS.iconst X1.here hx rfl (hb hby at_184) ?_
      show Steps p.tables e below (T1.setTop (mkF m 185 #[.val (.int p1), .val (.int p2), .val (.long p3), .second, .val (.int p4), .val (.int (0 : Int32)), .val (.int i6), .val (.int c7), .val (.long j8), .second, .val (.int (0 : Int32)), .unset] [(.int (1 : Int32))])) tg
      refine XS.goto X1.here hx rfl (pc0 := 185) (pc' := 189) rfl (hb hby at_185) (by decide) (by decide) ?_
      exact kt
    exact own_retN K (by simp) X1 at_189 (⟨rfl, N1⟩) (by decide) (by decide)
  · skip
    refine own_seg (T' := T0) (g' := (mkF m 139 #[.val (.int p1), .val (.int p2), .val (.long p3), .second, .val (.int p4), .val (.int (0 : Int32)), .val (.int i6), .val (.int c7), .val (.long j8), .second, .val (.long j10), .second] [])) (fun tg kt => XS.icmpNo X0.here hx rfl (hb hby at_136) rfl (flt hc136).2.2.1 kt) ?_
    refine own_seg (T' := T0) (g' := (mkF m 143 #[.val (.int p1), .val (.int p2), .val (.long p3), .second, .val (.int p4), .val (.int (0 : Int32)), .val (.int i6), .val (.int c7), .val (.long j8), .second, .val (.long j10), .second] [(.int (46340 : Int32)), (.int c7)])) (fun tg kt => ?_) ?_
    · show Steps p.tables e below (T0.setTop (mkF m 139 #[.val (.int p1), .val (.int p2), .val (.long p3), .second, .val (.int p4), .val (.int (0 : Int32)), .val (.int i6), .val (.int c7), .val (.long j8), .second, .val (.long j10), .second] [])) tg
      refine XS.iload X0.here hx rfl (hb hby at_139) rfl ?_
      show Steps p.tables e below (T0.setTop (mkF m 141 #[.val (.int p1), .val (.int p2), .val (.long p3), .second, .val (.int p4), .val (.int (0 : Int32)), .val (.int i6), .val (.int c7), .val (.long j8), .second, .val (.long j10), .second] [(.int c7)])) tg
      refine X0.ldcInt hx hown (mvT hZ (hw _ (List.mem_of_getElem? (i := 9) rfl))) (g := (mkF m 141 #[.val (.int p1), .val (.int p2), .val (.long p3), .second, .val (.int p4), .val (.int (0 : Int32)), .val (.int i6), .val (.int c7), .val (.long j8), .second, .val (.long j10), .second] [(.int c7)])) rfl (hb hby at_141) _ ?_
      exact kt
    by_cases hc143 : (46340 : Int32) < c7
    · skip
      refine own_seg (T' := T0) (g' := (mkF m 167 #[.val (.int p1), .val (.int p2), .val (.long p3), .second, .val (.int p4), .val (.int (0 : Int32)), .val (.int i6), .val (.int c7), .val (.long j8), .second, .val (.long j10), .second] [])) (fun tg kt => XS.icmpYes X0.here hx rfl (pc0 := 143) (pc' := 167) rfl (hb hby at_143) rfl (tlt hc143).2.2.1 (by decide) (by decide) kt) ?_
      refine own_seg (T' := T0) (g' := (mkF m 176 #[.val (.int p1), .val (.int p2), .val (.long p3), .second, .val (.int p4), .val (.int (0 : Int32)), .val (.int i6), .val (.int c7), .val (.long j8), .second, .val (.int (0 : Int32)), .unset] [(.long j8), (.int (0 : Int32)), (.int c7)])) (fun tg kt => ?_) ?_
      · show Steps p.tables e below (T0.setTop (mkF m 167 #[.val (.int p1), .val (.int p2), .val (.long p3), .second, .val (.int p4), .val (.int (0 : Int32)), .val (.int i6), .val (.int c7), .val (.long j8), .second, .val (.long j10), .second] [])) tg
        refine XS.iconst X0.here hx rfl (hb hby at_167) ?_
        show Steps p.tables e below (T0.setTop (mkF m 168 #[.val (.int p1), .val (.int p2), .val (.long p3), .second, .val (.int p4), .val (.int (0 : Int32)), .val (.int i6), .val (.int c7), .val (.long j8), .second, .val (.long j10), .second] [(.int (0 : Int32))])) tg
        refine XS.istore X0.here hx rfl (hb hby at_168) rfl (l' := #[.val (.int p1), .val (.int p2), .val (.long p3), .second, .val (.int p4), .val (.int (0 : Int32)), .val (.int i6), .val (.int c7), .val (.long j8), .second, .val (.int (0 : Int32)), .unset]) rfl ?_
        show Steps p.tables e below (T0.setTop (mkF m 170 #[.val (.int p1), .val (.int p2), .val (.long p3), .second, .val (.int p4), .val (.int (0 : Int32)), .val (.int i6), .val (.int c7), .val (.long j8), .second, .val (.int (0 : Int32)), .unset] [])) tg
        refine XS.iload X0.here hx rfl (hb hby at_170) rfl ?_
        show Steps p.tables e below (T0.setTop (mkF m 172 #[.val (.int p1), .val (.int p2), .val (.long p3), .second, .val (.int p4), .val (.int (0 : Int32)), .val (.int i6), .val (.int c7), .val (.long j8), .second, .val (.int (0 : Int32)), .unset] [(.int c7)])) tg
        refine XS.iload X0.here hx rfl (hb hby at_172) rfl ?_
        show Steps p.tables e below (T0.setTop (mkF m 174 #[.val (.int p1), .val (.int p2), .val (.long p3), .second, .val (.int p4), .val (.int (0 : Int32)), .val (.int i6), .val (.int c7), .val (.long j8), .second, .val (.int (0 : Int32)), .unset] [(.int (0 : Int32)), (.int c7)])) tg
        refine XS.lload X0.here hx rfl (hb hby at_174) rfl ?_
        exact kt
      refine own_callS K X0 e0 (rm3 l Z a0 hw c7 (0 : Int32) j8 0 h0 n0 Z0 hz hh (by rw [own_keep, if_neg (fun q_ => hc136 q_.2), if_pos hc143])) (hw _ (List.mem_of_getElem? (i := 10) rfl)) (hw _ (List.mem_of_getElem? (i := 11) rfl)) (hw _ (List.mem_of_getElem? (i := 12) rfl)) (hw _ (List.mem_of_getElem? (i := 13) rfl)) (by decide) [(.int c7), (.int (0 : Int32)), (.long j8)] [] own_pd0 rfl rfl rfl rfl at_176 (by decide) (Nat.le_of_ble_eq_true rfl) (by decide) (by decide) ?_
      intro T2 L2 v2 X2 hQ2
      obtain ⟨rfl, Nq2, e2⟩ := hQ2
      have N2 := Fr.app N0 Nq2
      show own_Fin p e below _ T2 (mkF m 179 #[.val (.int p1), .val (.int p2), .val (.long p3), .second, .val (.int p4), .val (.int (0 : Int32)), .val (.int i6), .val (.int c7), .val (.long j8), .second, .val (.int (0 : Int32)), .unset] [(.int (0 : Int32))])
      refine own_seg (T' := T2) (g' := (mkF m 181 #[.val (.int p1), .val (.int p2), .val (.long p3), .second, .val (.int p4), .val (.int (0 : Int32)), .val (.int i6), .val (.int c7), .val (.long j8), .second, .val (.int (0 : Int32)), .unset] [(.int (0 : Int32)), (.int (0 : Int32))])) (fun tg kt => ?_) ?_
      · show Steps p.tables e below (T2.setTop (mkF m 179 #[.val (.int p1), .val (.int p2), .val (.long p3), .second, .val (.int p4), .val (.int (0 : Int32)), .val (.int i6), .val (.int c7), .val (.long j8), .second, .val (.int (0 : Int32)), .unset] [(.int (0 : Int32))])) tg
        refine XS.iload X2.here hx rfl (hb hby at_179) rfl ?_
        exact kt
      have hc181 : (0 : Int32) = (0 : Int32) := by decide
      refine own_seg (T' := T2) (g' := (mkF m 184 #[.val (.int p1), .val (.int p2), .val (.long p3), .second, .val (.int p4), .val (.int (0 : Int32)), .val (.int i6), .val (.int c7), .val (.long j8), .second, .val (.int (0 : Int32)), .unset] [])) (fun tg kt => XS.icmpNo X2.here hx rfl (hb hby at_181) rfl (teq hc181).2 kt) ?_
      refine own_seg (T' := T2) (g' := (mkF m 189 #[.val (.int p1), .val (.int p2), .val (.long p3), .second, .val (.int p4), .val (.int (0 : Int32)), .val (.int i6), .val (.int c7), .val (.long j8), .second, .val (.int (0 : Int32)), .unset] [(.int (1 : Int32))])) (fun tg kt => ?_) ?_
      · show Steps p.tables e below (T2.setTop (mkF m 184 #[.val (.int p1), .val (.int p2), .val (.long p3), .second, .val (.int p4), .val (.int (0 : Int32)), .val (.int i6), .val (.int c7), .val (.long j8), .second, .val (.int (0 : Int32)), .unset] [])) tg
        refine XS.iconst X2.here hx rfl (hb hby at_184) ?_
        show Steps p.tables e below (T2.setTop (mkF m 185 #[.val (.int p1), .val (.int p2), .val (.long p3), .second, .val (.int p4), .val (.int (0 : Int32)), .val (.int i6), .val (.int c7), .val (.long j8), .second, .val (.int (0 : Int32)), .unset] [(.int (1 : Int32))])) tg
        refine XS.goto X2.here hx rfl (pc0 := 185) (pc' := 189) rfl (hb hby at_185) (by decide) (by decide) ?_
        exact kt
      exact own_retN K (by simp) X2 at_189 (⟨rfl, N2⟩) (by decide) (by decide)
    · skip
      refine own_seg (T' := T0) (g' := (mkF m 146 #[.val (.int p1), .val (.int p2), .val (.long p3), .second, .val (.int p4), .val (.int (0 : Int32)), .val (.int i6), .val (.int c7), .val (.long j8), .second, .val (.long j10), .second] [])) (fun tg kt => XS.icmpNo X0.here hx rfl (hb hby at_143) rfl (flt hc143).2.2.1 kt) ?_
      refine own_seg (T' := T0) (g' := (mkF m 160 #[.val (.int p1), .val (.int p2), .val (.long p3), .second, .val (.int p4), .val (.int (0 : Int32)), .val (.int i6), .val (.int c7), .val (.long j8), .second, .val (.long j10), .second] [(.int (lcmpW (((32 : Int64) * (c7.toInt64)) * (c7.toInt64)) j8))])) (fun tg kt => ?_) ?_
      · show Steps p.tables e below (T0.setTop (mkF m 146 #[.val (.int p1), .val (.int p2), .val (.long p3), .second, .val (.int p4), .val (.int (0 : Int32)), .val (.int i6), .val (.int c7), .val (.long j8), .second, .val (.long j10), .second] [])) tg
        refine X0.ldc2Long hx hown (mvT hZ (hw _ (List.mem_of_getElem? (i := 5) rfl))) (g := (mkF m 146 #[.val (.int p1), .val (.int p2), .val (.long p3), .second, .val (.int p4), .val (.int (0 : Int32)), .val (.int i6), .val (.int c7), .val (.long j8), .second, .val (.long j10), .second] [])) rfl (hb hby at_146) _ ?_
        show Steps p.tables e below (T0.setTop (mkF m 149 #[.val (.int p1), .val (.int p2), .val (.long p3), .second, .val (.int p4), .val (.int (0 : Int32)), .val (.int i6), .val (.int c7), .val (.long j8), .second, .val (.long j10), .second] [(.long (32 : Int64))])) tg
        refine XS.iload X0.here hx rfl (hb hby at_149) rfl ?_
        show Steps p.tables e below (T0.setTop (mkF m 151 #[.val (.int p1), .val (.int p2), .val (.long p3), .second, .val (.int p4), .val (.int (0 : Int32)), .val (.int i6), .val (.int c7), .val (.long j8), .second, .val (.long j10), .second] [(.int c7), (.long (32 : Int64))])) tg
        refine XS.i2l X0.here hx rfl (hb hby at_151) rfl ?_
        show Steps p.tables e below (T0.setTop (mkF m 152 #[.val (.int p1), .val (.int p2), .val (.long p3), .second, .val (.int p4), .val (.int (0 : Int32)), .val (.int i6), .val (.int c7), .val (.long j8), .second, .val (.long j10), .second] [(.long (c7.toInt64)), (.long (32 : Int64))])) tg
        refine XS.lmul X0.here hx rfl (hb hby at_152) rfl ?_
        show Steps p.tables e below (T0.setTop (mkF m 153 #[.val (.int p1), .val (.int p2), .val (.long p3), .second, .val (.int p4), .val (.int (0 : Int32)), .val (.int i6), .val (.int c7), .val (.long j8), .second, .val (.long j10), .second] [(.long ((32 : Int64) * (c7.toInt64)))])) tg
        refine XS.iload X0.here hx rfl (hb hby at_153) rfl ?_
        show Steps p.tables e below (T0.setTop (mkF m 155 #[.val (.int p1), .val (.int p2), .val (.long p3), .second, .val (.int p4), .val (.int (0 : Int32)), .val (.int i6), .val (.int c7), .val (.long j8), .second, .val (.long j10), .second] [(.int c7), (.long ((32 : Int64) * (c7.toInt64)))])) tg
        refine XS.i2l X0.here hx rfl (hb hby at_155) rfl ?_
        show Steps p.tables e below (T0.setTop (mkF m 156 #[.val (.int p1), .val (.int p2), .val (.long p3), .second, .val (.int p4), .val (.int (0 : Int32)), .val (.int i6), .val (.int c7), .val (.long j8), .second, .val (.long j10), .second] [(.long (c7.toInt64)), (.long ((32 : Int64) * (c7.toInt64)))])) tg
        refine XS.lmul X0.here hx rfl (hb hby at_156) rfl ?_
        show Steps p.tables e below (T0.setTop (mkF m 157 #[.val (.int p1), .val (.int p2), .val (.long p3), .second, .val (.int p4), .val (.int (0 : Int32)), .val (.int i6), .val (.int c7), .val (.long j8), .second, .val (.long j10), .second] [(.long (((32 : Int64) * (c7.toInt64)) * (c7.toInt64)))])) tg
        refine XS.lload X0.here hx rfl (hb hby at_157) rfl ?_
        show Steps p.tables e below (T0.setTop (mkF m 159 #[.val (.int p1), .val (.int p2), .val (.long p3), .second, .val (.int p4), .val (.int (0 : Int32)), .val (.int i6), .val (.int c7), .val (.long j8), .second, .val (.long j10), .second] [(.long j8), (.long (((32 : Int64) * (c7.toInt64)) * (c7.toInt64)))])) tg
        refine XS.lcmp X0.here hx rfl (hb hby at_159) rfl ?_
        exact kt
      by_cases hc160 : j8 < (((32 : Int64) * (c7.toInt64)) * (c7.toInt64))
      · skip
        refine own_seg (T' := T0) (g' := (mkF m 167 #[.val (.int p1), .val (.int p2), .val (.long p3), .second, .val (.int p4), .val (.int (0 : Int32)), .val (.int i6), .val (.int c7), .val (.long j8), .second, .val (.long j10), .second] [])) (fun tg kt => XS.ifYes X0.here hx rfl (pc0 := 160) (pc' := 167) rfl (hb hby at_160) rfl ((if0 _ _).trans (tlt ((lw_gt _ _).mpr hc160)).2.2.1) (by decide) (by decide) kt) ?_
        refine own_seg (T' := T0) (g' := (mkF m 176 #[.val (.int p1), .val (.int p2), .val (.long p3), .second, .val (.int p4), .val (.int (0 : Int32)), .val (.int i6), .val (.int c7), .val (.long j8), .second, .val (.int (0 : Int32)), .unset] [(.long j8), (.int (0 : Int32)), (.int c7)])) (fun tg kt => ?_) ?_
        · show Steps p.tables e below (T0.setTop (mkF m 167 #[.val (.int p1), .val (.int p2), .val (.long p3), .second, .val (.int p4), .val (.int (0 : Int32)), .val (.int i6), .val (.int c7), .val (.long j8), .second, .val (.long j10), .second] [])) tg
          refine XS.iconst X0.here hx rfl (hb hby at_167) ?_
          show Steps p.tables e below (T0.setTop (mkF m 168 #[.val (.int p1), .val (.int p2), .val (.long p3), .second, .val (.int p4), .val (.int (0 : Int32)), .val (.int i6), .val (.int c7), .val (.long j8), .second, .val (.long j10), .second] [(.int (0 : Int32))])) tg
          refine XS.istore X0.here hx rfl (hb hby at_168) rfl (l' := #[.val (.int p1), .val (.int p2), .val (.long p3), .second, .val (.int p4), .val (.int (0 : Int32)), .val (.int i6), .val (.int c7), .val (.long j8), .second, .val (.int (0 : Int32)), .unset]) rfl ?_
          show Steps p.tables e below (T0.setTop (mkF m 170 #[.val (.int p1), .val (.int p2), .val (.long p3), .second, .val (.int p4), .val (.int (0 : Int32)), .val (.int i6), .val (.int c7), .val (.long j8), .second, .val (.int (0 : Int32)), .unset] [])) tg
          refine XS.iload X0.here hx rfl (hb hby at_170) rfl ?_
          show Steps p.tables e below (T0.setTop (mkF m 172 #[.val (.int p1), .val (.int p2), .val (.long p3), .second, .val (.int p4), .val (.int (0 : Int32)), .val (.int i6), .val (.int c7), .val (.long j8), .second, .val (.int (0 : Int32)), .unset] [(.int c7)])) tg
          refine XS.iload X0.here hx rfl (hb hby at_172) rfl ?_
          show Steps p.tables e below (T0.setTop (mkF m 174 #[.val (.int p1), .val (.int p2), .val (.long p3), .second, .val (.int p4), .val (.int (0 : Int32)), .val (.int i6), .val (.int c7), .val (.long j8), .second, .val (.int (0 : Int32)), .unset] [(.int (0 : Int32)), (.int c7)])) tg
          refine XS.lload X0.here hx rfl (hb hby at_174) rfl ?_
          exact kt
        refine own_callS K X0 e0 (rm3 l Z a0 hw c7 (0 : Int32) j8 0 h0 n0 Z0 hz hh (by rw [own_keep, if_neg (fun q_ => hc136 q_.2), if_neg hc143, if_pos hc160])) (hw _ (List.mem_of_getElem? (i := 10) rfl)) (hw _ (List.mem_of_getElem? (i := 11) rfl)) (hw _ (List.mem_of_getElem? (i := 12) rfl)) (hw _ (List.mem_of_getElem? (i := 13) rfl)) (by decide) [(.int c7), (.int (0 : Int32)), (.long j8)] [] own_pd0 rfl rfl rfl rfl at_176 (by decide) (Nat.le_of_ble_eq_true rfl) (by decide) (by decide) ?_
        intro T3 L3 v3 X3 hQ3
        obtain ⟨rfl, Nq3, e3⟩ := hQ3
        have N3 := Fr.app N0 Nq3
        show own_Fin p e below _ T3 (mkF m 179 #[.val (.int p1), .val (.int p2), .val (.long p3), .second, .val (.int p4), .val (.int (0 : Int32)), .val (.int i6), .val (.int c7), .val (.long j8), .second, .val (.int (0 : Int32)), .unset] [(.int (0 : Int32))])
        refine own_seg (T' := T3) (g' := (mkF m 181 #[.val (.int p1), .val (.int p2), .val (.long p3), .second, .val (.int p4), .val (.int (0 : Int32)), .val (.int i6), .val (.int c7), .val (.long j8), .second, .val (.int (0 : Int32)), .unset] [(.int (0 : Int32)), (.int (0 : Int32))])) (fun tg kt => ?_) ?_
        · show Steps p.tables e below (T3.setTop (mkF m 179 #[.val (.int p1), .val (.int p2), .val (.long p3), .second, .val (.int p4), .val (.int (0 : Int32)), .val (.int i6), .val (.int c7), .val (.long j8), .second, .val (.int (0 : Int32)), .unset] [(.int (0 : Int32))])) tg
          refine XS.iload X3.here hx rfl (hb hby at_179) rfl ?_
          exact kt
        have hc181 : (0 : Int32) = (0 : Int32) := by decide
        refine own_seg (T' := T3) (g' := (mkF m 184 #[.val (.int p1), .val (.int p2), .val (.long p3), .second, .val (.int p4), .val (.int (0 : Int32)), .val (.int i6), .val (.int c7), .val (.long j8), .second, .val (.int (0 : Int32)), .unset] [])) (fun tg kt => XS.icmpNo X3.here hx rfl (hb hby at_181) rfl (teq hc181).2 kt) ?_
        refine own_seg (T' := T3) (g' := (mkF m 189 #[.val (.int p1), .val (.int p2), .val (.long p3), .second, .val (.int p4), .val (.int (0 : Int32)), .val (.int i6), .val (.int c7), .val (.long j8), .second, .val (.int (0 : Int32)), .unset] [(.int (1 : Int32))])) (fun tg kt => ?_) ?_
        · show Steps p.tables e below (T3.setTop (mkF m 184 #[.val (.int p1), .val (.int p2), .val (.long p3), .second, .val (.int p4), .val (.int (0 : Int32)), .val (.int i6), .val (.int c7), .val (.long j8), .second, .val (.int (0 : Int32)), .unset] [])) tg
          refine XS.iconst X3.here hx rfl (hb hby at_184) ?_
          show Steps p.tables e below (T3.setTop (mkF m 185 #[.val (.int p1), .val (.int p2), .val (.long p3), .second, .val (.int p4), .val (.int (0 : Int32)), .val (.int i6), .val (.int c7), .val (.long j8), .second, .val (.int (0 : Int32)), .unset] [(.int (1 : Int32))])) tg
          refine XS.goto X3.here hx rfl (pc0 := 185) (pc' := 189) rfl (hb hby at_185) (by decide) (by decide) ?_
          exact kt
        exact own_retN K (by simp) X3 at_189 (⟨rfl, N3⟩) (by decide) (by decide)
      · skip
        refine own_seg (T' := T0) (g' := (mkF m 163 #[.val (.int p1), .val (.int p2), .val (.long p3), .second, .val (.int p4), .val (.int (0 : Int32)), .val (.int i6), .val (.int c7), .val (.long j8), .second, .val (.long j10), .second] [])) (fun tg kt => XS.ifNo X0.here hx rfl (hb hby at_160) rfl ((if0 _ _).trans (flt (fun q_ => hc160 ((lw_gt _ _).mp q_))).2.2.1) kt) ?_
        refine own_seg (T' := T0) (g' := (mkF m 176 #[.val (.int p1), .val (.int p2), .val (.long p3), .second, .val (.int p4), .val (.int (0 : Int32)), .val (.int i6), .val (.int c7), .val (.long j8), .second, .val (.int (1 : Int32)), .unset] [(.long j8), (.int (0 : Int32)), (.int c7)])) (fun tg kt => ?_) ?_
        · show Steps p.tables e below (T0.setTop (mkF m 163 #[.val (.int p1), .val (.int p2), .val (.long p3), .second, .val (.int p4), .val (.int (0 : Int32)), .val (.int i6), .val (.int c7), .val (.long j8), .second, .val (.long j10), .second] [])) tg
          refine XS.iconst X0.here hx rfl (hb hby at_163) ?_
          show Steps p.tables e below (T0.setTop (mkF m 164 #[.val (.int p1), .val (.int p2), .val (.long p3), .second, .val (.int p4), .val (.int (0 : Int32)), .val (.int i6), .val (.int c7), .val (.long j8), .second, .val (.long j10), .second] [(.int (1 : Int32))])) tg
          refine XS.goto X0.here hx rfl (pc0 := 164) (pc' := 168) rfl (hb hby at_164) (by decide) (by decide) ?_
          show Steps p.tables e below (T0.setTop (mkF m 168 #[.val (.int p1), .val (.int p2), .val (.long p3), .second, .val (.int p4), .val (.int (0 : Int32)), .val (.int i6), .val (.int c7), .val (.long j8), .second, .val (.long j10), .second] [(.int (1 : Int32))])) tg
          refine XS.istore X0.here hx rfl (hb hby at_168) rfl (l' := #[.val (.int p1), .val (.int p2), .val (.long p3), .second, .val (.int p4), .val (.int (0 : Int32)), .val (.int i6), .val (.int c7), .val (.long j8), .second, .val (.int (1 : Int32)), .unset]) rfl ?_
          show Steps p.tables e below (T0.setTop (mkF m 170 #[.val (.int p1), .val (.int p2), .val (.long p3), .second, .val (.int p4), .val (.int (0 : Int32)), .val (.int i6), .val (.int c7), .val (.long j8), .second, .val (.int (1 : Int32)), .unset] [])) tg
          refine XS.iload X0.here hx rfl (hb hby at_170) rfl ?_
          show Steps p.tables e below (T0.setTop (mkF m 172 #[.val (.int p1), .val (.int p2), .val (.long p3), .second, .val (.int p4), .val (.int (0 : Int32)), .val (.int i6), .val (.int c7), .val (.long j8), .second, .val (.int (1 : Int32)), .unset] [(.int c7)])) tg
          refine XS.iload X0.here hx rfl (hb hby at_172) rfl ?_
          show Steps p.tables e below (T0.setTop (mkF m 174 #[.val (.int p1), .val (.int p2), .val (.long p3), .second, .val (.int p4), .val (.int (0 : Int32)), .val (.int i6), .val (.int c7), .val (.long j8), .second, .val (.int (1 : Int32)), .unset] [(.int (0 : Int32)), (.int c7)])) tg
          refine XS.lload X0.here hx rfl (hb hby at_174) rfl ?_
          exact kt
        refine own_callS K X0 e0 (rm3 l Z a0 hw c7 (0 : Int32) j8 1 h0 n0 Z0 hz hh (by rw [own_keep, if_neg (fun q_ => hc136 q_.2), if_neg hc143, if_neg hc160])) (hw _ (List.mem_of_getElem? (i := 10) rfl)) (hw _ (List.mem_of_getElem? (i := 11) rfl)) (hw _ (List.mem_of_getElem? (i := 12) rfl)) (hw _ (List.mem_of_getElem? (i := 13) rfl)) (by decide) [(.int c7), (.int (0 : Int32)), (.long j8)] [] own_pd0 rfl rfl rfl rfl at_176 (by decide) (Nat.le_of_ble_eq_true rfl) (by decide) (by decide) ?_
        intro T4 L4 v4 X4 hQ4
        obtain ⟨rfl, Nq4, e4⟩ := hQ4
        have N4 := Fr.app N0 Nq4
        show own_Fin p e below _ T4 (mkF m 179 #[.val (.int p1), .val (.int p2), .val (.long p3), .second, .val (.int p4), .val (.int (0 : Int32)), .val (.int i6), .val (.int c7), .val (.long j8), .second, .val (.int (1 : Int32)), .unset] [(.int (1 : Int32))])
        refine own_seg (T' := T4) (g' := (mkF m 181 #[.val (.int p1), .val (.int p2), .val (.long p3), .second, .val (.int p4), .val (.int (0 : Int32)), .val (.int i6), .val (.int c7), .val (.long j8), .second, .val (.int (1 : Int32)), .unset] [(.int (1 : Int32)), (.int (1 : Int32))])) (fun tg kt => ?_) ?_
        · show Steps p.tables e below (T4.setTop (mkF m 179 #[.val (.int p1), .val (.int p2), .val (.long p3), .second, .val (.int p4), .val (.int (0 : Int32)), .val (.int i6), .val (.int c7), .val (.long j8), .second, .val (.int (1 : Int32)), .unset] [(.int (1 : Int32))])) tg
          refine XS.iload X4.here hx rfl (hb hby at_179) rfl ?_
          exact kt
        have hc181 : (1 : Int32) = (1 : Int32) := by decide
        refine own_seg (T' := T4) (g' := (mkF m 184 #[.val (.int p1), .val (.int p2), .val (.long p3), .second, .val (.int p4), .val (.int (0 : Int32)), .val (.int i6), .val (.int c7), .val (.long j8), .second, .val (.int (1 : Int32)), .unset] [])) (fun tg kt => XS.icmpNo X4.here hx rfl (hb hby at_181) rfl (teq hc181).2 kt) ?_
        refine own_seg (T' := T4) (g' := (mkF m 189 #[.val (.int p1), .val (.int p2), .val (.long p3), .second, .val (.int p4), .val (.int (0 : Int32)), .val (.int i6), .val (.int c7), .val (.long j8), .second, .val (.int (1 : Int32)), .unset] [(.int (1 : Int32))])) (fun tg kt => ?_) ?_
        · show Steps p.tables e below (T4.setTop (mkF m 184 #[.val (.int p1), .val (.int p2), .val (.long p3), .second, .val (.int p4), .val (.int (0 : Int32)), .val (.int i6), .val (.int c7), .val (.long j8), .second, .val (.int (1 : Int32)), .unset] [])) tg
          refine XS.iconst X4.here hx rfl (hb hby at_184) ?_
          show Steps p.tables e below (T4.setTop (mkF m 185 #[.val (.int p1), .val (.int p2), .val (.long p3), .second, .val (.int p4), .val (.int (0 : Int32)), .val (.int i6), .val (.int c7), .val (.long j8), .second, .val (.int (1 : Int32)), .unset] [(.int (1 : Int32))])) tg
          refine XS.goto X4.here hx rfl (pc0 := 185) (pc' := 189) rfl (hb hby at_185) (by decide) (by decide) ?_
          exact kt
        exact own_retN K (by simp) X4 at_189 (⟨rfl, N4⟩) (by decide) (by decide)
theorem own_max0 (x : Int64) : ¬ own_max 0 x < 0 := by
  have e0 : (0 : Int64).toInt = 0 := by decide
  unfold own_max
  split
  · rename_i q
    rw [Int64.lt_iff_toInt_lt] at *; omega
  · decide
theorem own_pd1 : parseMethodDescriptor "(II)I" = some ⟨[.int, .int], some .int⟩ := by decide +kernel
theorem own_pd2 : parseMethodDescriptor "(JJ)J" = some ⟨[.long, .long], some .long⟩ := by decide +kernel
set_option maxRecDepth 65536 in
set_option maxHeartbeats 40000000 in
theorem sg0_740 {p : Program} {l : Launch} {e : Env} {s : State} {m : MethodId} {args : Array Value} {below : List Frame} {meth : Method} {c : Code} {T0 : State} {locs : List Loc} {Z : State} {a0 : Array Value} {h0 : Heap} {n0 : Nat} (hw : ∀ d ∈ tables_1, d.before a0 Z = true) (p1 p2 : Int32) (p3 : Int64) (p4 i6 c7 : Int32)
    (K : own_Ctx p Z s m meth c "com/example/murmuration/murmuration/LegTableIsWorthKeepingPinLaw" code maxLocals ret "law") (X0 : Stand p l e room_1 s m args below meth c T0 locs 0 0) (e0 : T0.heap = h0) (N0 : Fr n0 locs) (Z0 : n0 ≤ h0.size) (hz : ¬ c7 < 0) :
    own_Fin p e below (own_P s room_1 (own_Q1 n0)) T0 (mkF m 74 #[.val (.int p1), .val (.int p2), .val (.long p3), .second, .val (.int p4), .val (.int (0 : Int32)), .val (.int i6), .val (.int c7), .unset, .unset, .unset, .unset] []) := by
  have hx := K.1
  have hZ := K.2.1
  have hby := K.2.2.1
  have hown := K.2.2.2.2.1
  refine own_seg (T' := T0) (g' := (mkF m 78 #[.val (.int p1), .val (.int p2), .val (.long p3), .second, .val (.int p4), .val (.int (0 : Int32)), .val (.int i6), .val (.int c7), .unset, .unset, .unset, .unset] [(.int (p2 &&& (8 : Int32)))])) (fun tg kt => ?_) ?_
  · show Steps p.tables e below (T0.setTop (mkF m 74 #[.val (.int p1), .val (.int p2), .val (.long p3), .second, .val (.int p4), .val (.int (0 : Int32)), .val (.int i6), .val (.int c7), .unset, .unset, .unset, .unset] [])) tg
    refine XS.iloadN X0.here hx rfl (hb hby at_74) rfl ?_
    show Steps p.tables e below (T0.setTop (mkF m 75 #[.val (.int p1), .val (.int p2), .val (.long p3), .second, .val (.int p4), .val (.int (0 : Int32)), .val (.int i6), .val (.int c7), .unset, .unset, .unset, .unset] [(.int p2)])) tg
    refine XS.bipush X0.here hx rfl (hb hby at_75) ?_
    show Steps p.tables e below (T0.setTop (mkF m 77 #[.val (.int p1), .val (.int p2), .val (.long p3), .second, .val (.int p4), .val (.int (0 : Int32)), .val (.int i6), .val (.int c7), .unset, .unset, .unset, .unset] [(.int (8 : Int32)), (.int p2)])) tg
    refine XS.iand X0.here hx rfl (hb hby at_77) rfl ?_
    exact kt
  by_cases hc78 : (p2 &&& (8 : Int32)) = (0 : Int32)
  · skip
    refine own_seg (T' := T0) (g' := (mkF m 91 #[.val (.int p1), .val (.int p2), .val (.long p3), .second, .val (.int p4), .val (.int (0 : Int32)), .val (.int i6), .val (.int c7), .unset, .unset, .unset, .unset] [])) (fun tg kt => XS.ifYes X0.here hx rfl (pc0 := 78) (pc' := 91) rfl (hb hby at_78) rfl ((if0 _ _).trans (teq hc78).1) (by decide) (by decide) kt) ?_
    refine own_seg (T' := T0) (g' := (mkF m 95 #[.val (.int p1), .val (.int p2), .val (.long p3), .second, .val (.int p4), .val (.int (0 : Int32)), .val (.int i6), .val (.int c7), .unset, .unset, .unset, .unset] [(.int (65536 : Int32)), (.int c7)])) (fun tg kt => ?_) ?_
    · show Steps p.tables e below (T0.setTop (mkF m 91 #[.val (.int p1), .val (.int p2), .val (.long p3), .second, .val (.int p4), .val (.int (0 : Int32)), .val (.int i6), .val (.int c7), .unset, .unset, .unset, .unset] [])) tg
      refine XS.iload X0.here hx rfl (hb hby at_91) rfl ?_
      show Steps p.tables e below (T0.setTop (mkF m 93 #[.val (.int p1), .val (.int p2), .val (.long p3), .second, .val (.int p4), .val (.int (0 : Int32)), .val (.int i6), .val (.int c7), .unset, .unset, .unset, .unset] [(.int c7)])) tg
      refine X0.ldcInt hx hown (mvT hZ (hw _ (List.mem_of_getElem? (i := 0) rfl))) (g := (mkF m 93 #[.val (.int p1), .val (.int p2), .val (.long p3), .second, .val (.int p4), .val (.int (0 : Int32)), .val (.int i6), .val (.int c7), .unset, .unset, .unset, .unset] [(.int c7)])) rfl (hb hby at_93) _ ?_
      exact kt
    refine own_callS K X0 e0 (rm1 l Z a0 hw c7 (65536 : Int32) h0 n0 Z0) (hw _ (List.mem_of_getElem? (i := 1) rfl)) (hw _ (List.mem_of_getElem? (i := 2) rfl)) (hw _ (List.mem_of_getElem? (i := 3) rfl)) (hw _ (List.mem_of_getElem? (i := 4) rfl)) (by decide) [(.int c7), (.int (65536 : Int32))] [] own_pd1 rfl rfl rfl rfl at_95 (by decide) (Nat.le_of_ble_eq_true rfl) (by decide) (by decide) ?_
    intro T1 L1 v1 X1 hQ1
    obtain ⟨rfl, Nq1, e1⟩ := hQ1
    have N1 := Fr.app N0 Nq1
    show own_Fin p e below _ T1 (mkF m 98 #[.val (.int p1), .val (.int p2), .val (.long p3), .second, .val (.int p4), .val (.int (0 : Int32)), .val (.int i6), .val (.int c7), .unset, .unset, .unset, .unset] [(.int (own_min c7 (65536 : Int32)))])
    refine own_seg (T' := T1) (g' := (mkF m 121 #[.val (.int p1), .val (.int p2), .val (.long p3), .second, .val (.int p4), .val (.int (0 : Int32)), .val (.int i6), .val (.int c7), .unset, .unset, .val (.long ((own_min c7 (65536 : Int32)).toInt64)), .second] [(.long ((((32 : Int64) * ((own_min c7 (65536 : Int32)).toInt64)) * ((own_min c7 (65536 : Int32)).toInt64)) + (((p4 &&& (15 : Int32)) - (8 : Int32)).toInt64))), (.long (0 : Int64))])) (fun tg kt => ?_) ?_
    · show Steps p.tables e below (T1.setTop (mkF m 98 #[.val (.int p1), .val (.int p2), .val (.long p3), .second, .val (.int p4), .val (.int (0 : Int32)), .val (.int i6), .val (.int c7), .unset, .unset, .unset, .unset] [(.int (own_min c7 (65536 : Int32)))])) tg
      refine XS.i2l X1.here hx rfl (hb hby at_98) rfl ?_
      show Steps p.tables e below (T1.setTop (mkF m 99 #[.val (.int p1), .val (.int p2), .val (.long p3), .second, .val (.int p4), .val (.int (0 : Int32)), .val (.int i6), .val (.int c7), .unset, .unset, .unset, .unset] [(.long ((own_min c7 (65536 : Int32)).toInt64))])) tg
      refine XS.lstore X1.here hx rfl (hb hby at_99) rfl (l' := #[.val (.int p1), .val (.int p2), .val (.long p3), .second, .val (.int p4), .val (.int (0 : Int32)), .val (.int i6), .val (.int c7), .unset, .unset, .val (.long ((own_min c7 (65536 : Int32)).toInt64)), .second]) rfl ?_
      show Steps p.tables e below (T1.setTop (mkF m 101 #[.val (.int p1), .val (.int p2), .val (.long p3), .second, .val (.int p4), .val (.int (0 : Int32)), .val (.int i6), .val (.int c7), .unset, .unset, .val (.long ((own_min c7 (65536 : Int32)).toInt64)), .second] [])) tg
      refine XS.lconst X1.here hx rfl (hb hby at_101) ?_
      show Steps p.tables e below (T1.setTop (mkF m 102 #[.val (.int p1), .val (.int p2), .val (.long p3), .second, .val (.int p4), .val (.int (0 : Int32)), .val (.int i6), .val (.int c7), .unset, .unset, .val (.long ((own_min c7 (65536 : Int32)).toInt64)), .second] [(.long (0 : Int64))])) tg
      refine X1.ldc2Long hx hown (mvT hZ (hw _ (List.mem_of_getElem? (i := 5) rfl))) (g := (mkF m 102 #[.val (.int p1), .val (.int p2), .val (.long p3), .second, .val (.int p4), .val (.int (0 : Int32)), .val (.int i6), .val (.int c7), .unset, .unset, .val (.long ((own_min c7 (65536 : Int32)).toInt64)), .second] [(.long (0 : Int64))])) rfl (hb hby at_102) _ ?_
      show Steps p.tables e below (T1.setTop (mkF m 105 #[.val (.int p1), .val (.int p2), .val (.long p3), .second, .val (.int p4), .val (.int (0 : Int32)), .val (.int i6), .val (.int c7), .unset, .unset, .val (.long ((own_min c7 (65536 : Int32)).toInt64)), .second] [(.long (32 : Int64)), (.long (0 : Int64))])) tg
      refine XS.lload X1.here hx rfl (hb hby at_105) rfl ?_
      show Steps p.tables e below (T1.setTop (mkF m 107 #[.val (.int p1), .val (.int p2), .val (.long p3), .second, .val (.int p4), .val (.int (0 : Int32)), .val (.int i6), .val (.int c7), .unset, .unset, .val (.long ((own_min c7 (65536 : Int32)).toInt64)), .second] [(.long ((own_min c7 (65536 : Int32)).toInt64)), (.long (32 : Int64)), (.long (0 : Int64))])) tg
      refine XS.lmul X1.here hx rfl (hb hby at_107) rfl ?_
      show Steps p.tables e below (T1.setTop (mkF m 108 #[.val (.int p1), .val (.int p2), .val (.long p3), .second, .val (.int p4), .val (.int (0 : Int32)), .val (.int i6), .val (.int c7), .unset, .unset, .val (.long ((own_min c7 (65536 : Int32)).toInt64)), .second] [(.long ((32 : Int64) * ((own_min c7 (65536 : Int32)).toInt64))), (.long (0 : Int64))])) tg
      refine XS.lload X1.here hx rfl (hb hby at_108) rfl ?_
      show Steps p.tables e below (T1.setTop (mkF m 110 #[.val (.int p1), .val (.int p2), .val (.long p3), .second, .val (.int p4), .val (.int (0 : Int32)), .val (.int i6), .val (.int c7), .unset, .unset, .val (.long ((own_min c7 (65536 : Int32)).toInt64)), .second] [(.long ((own_min c7 (65536 : Int32)).toInt64)), (.long ((32 : Int64) * ((own_min c7 (65536 : Int32)).toInt64))), (.long (0 : Int64))])) tg
      refine XS.lmul X1.here hx rfl (hb hby at_110) rfl ?_
      show Steps p.tables e below (T1.setTop (mkF m 111 #[.val (.int p1), .val (.int p2), .val (.long p3), .second, .val (.int p4), .val (.int (0 : Int32)), .val (.int i6), .val (.int c7), .unset, .unset, .val (.long ((own_min c7 (65536 : Int32)).toInt64)), .second] [(.long (((32 : Int64) * ((own_min c7 (65536 : Int32)).toInt64)) * ((own_min c7 (65536 : Int32)).toInt64))), (.long (0 : Int64))])) tg
      refine XS.iload X1.here hx rfl (hb hby at_111) rfl ?_
      show Steps p.tables e below (T1.setTop (mkF m 113 #[.val (.int p1), .val (.int p2), .val (.long p3), .second, .val (.int p4), .val (.int (0 : Int32)), .val (.int i6), .val (.int c7), .unset, .unset, .val (.long ((own_min c7 (65536 : Int32)).toInt64)), .second] [(.int p4), (.long (((32 : Int64) * ((own_min c7 (65536 : Int32)).toInt64)) * ((own_min c7 (65536 : Int32)).toInt64))), (.long (0 : Int64))])) tg
      refine XS.bipush X1.here hx rfl (hb hby at_113) ?_
      show Steps p.tables e below (T1.setTop (mkF m 115 #[.val (.int p1), .val (.int p2), .val (.long p3), .second, .val (.int p4), .val (.int (0 : Int32)), .val (.int i6), .val (.int c7), .unset, .unset, .val (.long ((own_min c7 (65536 : Int32)).toInt64)), .second] [(.int (15 : Int32)), (.int p4), (.long (((32 : Int64) * ((own_min c7 (65536 : Int32)).toInt64)) * ((own_min c7 (65536 : Int32)).toInt64))), (.long (0 : Int64))])) tg
      refine XS.iand X1.here hx rfl (hb hby at_115) rfl ?_
      show Steps p.tables e below (T1.setTop (mkF m 116 #[.val (.int p1), .val (.int p2), .val (.long p3), .second, .val (.int p4), .val (.int (0 : Int32)), .val (.int i6), .val (.int c7), .unset, .unset, .val (.long ((own_min c7 (65536 : Int32)).toInt64)), .second] [(.int (p4 &&& (15 : Int32))), (.long (((32 : Int64) * ((own_min c7 (65536 : Int32)).toInt64)) * ((own_min c7 (65536 : Int32)).toInt64))), (.long (0 : Int64))])) tg
      refine XS.bipush X1.here hx rfl (hb hby at_116) ?_
      show Steps p.tables e below (T1.setTop (mkF m 118 #[.val (.int p1), .val (.int p2), .val (.long p3), .second, .val (.int p4), .val (.int (0 : Int32)), .val (.int i6), .val (.int c7), .unset, .unset, .val (.long ((own_min c7 (65536 : Int32)).toInt64)), .second] [(.int (8 : Int32)), (.int (p4 &&& (15 : Int32))), (.long (((32 : Int64) * ((own_min c7 (65536 : Int32)).toInt64)) * ((own_min c7 (65536 : Int32)).toInt64))), (.long (0 : Int64))])) tg
      refine XS.isub X1.here hx rfl (hb hby at_118) rfl ?_
      show Steps p.tables e below (T1.setTop (mkF m 119 #[.val (.int p1), .val (.int p2), .val (.long p3), .second, .val (.int p4), .val (.int (0 : Int32)), .val (.int i6), .val (.int c7), .unset, .unset, .val (.long ((own_min c7 (65536 : Int32)).toInt64)), .second] [(.int ((p4 &&& (15 : Int32)) - (8 : Int32))), (.long (((32 : Int64) * ((own_min c7 (65536 : Int32)).toInt64)) * ((own_min c7 (65536 : Int32)).toInt64))), (.long (0 : Int64))])) tg
      refine XS.i2l X1.here hx rfl (hb hby at_119) rfl ?_
      show Steps p.tables e below (T1.setTop (mkF m 120 #[.val (.int p1), .val (.int p2), .val (.long p3), .second, .val (.int p4), .val (.int (0 : Int32)), .val (.int i6), .val (.int c7), .unset, .unset, .val (.long ((own_min c7 (65536 : Int32)).toInt64)), .second] [(.long (((p4 &&& (15 : Int32)) - (8 : Int32)).toInt64)), (.long (((32 : Int64) * ((own_min c7 (65536 : Int32)).toInt64)) * ((own_min c7 (65536 : Int32)).toInt64))), (.long (0 : Int64))])) tg
      refine XS.ladd X1.here hx rfl (hb hby at_120) rfl ?_
      exact kt
    refine own_callS K X1 e1 (rm2 l Z a0 hw (0 : Int64) ((((32 : Int64) * ((own_min c7 (65536 : Int32)).toInt64)) * ((own_min c7 (65536 : Int32)).toInt64)) + (((p4 &&& (15 : Int32)) - (8 : Int32)).toInt64)) h0 n0 Z0) (hw _ (List.mem_of_getElem? (i := 6) rfl)) (hw _ (List.mem_of_getElem? (i := 7) rfl)) (hw _ (List.mem_of_getElem? (i := 3) rfl)) (hw _ (List.mem_of_getElem? (i := 8) rfl)) (by decide) [(.long (0 : Int64)), (.long ((((32 : Int64) * ((own_min c7 (65536 : Int32)).toInt64)) * ((own_min c7 (65536 : Int32)).toInt64)) + (((p4 &&& (15 : Int32)) - (8 : Int32)).toInt64)))] [] own_pd2 rfl rfl rfl rfl at_121 (by decide) (Nat.le_of_ble_eq_true rfl) (by decide) (by decide) ?_
    intro T2 L2 v2 X2 hQ2
    obtain ⟨rfl, Nq2, e2⟩ := hQ2
    have N2 := Fr.app N1 Nq2
    show own_Fin p e below _ T2 (mkF m 124 #[.val (.int p1), .val (.int p2), .val (.long p3), .second, .val (.int p4), .val (.int (0 : Int32)), .val (.int i6), .val (.int c7), .unset, .unset, .val (.long ((own_min c7 (65536 : Int32)).toInt64)), .second] [(.long (own_max (0 : Int64) ((((32 : Int64) * ((own_min c7 (65536 : Int32)).toInt64)) * ((own_min c7 (65536 : Int32)).toInt64)) + (((p4 &&& (15 : Int32)) - (8 : Int32)).toInt64))))])
    refine own_seg (T' := T2) (g' := (mkF m 126 #[.val (.int p1), .val (.int p2), .val (.long p3), .second, .val (.int p4), .val (.int (0 : Int32)), .val (.int i6), .val (.int c7), .val (.long (own_max (0 : Int64) ((((32 : Int64) * ((own_min c7 (65536 : Int32)).toInt64)) * ((own_min c7 (65536 : Int32)).toInt64)) + (((p4 &&& (15 : Int32)) - (8 : Int32)).toInt64)))), .second, .val (.long ((own_min c7 (65536 : Int32)).toInt64)), .second] [])) (fun tg kt => ?_) ?_
    · show Steps p.tables e below (T2.setTop (mkF m 124 #[.val (.int p1), .val (.int p2), .val (.long p3), .second, .val (.int p4), .val (.int (0 : Int32)), .val (.int i6), .val (.int c7), .unset, .unset, .val (.long ((own_min c7 (65536 : Int32)).toInt64)), .second] [(.long (own_max (0 : Int64) ((((32 : Int64) * ((own_min c7 (65536 : Int32)).toInt64)) * ((own_min c7 (65536 : Int32)).toInt64)) + (((p4 &&& (15 : Int32)) - (8 : Int32)).toInt64))))])) tg
      refine XS.lstore X2.here hx rfl (hb hby at_124) rfl (l' := #[.val (.int p1), .val (.int p2), .val (.long p3), .second, .val (.int p4), .val (.int (0 : Int32)), .val (.int i6), .val (.int c7), .val (.long (own_max (0 : Int64) ((((32 : Int64) * ((own_min c7 (65536 : Int32)).toInt64)) * ((own_min c7 (65536 : Int32)).toInt64)) + (((p4 &&& (15 : Int32)) - (8 : Int32)).toInt64)))), .second, .val (.long ((own_min c7 (65536 : Int32)).toInt64)), .second]) rfl ?_
      exact kt
    exact sg0_126b0 hw p1 p2 p3 p4 i6 c7 (own_max (0 : Int64) ((((32 : Int64) * ((own_min c7 (65536 : Int32)).toInt64)) * ((own_min c7 (65536 : Int32)).toInt64)) + (((p4 &&& (15 : Int32)) - (8 : Int32)).toInt64))) ((own_min c7 (65536 : Int32)).toInt64) K X2 e2 N2 Z0 hz (own_max0 _)
  · skip
    refine own_seg (T' := T0) (g' := (mkF m 81 #[.val (.int p1), .val (.int p2), .val (.long p3), .second, .val (.int p4), .val (.int (0 : Int32)), .val (.int i6), .val (.int c7), .unset, .unset, .unset, .unset] [])) (fun tg kt => XS.ifNo X0.here hx rfl (hb hby at_78) rfl ((if0 _ _).trans (feq hc78).1) kt) ?_
    refine own_seg (T' := T0) (g' := (mkF m 126 #[.val (.int p1), .val (.int p2), .val (.long p3), .second, .val (.int p4), .val (.int (0 : Int32)), .val (.int i6), .val (.int c7), .val (.long (p3 &&& (9223372036854775807 : Int64))), .second, .unset, .unset] [])) (fun tg kt => ?_) ?_
    · show Steps p.tables e below (T0.setTop (mkF m 81 #[.val (.int p1), .val (.int p2), .val (.long p3), .second, .val (.int p4), .val (.int (0 : Int32)), .val (.int i6), .val (.int c7), .unset, .unset, .unset, .unset] [])) tg
      refine XS.lloadN X0.here hx rfl (hb hby at_81) rfl ?_
      show Steps p.tables e below (T0.setTop (mkF m 82 #[.val (.int p1), .val (.int p2), .val (.long p3), .second, .val (.int p4), .val (.int (0 : Int32)), .val (.int i6), .val (.int c7), .unset, .unset, .unset, .unset] [(.long p3)])) tg
      refine X0.ldc2Long hx hown (mvT hZ (hw _ (List.mem_of_getElem? (i := 18) rfl))) (g := (mkF m 82 #[.val (.int p1), .val (.int p2), .val (.long p3), .second, .val (.int p4), .val (.int (0 : Int32)), .val (.int i6), .val (.int c7), .unset, .unset, .unset, .unset] [(.long p3)])) rfl (hb hby at_82) _ ?_
      show Steps p.tables e below (T0.setTop (mkF m 85 #[.val (.int p1), .val (.int p2), .val (.long p3), .second, .val (.int p4), .val (.int (0 : Int32)), .val (.int i6), .val (.int c7), .unset, .unset, .unset, .unset] [(.long (9223372036854775807 : Int64)), (.long p3)])) tg
      refine XS.land X0.here hx rfl (hb hby at_85) rfl ?_
      show Steps p.tables e below (T0.setTop (mkF m 86 #[.val (.int p1), .val (.int p2), .val (.long p3), .second, .val (.int p4), .val (.int (0 : Int32)), .val (.int i6), .val (.int c7), .unset, .unset, .unset, .unset] [(.long (p3 &&& (9223372036854775807 : Int64)))])) tg
      refine XS.lstore X0.here hx rfl (hb hby at_86) rfl (l' := #[.val (.int p1), .val (.int p2), .val (.long p3), .second, .val (.int p4), .val (.int (0 : Int32)), .val (.int i6), .val (.int c7), .val (.long (p3 &&& (9223372036854775807 : Int64))), .second, .unset, .unset]) rfl ?_
      show Steps p.tables e below (T0.setTop (mkF m 88 #[.val (.int p1), .val (.int p2), .val (.long p3), .second, .val (.int p4), .val (.int (0 : Int32)), .val (.int i6), .val (.int c7), .val (.long (p3 &&& (9223372036854775807 : Int64))), .second, .unset, .unset] [])) tg
      refine XS.goto X0.here hx rfl (pc0 := 88) (pc' := 126) rfl (hb hby at_88) (by decide) (by decide) ?_
      exact kt
    exact sg0_126a0 hw p1 p2 p3 p4 i6 c7 (p3 &&& (9223372036854775807 : Int64)) 0 K X0 e0 N0 Z0 hz (own_mask63 _)
set_option maxRecDepth 65536 in
set_option maxHeartbeats 40000000 in
theorem sg0_126a1 {p : Program} {l : Launch} {e : Env} {s : State} {m : MethodId} {args : Array Value} {below : List Frame} {meth : Method} {c : Code} {T0 : State} {locs : List Loc} {Z : State} {a0 : Array Value} {h0 : Heap} {n0 : Nat} (hw : ∀ d ∈ tables_1, d.before a0 Z = true) (p1 p2 : Int32) (p3 : Int64) (p4 i6 c7 : Int32) (j8 j10 : Int64)
    (K : own_Ctx p Z s m meth c "com/example/murmuration/murmuration/LegTableIsWorthKeepingPinLaw" code maxLocals ret "law") (X0 : Stand p l e room_1 s m args below meth c T0 locs 0 0) (e0 : T0.heap = h0) (N0 : Fr n0 locs) (Z0 : n0 ≤ h0.size) (hz : ¬ c7 < 0) (hh : ¬ j8 < 0) :
    own_Fin p e below (own_P s room_1 (own_Q1 n0)) T0 (mkF m 126 #[.val (.int p1), .val (.int p2), .val (.long p3), .second, .val (.int p4), .val (.int (1 : Int32)), .val (.int i6), .val (.int c7), .val (.long j8), .second, .unset, .unset] []) := by
  have hx := K.1
  have hZ := K.2.1
  have hby := K.2.2.1
  have hown := K.2.2.2.2.1
  refine own_seg (T' := T0) (g' := (mkF m 128 #[.val (.int p1), .val (.int p2), .val (.long p3), .second, .val (.int p4), .val (.int (1 : Int32)), .val (.int i6), .val (.int c7), .val (.long j8), .second, .unset, .unset] [(.int (1 : Int32))])) (fun tg kt => ?_) ?_
  · show Steps p.tables e below (T0.setTop (mkF m 126 #[.val (.int p1), .val (.int p2), .val (.long p3), .second, .val (.int p4), .val (.int (1 : Int32)), .val (.int i6), .val (.int c7), .val (.long j8), .second, .unset, .unset] [])) tg
    refine XS.iload X0.here hx rfl (hb hby at_126) rfl ?_
    exact kt
  have hc128 : ¬ ((1 : Int32) = (0 : Int32)) := by decide
  refine own_seg (T' := T0) (g' := (mkF m 139 #[.val (.int p1), .val (.int p2), .val (.long p3), .second, .val (.int p4), .val (.int (1 : Int32)), .val (.int i6), .val (.int c7), .val (.long j8), .second, .unset, .unset] [])) (fun tg kt => XS.ifYes X0.here hx rfl (pc0 := 128) (pc' := 139) rfl (hb hby at_128) rfl ((if0 _ _).trans (feq hc128).2) (by decide) (by decide) kt) ?_
  refine own_seg (T' := T0) (g' := (mkF m 143 #[.val (.int p1), .val (.int p2), .val (.long p3), .second, .val (.int p4), .val (.int (1 : Int32)), .val (.int i6), .val (.int c7), .val (.long j8), .second, .unset, .unset] [(.int (46340 : Int32)), (.int c7)])) (fun tg kt => ?_) ?_
  · show Steps p.tables e below (T0.setTop (mkF m 139 #[.val (.int p1), .val (.int p2), .val (.long p3), .second, .val (.int p4), .val (.int (1 : Int32)), .val (.int i6), .val (.int c7), .val (.long j8), .second, .unset, .unset] [])) tg
    refine XS.iload X0.here hx rfl (hb hby at_139) rfl ?_
    show Steps p.tables e below (T0.setTop (mkF m 141 #[.val (.int p1), .val (.int p2), .val (.long p3), .second, .val (.int p4), .val (.int (1 : Int32)), .val (.int i6), .val (.int c7), .val (.long j8), .second, .unset, .unset] [(.int c7)])) tg
    refine X0.ldcInt hx hown (mvT hZ (hw _ (List.mem_of_getElem? (i := 9) rfl))) (g := (mkF m 141 #[.val (.int p1), .val (.int p2), .val (.long p3), .second, .val (.int p4), .val (.int (1 : Int32)), .val (.int i6), .val (.int c7), .val (.long j8), .second, .unset, .unset] [(.int c7)])) rfl (hb hby at_141) _ ?_
    exact kt
  by_cases hc143 : (46340 : Int32) < c7
  · skip
    refine own_seg (T' := T0) (g' := (mkF m 167 #[.val (.int p1), .val (.int p2), .val (.long p3), .second, .val (.int p4), .val (.int (1 : Int32)), .val (.int i6), .val (.int c7), .val (.long j8), .second, .unset, .unset] [])) (fun tg kt => XS.icmpYes X0.here hx rfl (pc0 := 143) (pc' := 167) rfl (hb hby at_143) rfl (tlt hc143).2.2.1 (by decide) (by decide) kt) ?_
    refine own_seg (T' := T0) (g' := (mkF m 176 #[.val (.int p1), .val (.int p2), .val (.long p3), .second, .val (.int p4), .val (.int (1 : Int32)), .val (.int i6), .val (.int c7), .val (.long j8), .second, .val (.int (0 : Int32)), .unset] [(.long j8), (.int (1 : Int32)), (.int c7)])) (fun tg kt => ?_) ?_
    · show Steps p.tables e below (T0.setTop (mkF m 167 #[.val (.int p1), .val (.int p2), .val (.long p3), .second, .val (.int p4), .val (.int (1 : Int32)), .val (.int i6), .val (.int c7), .val (.long j8), .second, .unset, .unset] [])) tg
      refine XS.iconst X0.here hx rfl (hb hby at_167) ?_
      show Steps p.tables e below (T0.setTop (mkF m 168 #[.val (.int p1), .val (.int p2), .val (.long p3), .second, .val (.int p4), .val (.int (1 : Int32)), .val (.int i6), .val (.int c7), .val (.long j8), .second, .unset, .unset] [(.int (0 : Int32))])) tg
      refine XS.istore X0.here hx rfl (hb hby at_168) rfl (l' := #[.val (.int p1), .val (.int p2), .val (.long p3), .second, .val (.int p4), .val (.int (1 : Int32)), .val (.int i6), .val (.int c7), .val (.long j8), .second, .val (.int (0 : Int32)), .unset]) rfl ?_
      show Steps p.tables e below (T0.setTop (mkF m 170 #[.val (.int p1), .val (.int p2), .val (.long p3), .second, .val (.int p4), .val (.int (1 : Int32)), .val (.int i6), .val (.int c7), .val (.long j8), .second, .val (.int (0 : Int32)), .unset] [])) tg
      refine XS.iload X0.here hx rfl (hb hby at_170) rfl ?_
      show Steps p.tables e below (T0.setTop (mkF m 172 #[.val (.int p1), .val (.int p2), .val (.long p3), .second, .val (.int p4), .val (.int (1 : Int32)), .val (.int i6), .val (.int c7), .val (.long j8), .second, .val (.int (0 : Int32)), .unset] [(.int c7)])) tg
      refine XS.iload X0.here hx rfl (hb hby at_172) rfl ?_
      show Steps p.tables e below (T0.setTop (mkF m 174 #[.val (.int p1), .val (.int p2), .val (.long p3), .second, .val (.int p4), .val (.int (1 : Int32)), .val (.int i6), .val (.int c7), .val (.long j8), .second, .val (.int (0 : Int32)), .unset] [(.int (1 : Int32)), (.int c7)])) tg
      refine XS.lload X0.here hx rfl (hb hby at_174) rfl ?_
      exact kt
    refine own_callS K X0 e0 (rm3 l Z a0 hw c7 (1 : Int32) j8 0 h0 n0 Z0 hz hh (by rw [own_keep, if_neg (fun q_ => absurd q_.1 (by decide)), if_pos hc143])) (hw _ (List.mem_of_getElem? (i := 10) rfl)) (hw _ (List.mem_of_getElem? (i := 11) rfl)) (hw _ (List.mem_of_getElem? (i := 12) rfl)) (hw _ (List.mem_of_getElem? (i := 13) rfl)) (by decide) [(.int c7), (.int (1 : Int32)), (.long j8)] [] own_pd0 rfl rfl rfl rfl at_176 (by decide) (Nat.le_of_ble_eq_true rfl) (by decide) (by decide) ?_
    intro T1 L1 v1 X1 hQ1
    obtain ⟨rfl, Nq1, e1⟩ := hQ1
    have N1 := Fr.app N0 Nq1
    show own_Fin p e below _ T1 (mkF m 179 #[.val (.int p1), .val (.int p2), .val (.long p3), .second, .val (.int p4), .val (.int (1 : Int32)), .val (.int i6), .val (.int c7), .val (.long j8), .second, .val (.int (0 : Int32)), .unset] [(.int (0 : Int32))])
    refine own_seg (T' := T1) (g' := (mkF m 181 #[.val (.int p1), .val (.int p2), .val (.long p3), .second, .val (.int p4), .val (.int (1 : Int32)), .val (.int i6), .val (.int c7), .val (.long j8), .second, .val (.int (0 : Int32)), .unset] [(.int (0 : Int32)), (.int (0 : Int32))])) (fun tg kt => ?_) ?_
    · show Steps p.tables e below (T1.setTop (mkF m 179 #[.val (.int p1), .val (.int p2), .val (.long p3), .second, .val (.int p4), .val (.int (1 : Int32)), .val (.int i6), .val (.int c7), .val (.long j8), .second, .val (.int (0 : Int32)), .unset] [(.int (0 : Int32))])) tg
      refine XS.iload X1.here hx rfl (hb hby at_179) rfl ?_
      exact kt
    have hc181 : (0 : Int32) = (0 : Int32) := by decide
    refine own_seg (T' := T1) (g' := (mkF m 184 #[.val (.int p1), .val (.int p2), .val (.long p3), .second, .val (.int p4), .val (.int (1 : Int32)), .val (.int i6), .val (.int c7), .val (.long j8), .second, .val (.int (0 : Int32)), .unset] [])) (fun tg kt => XS.icmpNo X1.here hx rfl (hb hby at_181) rfl (teq hc181).2 kt) ?_
    refine own_seg (T' := T1) (g' := (mkF m 189 #[.val (.int p1), .val (.int p2), .val (.long p3), .second, .val (.int p4), .val (.int (1 : Int32)), .val (.int i6), .val (.int c7), .val (.long j8), .second, .val (.int (0 : Int32)), .unset] [(.int (1 : Int32))])) (fun tg kt => ?_) ?_
    · show Steps p.tables e below (T1.setTop (mkF m 184 #[.val (.int p1), .val (.int p2), .val (.long p3), .second, .val (.int p4), .val (.int (1 : Int32)), .val (.int i6), .val (.int c7), .val (.long j8), .second, .val (.int (0 : Int32)), .unset] [])) tg
      refine XS.iconst X1.here hx rfl (hb hby at_184) ?_
      show Steps p.tables e below (T1.setTop (mkF m 185 #[.val (.int p1), .val (.int p2), .val (.long p3), .second, .val (.int p4), .val (.int (1 : Int32)), .val (.int i6), .val (.int c7), .val (.long j8), .second, .val (.int (0 : Int32)), .unset] [(.int (1 : Int32))])) tg
      refine XS.goto X1.here hx rfl (pc0 := 185) (pc' := 189) rfl (hb hby at_185) (by decide) (by decide) ?_
      exact kt
    exact own_retN K (by simp) X1 at_189 (⟨rfl, N1⟩) (by decide) (by decide)
  · skip
    refine own_seg (T' := T0) (g' := (mkF m 146 #[.val (.int p1), .val (.int p2), .val (.long p3), .second, .val (.int p4), .val (.int (1 : Int32)), .val (.int i6), .val (.int c7), .val (.long j8), .second, .unset, .unset] [])) (fun tg kt => XS.icmpNo X0.here hx rfl (hb hby at_143) rfl (flt hc143).2.2.1 kt) ?_
    refine own_seg (T' := T0) (g' := (mkF m 160 #[.val (.int p1), .val (.int p2), .val (.long p3), .second, .val (.int p4), .val (.int (1 : Int32)), .val (.int i6), .val (.int c7), .val (.long j8), .second, .unset, .unset] [(.int (lcmpW (((32 : Int64) * (c7.toInt64)) * (c7.toInt64)) j8))])) (fun tg kt => ?_) ?_
    · show Steps p.tables e below (T0.setTop (mkF m 146 #[.val (.int p1), .val (.int p2), .val (.long p3), .second, .val (.int p4), .val (.int (1 : Int32)), .val (.int i6), .val (.int c7), .val (.long j8), .second, .unset, .unset] [])) tg
      refine X0.ldc2Long hx hown (mvT hZ (hw _ (List.mem_of_getElem? (i := 5) rfl))) (g := (mkF m 146 #[.val (.int p1), .val (.int p2), .val (.long p3), .second, .val (.int p4), .val (.int (1 : Int32)), .val (.int i6), .val (.int c7), .val (.long j8), .second, .unset, .unset] [])) rfl (hb hby at_146) _ ?_
      show Steps p.tables e below (T0.setTop (mkF m 149 #[.val (.int p1), .val (.int p2), .val (.long p3), .second, .val (.int p4), .val (.int (1 : Int32)), .val (.int i6), .val (.int c7), .val (.long j8), .second, .unset, .unset] [(.long (32 : Int64))])) tg
      refine XS.iload X0.here hx rfl (hb hby at_149) rfl ?_
      show Steps p.tables e below (T0.setTop (mkF m 151 #[.val (.int p1), .val (.int p2), .val (.long p3), .second, .val (.int p4), .val (.int (1 : Int32)), .val (.int i6), .val (.int c7), .val (.long j8), .second, .unset, .unset] [(.int c7), (.long (32 : Int64))])) tg
      refine XS.i2l X0.here hx rfl (hb hby at_151) rfl ?_
      show Steps p.tables e below (T0.setTop (mkF m 152 #[.val (.int p1), .val (.int p2), .val (.long p3), .second, .val (.int p4), .val (.int (1 : Int32)), .val (.int i6), .val (.int c7), .val (.long j8), .second, .unset, .unset] [(.long (c7.toInt64)), (.long (32 : Int64))])) tg
      refine XS.lmul X0.here hx rfl (hb hby at_152) rfl ?_
      show Steps p.tables e below (T0.setTop (mkF m 153 #[.val (.int p1), .val (.int p2), .val (.long p3), .second, .val (.int p4), .val (.int (1 : Int32)), .val (.int i6), .val (.int c7), .val (.long j8), .second, .unset, .unset] [(.long ((32 : Int64) * (c7.toInt64)))])) tg
      refine XS.iload X0.here hx rfl (hb hby at_153) rfl ?_
      show Steps p.tables e below (T0.setTop (mkF m 155 #[.val (.int p1), .val (.int p2), .val (.long p3), .second, .val (.int p4), .val (.int (1 : Int32)), .val (.int i6), .val (.int c7), .val (.long j8), .second, .unset, .unset] [(.int c7), (.long ((32 : Int64) * (c7.toInt64)))])) tg
      refine XS.i2l X0.here hx rfl (hb hby at_155) rfl ?_
      show Steps p.tables e below (T0.setTop (mkF m 156 #[.val (.int p1), .val (.int p2), .val (.long p3), .second, .val (.int p4), .val (.int (1 : Int32)), .val (.int i6), .val (.int c7), .val (.long j8), .second, .unset, .unset] [(.long (c7.toInt64)), (.long ((32 : Int64) * (c7.toInt64)))])) tg
      refine XS.lmul X0.here hx rfl (hb hby at_156) rfl ?_
      show Steps p.tables e below (T0.setTop (mkF m 157 #[.val (.int p1), .val (.int p2), .val (.long p3), .second, .val (.int p4), .val (.int (1 : Int32)), .val (.int i6), .val (.int c7), .val (.long j8), .second, .unset, .unset] [(.long (((32 : Int64) * (c7.toInt64)) * (c7.toInt64)))])) tg
      refine XS.lload X0.here hx rfl (hb hby at_157) rfl ?_
      show Steps p.tables e below (T0.setTop (mkF m 159 #[.val (.int p1), .val (.int p2), .val (.long p3), .second, .val (.int p4), .val (.int (1 : Int32)), .val (.int i6), .val (.int c7), .val (.long j8), .second, .unset, .unset] [(.long j8), (.long (((32 : Int64) * (c7.toInt64)) * (c7.toInt64)))])) tg
      refine XS.lcmp X0.here hx rfl (hb hby at_159) rfl ?_
      exact kt
    by_cases hc160 : j8 < (((32 : Int64) * (c7.toInt64)) * (c7.toInt64))
    · skip
      refine own_seg (T' := T0) (g' := (mkF m 167 #[.val (.int p1), .val (.int p2), .val (.long p3), .second, .val (.int p4), .val (.int (1 : Int32)), .val (.int i6), .val (.int c7), .val (.long j8), .second, .unset, .unset] [])) (fun tg kt => XS.ifYes X0.here hx rfl (pc0 := 160) (pc' := 167) rfl (hb hby at_160) rfl ((if0 _ _).trans (tlt ((lw_gt _ _).mpr hc160)).2.2.1) (by decide) (by decide) kt) ?_
      refine own_seg (T' := T0) (g' := (mkF m 176 #[.val (.int p1), .val (.int p2), .val (.long p3), .second, .val (.int p4), .val (.int (1 : Int32)), .val (.int i6), .val (.int c7), .val (.long j8), .second, .val (.int (0 : Int32)), .unset] [(.long j8), (.int (1 : Int32)), (.int c7)])) (fun tg kt => ?_) ?_
      · show Steps p.tables e below (T0.setTop (mkF m 167 #[.val (.int p1), .val (.int p2), .val (.long p3), .second, .val (.int p4), .val (.int (1 : Int32)), .val (.int i6), .val (.int c7), .val (.long j8), .second, .unset, .unset] [])) tg
        refine XS.iconst X0.here hx rfl (hb hby at_167) ?_
        show Steps p.tables e below (T0.setTop (mkF m 168 #[.val (.int p1), .val (.int p2), .val (.long p3), .second, .val (.int p4), .val (.int (1 : Int32)), .val (.int i6), .val (.int c7), .val (.long j8), .second, .unset, .unset] [(.int (0 : Int32))])) tg
        refine XS.istore X0.here hx rfl (hb hby at_168) rfl (l' := #[.val (.int p1), .val (.int p2), .val (.long p3), .second, .val (.int p4), .val (.int (1 : Int32)), .val (.int i6), .val (.int c7), .val (.long j8), .second, .val (.int (0 : Int32)), .unset]) rfl ?_
        show Steps p.tables e below (T0.setTop (mkF m 170 #[.val (.int p1), .val (.int p2), .val (.long p3), .second, .val (.int p4), .val (.int (1 : Int32)), .val (.int i6), .val (.int c7), .val (.long j8), .second, .val (.int (0 : Int32)), .unset] [])) tg
        refine XS.iload X0.here hx rfl (hb hby at_170) rfl ?_
        show Steps p.tables e below (T0.setTop (mkF m 172 #[.val (.int p1), .val (.int p2), .val (.long p3), .second, .val (.int p4), .val (.int (1 : Int32)), .val (.int i6), .val (.int c7), .val (.long j8), .second, .val (.int (0 : Int32)), .unset] [(.int c7)])) tg
        refine XS.iload X0.here hx rfl (hb hby at_172) rfl ?_
        show Steps p.tables e below (T0.setTop (mkF m 174 #[.val (.int p1), .val (.int p2), .val (.long p3), .second, .val (.int p4), .val (.int (1 : Int32)), .val (.int i6), .val (.int c7), .val (.long j8), .second, .val (.int (0 : Int32)), .unset] [(.int (1 : Int32)), (.int c7)])) tg
        refine XS.lload X0.here hx rfl (hb hby at_174) rfl ?_
        exact kt
      refine own_callS K X0 e0 (rm3 l Z a0 hw c7 (1 : Int32) j8 0 h0 n0 Z0 hz hh (by rw [own_keep, if_neg (fun q_ => absurd q_.1 (by decide)), if_neg hc143, if_pos hc160])) (hw _ (List.mem_of_getElem? (i := 10) rfl)) (hw _ (List.mem_of_getElem? (i := 11) rfl)) (hw _ (List.mem_of_getElem? (i := 12) rfl)) (hw _ (List.mem_of_getElem? (i := 13) rfl)) (by decide) [(.int c7), (.int (1 : Int32)), (.long j8)] [] own_pd0 rfl rfl rfl rfl at_176 (by decide) (Nat.le_of_ble_eq_true rfl) (by decide) (by decide) ?_
      intro T2 L2 v2 X2 hQ2
      obtain ⟨rfl, Nq2, e2⟩ := hQ2
      have N2 := Fr.app N0 Nq2
      show own_Fin p e below _ T2 (mkF m 179 #[.val (.int p1), .val (.int p2), .val (.long p3), .second, .val (.int p4), .val (.int (1 : Int32)), .val (.int i6), .val (.int c7), .val (.long j8), .second, .val (.int (0 : Int32)), .unset] [(.int (0 : Int32))])
      refine own_seg (T' := T2) (g' := (mkF m 181 #[.val (.int p1), .val (.int p2), .val (.long p3), .second, .val (.int p4), .val (.int (1 : Int32)), .val (.int i6), .val (.int c7), .val (.long j8), .second, .val (.int (0 : Int32)), .unset] [(.int (0 : Int32)), (.int (0 : Int32))])) (fun tg kt => ?_) ?_
      · show Steps p.tables e below (T2.setTop (mkF m 179 #[.val (.int p1), .val (.int p2), .val (.long p3), .second, .val (.int p4), .val (.int (1 : Int32)), .val (.int i6), .val (.int c7), .val (.long j8), .second, .val (.int (0 : Int32)), .unset] [(.int (0 : Int32))])) tg
        refine XS.iload X2.here hx rfl (hb hby at_179) rfl ?_
        exact kt
      have hc181 : (0 : Int32) = (0 : Int32) := by decide
      refine own_seg (T' := T2) (g' := (mkF m 184 #[.val (.int p1), .val (.int p2), .val (.long p3), .second, .val (.int p4), .val (.int (1 : Int32)), .val (.int i6), .val (.int c7), .val (.long j8), .second, .val (.int (0 : Int32)), .unset] [])) (fun tg kt => XS.icmpNo X2.here hx rfl (hb hby at_181) rfl (teq hc181).2 kt) ?_
      refine own_seg (T' := T2) (g' := (mkF m 189 #[.val (.int p1), .val (.int p2), .val (.long p3), .second, .val (.int p4), .val (.int (1 : Int32)), .val (.int i6), .val (.int c7), .val (.long j8), .second, .val (.int (0 : Int32)), .unset] [(.int (1 : Int32))])) (fun tg kt => ?_) ?_
      · show Steps p.tables e below (T2.setTop (mkF m 184 #[.val (.int p1), .val (.int p2), .val (.long p3), .second, .val (.int p4), .val (.int (1 : Int32)), .val (.int i6), .val (.int c7), .val (.long j8), .second, .val (.int (0 : Int32)), .unset] [])) tg
        refine XS.iconst X2.here hx rfl (hb hby at_184) ?_
        show Steps p.tables e below (T2.setTop (mkF m 185 #[.val (.int p1), .val (.int p2), .val (.long p3), .second, .val (.int p4), .val (.int (1 : Int32)), .val (.int i6), .val (.int c7), .val (.long j8), .second, .val (.int (0 : Int32)), .unset] [(.int (1 : Int32))])) tg
        refine XS.goto X2.here hx rfl (pc0 := 185) (pc' := 189) rfl (hb hby at_185) (by decide) (by decide) ?_
        exact kt
      exact own_retN K (by simp) X2 at_189 (⟨rfl, N2⟩) (by decide) (by decide)
    · skip
      refine own_seg (T' := T0) (g' := (mkF m 163 #[.val (.int p1), .val (.int p2), .val (.long p3), .second, .val (.int p4), .val (.int (1 : Int32)), .val (.int i6), .val (.int c7), .val (.long j8), .second, .unset, .unset] [])) (fun tg kt => XS.ifNo X0.here hx rfl (hb hby at_160) rfl ((if0 _ _).trans (flt (fun q_ => hc160 ((lw_gt _ _).mp q_))).2.2.1) kt) ?_
      refine own_seg (T' := T0) (g' := (mkF m 176 #[.val (.int p1), .val (.int p2), .val (.long p3), .second, .val (.int p4), .val (.int (1 : Int32)), .val (.int i6), .val (.int c7), .val (.long j8), .second, .val (.int (1 : Int32)), .unset] [(.long j8), (.int (1 : Int32)), (.int c7)])) (fun tg kt => ?_) ?_
      · show Steps p.tables e below (T0.setTop (mkF m 163 #[.val (.int p1), .val (.int p2), .val (.long p3), .second, .val (.int p4), .val (.int (1 : Int32)), .val (.int i6), .val (.int c7), .val (.long j8), .second, .unset, .unset] [])) tg
        refine XS.iconst X0.here hx rfl (hb hby at_163) ?_
        show Steps p.tables e below (T0.setTop (mkF m 164 #[.val (.int p1), .val (.int p2), .val (.long p3), .second, .val (.int p4), .val (.int (1 : Int32)), .val (.int i6), .val (.int c7), .val (.long j8), .second, .unset, .unset] [(.int (1 : Int32))])) tg
        refine XS.goto X0.here hx rfl (pc0 := 164) (pc' := 168) rfl (hb hby at_164) (by decide) (by decide) ?_
        show Steps p.tables e below (T0.setTop (mkF m 168 #[.val (.int p1), .val (.int p2), .val (.long p3), .second, .val (.int p4), .val (.int (1 : Int32)), .val (.int i6), .val (.int c7), .val (.long j8), .second, .unset, .unset] [(.int (1 : Int32))])) tg
        refine XS.istore X0.here hx rfl (hb hby at_168) rfl (l' := #[.val (.int p1), .val (.int p2), .val (.long p3), .second, .val (.int p4), .val (.int (1 : Int32)), .val (.int i6), .val (.int c7), .val (.long j8), .second, .val (.int (1 : Int32)), .unset]) rfl ?_
        show Steps p.tables e below (T0.setTop (mkF m 170 #[.val (.int p1), .val (.int p2), .val (.long p3), .second, .val (.int p4), .val (.int (1 : Int32)), .val (.int i6), .val (.int c7), .val (.long j8), .second, .val (.int (1 : Int32)), .unset] [])) tg
        refine XS.iload X0.here hx rfl (hb hby at_170) rfl ?_
        show Steps p.tables e below (T0.setTop (mkF m 172 #[.val (.int p1), .val (.int p2), .val (.long p3), .second, .val (.int p4), .val (.int (1 : Int32)), .val (.int i6), .val (.int c7), .val (.long j8), .second, .val (.int (1 : Int32)), .unset] [(.int c7)])) tg
        refine XS.iload X0.here hx rfl (hb hby at_172) rfl ?_
        show Steps p.tables e below (T0.setTop (mkF m 174 #[.val (.int p1), .val (.int p2), .val (.long p3), .second, .val (.int p4), .val (.int (1 : Int32)), .val (.int i6), .val (.int c7), .val (.long j8), .second, .val (.int (1 : Int32)), .unset] [(.int (1 : Int32)), (.int c7)])) tg
        refine XS.lload X0.here hx rfl (hb hby at_174) rfl ?_
        exact kt
      refine own_callS K X0 e0 (rm3 l Z a0 hw c7 (1 : Int32) j8 1 h0 n0 Z0 hz hh (by rw [own_keep, if_neg (fun q_ => absurd q_.1 (by decide)), if_neg hc143, if_neg hc160])) (hw _ (List.mem_of_getElem? (i := 10) rfl)) (hw _ (List.mem_of_getElem? (i := 11) rfl)) (hw _ (List.mem_of_getElem? (i := 12) rfl)) (hw _ (List.mem_of_getElem? (i := 13) rfl)) (by decide) [(.int c7), (.int (1 : Int32)), (.long j8)] [] own_pd0 rfl rfl rfl rfl at_176 (by decide) (Nat.le_of_ble_eq_true rfl) (by decide) (by decide) ?_
      intro T3 L3 v3 X3 hQ3
      obtain ⟨rfl, Nq3, e3⟩ := hQ3
      have N3 := Fr.app N0 Nq3
      show own_Fin p e below _ T3 (mkF m 179 #[.val (.int p1), .val (.int p2), .val (.long p3), .second, .val (.int p4), .val (.int (1 : Int32)), .val (.int i6), .val (.int c7), .val (.long j8), .second, .val (.int (1 : Int32)), .unset] [(.int (1 : Int32))])
      refine own_seg (T' := T3) (g' := (mkF m 181 #[.val (.int p1), .val (.int p2), .val (.long p3), .second, .val (.int p4), .val (.int (1 : Int32)), .val (.int i6), .val (.int c7), .val (.long j8), .second, .val (.int (1 : Int32)), .unset] [(.int (1 : Int32)), (.int (1 : Int32))])) (fun tg kt => ?_) ?_
      · show Steps p.tables e below (T3.setTop (mkF m 179 #[.val (.int p1), .val (.int p2), .val (.long p3), .second, .val (.int p4), .val (.int (1 : Int32)), .val (.int i6), .val (.int c7), .val (.long j8), .second, .val (.int (1 : Int32)), .unset] [(.int (1 : Int32))])) tg
        refine XS.iload X3.here hx rfl (hb hby at_179) rfl ?_
        exact kt
      have hc181 : (1 : Int32) = (1 : Int32) := by decide
      refine own_seg (T' := T3) (g' := (mkF m 184 #[.val (.int p1), .val (.int p2), .val (.long p3), .second, .val (.int p4), .val (.int (1 : Int32)), .val (.int i6), .val (.int c7), .val (.long j8), .second, .val (.int (1 : Int32)), .unset] [])) (fun tg kt => XS.icmpNo X3.here hx rfl (hb hby at_181) rfl (teq hc181).2 kt) ?_
      refine own_seg (T' := T3) (g' := (mkF m 189 #[.val (.int p1), .val (.int p2), .val (.long p3), .second, .val (.int p4), .val (.int (1 : Int32)), .val (.int i6), .val (.int c7), .val (.long j8), .second, .val (.int (1 : Int32)), .unset] [(.int (1 : Int32))])) (fun tg kt => ?_) ?_
      · show Steps p.tables e below (T3.setTop (mkF m 184 #[.val (.int p1), .val (.int p2), .val (.long p3), .second, .val (.int p4), .val (.int (1 : Int32)), .val (.int i6), .val (.int c7), .val (.long j8), .second, .val (.int (1 : Int32)), .unset] [])) tg
        refine XS.iconst X3.here hx rfl (hb hby at_184) ?_
        show Steps p.tables e below (T3.setTop (mkF m 185 #[.val (.int p1), .val (.int p2), .val (.long p3), .second, .val (.int p4), .val (.int (1 : Int32)), .val (.int i6), .val (.int c7), .val (.long j8), .second, .val (.int (1 : Int32)), .unset] [(.int (1 : Int32))])) tg
        refine XS.goto X3.here hx rfl (pc0 := 185) (pc' := 189) rfl (hb hby at_185) (by decide) (by decide) ?_
        exact kt
      exact own_retN K (by simp) X3 at_189 (⟨rfl, N3⟩) (by decide) (by decide)
set_option maxRecDepth 65536 in
set_option maxHeartbeats 40000000 in
theorem sg0_126b1 {p : Program} {l : Launch} {e : Env} {s : State} {m : MethodId} {args : Array Value} {below : List Frame} {meth : Method} {c : Code} {T0 : State} {locs : List Loc} {Z : State} {a0 : Array Value} {h0 : Heap} {n0 : Nat} (hw : ∀ d ∈ tables_1, d.before a0 Z = true) (p1 p2 : Int32) (p3 : Int64) (p4 i6 c7 : Int32) (j8 j10 : Int64)
    (K : own_Ctx p Z s m meth c "com/example/murmuration/murmuration/LegTableIsWorthKeepingPinLaw" code maxLocals ret "law") (X0 : Stand p l e room_1 s m args below meth c T0 locs 0 0) (e0 : T0.heap = h0) (N0 : Fr n0 locs) (Z0 : n0 ≤ h0.size) (hz : ¬ c7 < 0) (hh : ¬ j8 < 0) :
    own_Fin p e below (own_P s room_1 (own_Q1 n0)) T0 (mkF m 126 #[.val (.int p1), .val (.int p2), .val (.long p3), .second, .val (.int p4), .val (.int (1 : Int32)), .val (.int i6), .val (.int c7), .val (.long j8), .second, .val (.long j10), .second] []) := by
  have hx := K.1
  have hZ := K.2.1
  have hby := K.2.2.1
  have hown := K.2.2.2.2.1
  refine own_seg (T' := T0) (g' := (mkF m 128 #[.val (.int p1), .val (.int p2), .val (.long p3), .second, .val (.int p4), .val (.int (1 : Int32)), .val (.int i6), .val (.int c7), .val (.long j8), .second, .val (.long j10), .second] [(.int (1 : Int32))])) (fun tg kt => ?_) ?_
  · show Steps p.tables e below (T0.setTop (mkF m 126 #[.val (.int p1), .val (.int p2), .val (.long p3), .second, .val (.int p4), .val (.int (1 : Int32)), .val (.int i6), .val (.int c7), .val (.long j8), .second, .val (.long j10), .second] [])) tg
    refine XS.iload X0.here hx rfl (hb hby at_126) rfl ?_
    exact kt
  have hc128 : ¬ ((1 : Int32) = (0 : Int32)) := by decide
  refine own_seg (T' := T0) (g' := (mkF m 139 #[.val (.int p1), .val (.int p2), .val (.long p3), .second, .val (.int p4), .val (.int (1 : Int32)), .val (.int i6), .val (.int c7), .val (.long j8), .second, .val (.long j10), .second] [])) (fun tg kt => XS.ifYes X0.here hx rfl (pc0 := 128) (pc' := 139) rfl (hb hby at_128) rfl ((if0 _ _).trans (feq hc128).2) (by decide) (by decide) kt) ?_
  refine own_seg (T' := T0) (g' := (mkF m 143 #[.val (.int p1), .val (.int p2), .val (.long p3), .second, .val (.int p4), .val (.int (1 : Int32)), .val (.int i6), .val (.int c7), .val (.long j8), .second, .val (.long j10), .second] [(.int (46340 : Int32)), (.int c7)])) (fun tg kt => ?_) ?_
  · show Steps p.tables e below (T0.setTop (mkF m 139 #[.val (.int p1), .val (.int p2), .val (.long p3), .second, .val (.int p4), .val (.int (1 : Int32)), .val (.int i6), .val (.int c7), .val (.long j8), .second, .val (.long j10), .second] [])) tg
    refine XS.iload X0.here hx rfl (hb hby at_139) rfl ?_
    show Steps p.tables e below (T0.setTop (mkF m 141 #[.val (.int p1), .val (.int p2), .val (.long p3), .second, .val (.int p4), .val (.int (1 : Int32)), .val (.int i6), .val (.int c7), .val (.long j8), .second, .val (.long j10), .second] [(.int c7)])) tg
    refine X0.ldcInt hx hown (mvT hZ (hw _ (List.mem_of_getElem? (i := 9) rfl))) (g := (mkF m 141 #[.val (.int p1), .val (.int p2), .val (.long p3), .second, .val (.int p4), .val (.int (1 : Int32)), .val (.int i6), .val (.int c7), .val (.long j8), .second, .val (.long j10), .second] [(.int c7)])) rfl (hb hby at_141) _ ?_
    exact kt
  by_cases hc143 : (46340 : Int32) < c7
  · skip
    refine own_seg (T' := T0) (g' := (mkF m 167 #[.val (.int p1), .val (.int p2), .val (.long p3), .second, .val (.int p4), .val (.int (1 : Int32)), .val (.int i6), .val (.int c7), .val (.long j8), .second, .val (.long j10), .second] [])) (fun tg kt => XS.icmpYes X0.here hx rfl (pc0 := 143) (pc' := 167) rfl (hb hby at_143) rfl (tlt hc143).2.2.1 (by decide) (by decide) kt) ?_
    refine own_seg (T' := T0) (g' := (mkF m 176 #[.val (.int p1), .val (.int p2), .val (.long p3), .second, .val (.int p4), .val (.int (1 : Int32)), .val (.int i6), .val (.int c7), .val (.long j8), .second, .val (.int (0 : Int32)), .unset] [(.long j8), (.int (1 : Int32)), (.int c7)])) (fun tg kt => ?_) ?_
    · show Steps p.tables e below (T0.setTop (mkF m 167 #[.val (.int p1), .val (.int p2), .val (.long p3), .second, .val (.int p4), .val (.int (1 : Int32)), .val (.int i6), .val (.int c7), .val (.long j8), .second, .val (.long j10), .second] [])) tg
      refine XS.iconst X0.here hx rfl (hb hby at_167) ?_
      show Steps p.tables e below (T0.setTop (mkF m 168 #[.val (.int p1), .val (.int p2), .val (.long p3), .second, .val (.int p4), .val (.int (1 : Int32)), .val (.int i6), .val (.int c7), .val (.long j8), .second, .val (.long j10), .second] [(.int (0 : Int32))])) tg
      refine XS.istore X0.here hx rfl (hb hby at_168) rfl (l' := #[.val (.int p1), .val (.int p2), .val (.long p3), .second, .val (.int p4), .val (.int (1 : Int32)), .val (.int i6), .val (.int c7), .val (.long j8), .second, .val (.int (0 : Int32)), .unset]) rfl ?_
      show Steps p.tables e below (T0.setTop (mkF m 170 #[.val (.int p1), .val (.int p2), .val (.long p3), .second, .val (.int p4), .val (.int (1 : Int32)), .val (.int i6), .val (.int c7), .val (.long j8), .second, .val (.int (0 : Int32)), .unset] [])) tg
      refine XS.iload X0.here hx rfl (hb hby at_170) rfl ?_
      show Steps p.tables e below (T0.setTop (mkF m 172 #[.val (.int p1), .val (.int p2), .val (.long p3), .second, .val (.int p4), .val (.int (1 : Int32)), .val (.int i6), .val (.int c7), .val (.long j8), .second, .val (.int (0 : Int32)), .unset] [(.int c7)])) tg
      refine XS.iload X0.here hx rfl (hb hby at_172) rfl ?_
      show Steps p.tables e below (T0.setTop (mkF m 174 #[.val (.int p1), .val (.int p2), .val (.long p3), .second, .val (.int p4), .val (.int (1 : Int32)), .val (.int i6), .val (.int c7), .val (.long j8), .second, .val (.int (0 : Int32)), .unset] [(.int (1 : Int32)), (.int c7)])) tg
      refine XS.lload X0.here hx rfl (hb hby at_174) rfl ?_
      exact kt
    refine own_callS K X0 e0 (rm3 l Z a0 hw c7 (1 : Int32) j8 0 h0 n0 Z0 hz hh (by rw [own_keep, if_neg (fun q_ => absurd q_.1 (by decide)), if_pos hc143])) (hw _ (List.mem_of_getElem? (i := 10) rfl)) (hw _ (List.mem_of_getElem? (i := 11) rfl)) (hw _ (List.mem_of_getElem? (i := 12) rfl)) (hw _ (List.mem_of_getElem? (i := 13) rfl)) (by decide) [(.int c7), (.int (1 : Int32)), (.long j8)] [] own_pd0 rfl rfl rfl rfl at_176 (by decide) (Nat.le_of_ble_eq_true rfl) (by decide) (by decide) ?_
    intro T1 L1 v1 X1 hQ1
    obtain ⟨rfl, Nq1, e1⟩ := hQ1
    have N1 := Fr.app N0 Nq1
    show own_Fin p e below _ T1 (mkF m 179 #[.val (.int p1), .val (.int p2), .val (.long p3), .second, .val (.int p4), .val (.int (1 : Int32)), .val (.int i6), .val (.int c7), .val (.long j8), .second, .val (.int (0 : Int32)), .unset] [(.int (0 : Int32))])
    refine own_seg (T' := T1) (g' := (mkF m 181 #[.val (.int p1), .val (.int p2), .val (.long p3), .second, .val (.int p4), .val (.int (1 : Int32)), .val (.int i6), .val (.int c7), .val (.long j8), .second, .val (.int (0 : Int32)), .unset] [(.int (0 : Int32)), (.int (0 : Int32))])) (fun tg kt => ?_) ?_
    · show Steps p.tables e below (T1.setTop (mkF m 179 #[.val (.int p1), .val (.int p2), .val (.long p3), .second, .val (.int p4), .val (.int (1 : Int32)), .val (.int i6), .val (.int c7), .val (.long j8), .second, .val (.int (0 : Int32)), .unset] [(.int (0 : Int32))])) tg
      refine XS.iload X1.here hx rfl (hb hby at_179) rfl ?_
      exact kt
    have hc181 : (0 : Int32) = (0 : Int32) := by decide
    refine own_seg (T' := T1) (g' := (mkF m 184 #[.val (.int p1), .val (.int p2), .val (.long p3), .second, .val (.int p4), .val (.int (1 : Int32)), .val (.int i6), .val (.int c7), .val (.long j8), .second, .val (.int (0 : Int32)), .unset] [])) (fun tg kt => XS.icmpNo X1.here hx rfl (hb hby at_181) rfl (teq hc181).2 kt) ?_
    refine own_seg (T' := T1) (g' := (mkF m 189 #[.val (.int p1), .val (.int p2), .val (.long p3), .second, .val (.int p4), .val (.int (1 : Int32)), .val (.int i6), .val (.int c7), .val (.long j8), .second, .val (.int (0 : Int32)), .unset] [(.int (1 : Int32))])) (fun tg kt => ?_) ?_
    · show Steps p.tables e below (T1.setTop (mkF m 184 #[.val (.int p1), .val (.int p2), .val (.long p3), .second, .val (.int p4), .val (.int (1 : Int32)), .val (.int i6), .val (.int c7), .val (.long j8), .second, .val (.int (0 : Int32)), .unset] [])) tg
      refine XS.iconst X1.here hx rfl (hb hby at_184) ?_
      show Steps p.tables e below (T1.setTop (mkF m 185 #[.val (.int p1), .val (.int p2), .val (.long p3), .second, .val (.int p4), .val (.int (1 : Int32)), .val (.int i6), .val (.int c7), .val (.long j8), .second, .val (.int (0 : Int32)), .unset] [(.int (1 : Int32))])) tg
      refine XS.goto X1.here hx rfl (pc0 := 185) (pc' := 189) rfl (hb hby at_185) (by decide) (by decide) ?_
      exact kt
    exact own_retN K (by simp) X1 at_189 (⟨rfl, N1⟩) (by decide) (by decide)
  · skip
    refine own_seg (T' := T0) (g' := (mkF m 146 #[.val (.int p1), .val (.int p2), .val (.long p3), .second, .val (.int p4), .val (.int (1 : Int32)), .val (.int i6), .val (.int c7), .val (.long j8), .second, .val (.long j10), .second] [])) (fun tg kt => XS.icmpNo X0.here hx rfl (hb hby at_143) rfl (flt hc143).2.2.1 kt) ?_
    refine own_seg (T' := T0) (g' := (mkF m 160 #[.val (.int p1), .val (.int p2), .val (.long p3), .second, .val (.int p4), .val (.int (1 : Int32)), .val (.int i6), .val (.int c7), .val (.long j8), .second, .val (.long j10), .second] [(.int (lcmpW (((32 : Int64) * (c7.toInt64)) * (c7.toInt64)) j8))])) (fun tg kt => ?_) ?_
    · show Steps p.tables e below (T0.setTop (mkF m 146 #[.val (.int p1), .val (.int p2), .val (.long p3), .second, .val (.int p4), .val (.int (1 : Int32)), .val (.int i6), .val (.int c7), .val (.long j8), .second, .val (.long j10), .second] [])) tg
      refine X0.ldc2Long hx hown (mvT hZ (hw _ (List.mem_of_getElem? (i := 5) rfl))) (g := (mkF m 146 #[.val (.int p1), .val (.int p2), .val (.long p3), .second, .val (.int p4), .val (.int (1 : Int32)), .val (.int i6), .val (.int c7), .val (.long j8), .second, .val (.long j10), .second] [])) rfl (hb hby at_146) _ ?_
      show Steps p.tables e below (T0.setTop (mkF m 149 #[.val (.int p1), .val (.int p2), .val (.long p3), .second, .val (.int p4), .val (.int (1 : Int32)), .val (.int i6), .val (.int c7), .val (.long j8), .second, .val (.long j10), .second] [(.long (32 : Int64))])) tg
      refine XS.iload X0.here hx rfl (hb hby at_149) rfl ?_
      show Steps p.tables e below (T0.setTop (mkF m 151 #[.val (.int p1), .val (.int p2), .val (.long p3), .second, .val (.int p4), .val (.int (1 : Int32)), .val (.int i6), .val (.int c7), .val (.long j8), .second, .val (.long j10), .second] [(.int c7), (.long (32 : Int64))])) tg
      refine XS.i2l X0.here hx rfl (hb hby at_151) rfl ?_
      show Steps p.tables e below (T0.setTop (mkF m 152 #[.val (.int p1), .val (.int p2), .val (.long p3), .second, .val (.int p4), .val (.int (1 : Int32)), .val (.int i6), .val (.int c7), .val (.long j8), .second, .val (.long j10), .second] [(.long (c7.toInt64)), (.long (32 : Int64))])) tg
      refine XS.lmul X0.here hx rfl (hb hby at_152) rfl ?_
      show Steps p.tables e below (T0.setTop (mkF m 153 #[.val (.int p1), .val (.int p2), .val (.long p3), .second, .val (.int p4), .val (.int (1 : Int32)), .val (.int i6), .val (.int c7), .val (.long j8), .second, .val (.long j10), .second] [(.long ((32 : Int64) * (c7.toInt64)))])) tg
      refine XS.iload X0.here hx rfl (hb hby at_153) rfl ?_
      show Steps p.tables e below (T0.setTop (mkF m 155 #[.val (.int p1), .val (.int p2), .val (.long p3), .second, .val (.int p4), .val (.int (1 : Int32)), .val (.int i6), .val (.int c7), .val (.long j8), .second, .val (.long j10), .second] [(.int c7), (.long ((32 : Int64) * (c7.toInt64)))])) tg
      refine XS.i2l X0.here hx rfl (hb hby at_155) rfl ?_
      show Steps p.tables e below (T0.setTop (mkF m 156 #[.val (.int p1), .val (.int p2), .val (.long p3), .second, .val (.int p4), .val (.int (1 : Int32)), .val (.int i6), .val (.int c7), .val (.long j8), .second, .val (.long j10), .second] [(.long (c7.toInt64)), (.long ((32 : Int64) * (c7.toInt64)))])) tg
      refine XS.lmul X0.here hx rfl (hb hby at_156) rfl ?_
      show Steps p.tables e below (T0.setTop (mkF m 157 #[.val (.int p1), .val (.int p2), .val (.long p3), .second, .val (.int p4), .val (.int (1 : Int32)), .val (.int i6), .val (.int c7), .val (.long j8), .second, .val (.long j10), .second] [(.long (((32 : Int64) * (c7.toInt64)) * (c7.toInt64)))])) tg
      refine XS.lload X0.here hx rfl (hb hby at_157) rfl ?_
      show Steps p.tables e below (T0.setTop (mkF m 159 #[.val (.int p1), .val (.int p2), .val (.long p3), .second, .val (.int p4), .val (.int (1 : Int32)), .val (.int i6), .val (.int c7), .val (.long j8), .second, .val (.long j10), .second] [(.long j8), (.long (((32 : Int64) * (c7.toInt64)) * (c7.toInt64)))])) tg
      refine XS.lcmp X0.here hx rfl (hb hby at_159) rfl ?_
      exact kt
    by_cases hc160 : j8 < (((32 : Int64) * (c7.toInt64)) * (c7.toInt64))
    · skip
      refine own_seg (T' := T0) (g' := (mkF m 167 #[.val (.int p1), .val (.int p2), .val (.long p3), .second, .val (.int p4), .val (.int (1 : Int32)), .val (.int i6), .val (.int c7), .val (.long j8), .second, .val (.long j10), .second] [])) (fun tg kt => XS.ifYes X0.here hx rfl (pc0 := 160) (pc' := 167) rfl (hb hby at_160) rfl ((if0 _ _).trans (tlt ((lw_gt _ _).mpr hc160)).2.2.1) (by decide) (by decide) kt) ?_
      refine own_seg (T' := T0) (g' := (mkF m 176 #[.val (.int p1), .val (.int p2), .val (.long p3), .second, .val (.int p4), .val (.int (1 : Int32)), .val (.int i6), .val (.int c7), .val (.long j8), .second, .val (.int (0 : Int32)), .unset] [(.long j8), (.int (1 : Int32)), (.int c7)])) (fun tg kt => ?_) ?_
      · show Steps p.tables e below (T0.setTop (mkF m 167 #[.val (.int p1), .val (.int p2), .val (.long p3), .second, .val (.int p4), .val (.int (1 : Int32)), .val (.int i6), .val (.int c7), .val (.long j8), .second, .val (.long j10), .second] [])) tg
        refine XS.iconst X0.here hx rfl (hb hby at_167) ?_
        show Steps p.tables e below (T0.setTop (mkF m 168 #[.val (.int p1), .val (.int p2), .val (.long p3), .second, .val (.int p4), .val (.int (1 : Int32)), .val (.int i6), .val (.int c7), .val (.long j8), .second, .val (.long j10), .second] [(.int (0 : Int32))])) tg
        refine XS.istore X0.here hx rfl (hb hby at_168) rfl (l' := #[.val (.int p1), .val (.int p2), .val (.long p3), .second, .val (.int p4), .val (.int (1 : Int32)), .val (.int i6), .val (.int c7), .val (.long j8), .second, .val (.int (0 : Int32)), .unset]) rfl ?_
        show Steps p.tables e below (T0.setTop (mkF m 170 #[.val (.int p1), .val (.int p2), .val (.long p3), .second, .val (.int p4), .val (.int (1 : Int32)), .val (.int i6), .val (.int c7), .val (.long j8), .second, .val (.int (0 : Int32)), .unset] [])) tg
        refine XS.iload X0.here hx rfl (hb hby at_170) rfl ?_
        show Steps p.tables e below (T0.setTop (mkF m 172 #[.val (.int p1), .val (.int p2), .val (.long p3), .second, .val (.int p4), .val (.int (1 : Int32)), .val (.int i6), .val (.int c7), .val (.long j8), .second, .val (.int (0 : Int32)), .unset] [(.int c7)])) tg
        refine XS.iload X0.here hx rfl (hb hby at_172) rfl ?_
        show Steps p.tables e below (T0.setTop (mkF m 174 #[.val (.int p1), .val (.int p2), .val (.long p3), .second, .val (.int p4), .val (.int (1 : Int32)), .val (.int i6), .val (.int c7), .val (.long j8), .second, .val (.int (0 : Int32)), .unset] [(.int (1 : Int32)), (.int c7)])) tg
        refine XS.lload X0.here hx rfl (hb hby at_174) rfl ?_
        exact kt
      refine own_callS K X0 e0 (rm3 l Z a0 hw c7 (1 : Int32) j8 0 h0 n0 Z0 hz hh (by rw [own_keep, if_neg (fun q_ => absurd q_.1 (by decide)), if_neg hc143, if_pos hc160])) (hw _ (List.mem_of_getElem? (i := 10) rfl)) (hw _ (List.mem_of_getElem? (i := 11) rfl)) (hw _ (List.mem_of_getElem? (i := 12) rfl)) (hw _ (List.mem_of_getElem? (i := 13) rfl)) (by decide) [(.int c7), (.int (1 : Int32)), (.long j8)] [] own_pd0 rfl rfl rfl rfl at_176 (by decide) (Nat.le_of_ble_eq_true rfl) (by decide) (by decide) ?_
      intro T2 L2 v2 X2 hQ2
      obtain ⟨rfl, Nq2, e2⟩ := hQ2
      have N2 := Fr.app N0 Nq2
      show own_Fin p e below _ T2 (mkF m 179 #[.val (.int p1), .val (.int p2), .val (.long p3), .second, .val (.int p4), .val (.int (1 : Int32)), .val (.int i6), .val (.int c7), .val (.long j8), .second, .val (.int (0 : Int32)), .unset] [(.int (0 : Int32))])
      refine own_seg (T' := T2) (g' := (mkF m 181 #[.val (.int p1), .val (.int p2), .val (.long p3), .second, .val (.int p4), .val (.int (1 : Int32)), .val (.int i6), .val (.int c7), .val (.long j8), .second, .val (.int (0 : Int32)), .unset] [(.int (0 : Int32)), (.int (0 : Int32))])) (fun tg kt => ?_) ?_
      · show Steps p.tables e below (T2.setTop (mkF m 179 #[.val (.int p1), .val (.int p2), .val (.long p3), .second, .val (.int p4), .val (.int (1 : Int32)), .val (.int i6), .val (.int c7), .val (.long j8), .second, .val (.int (0 : Int32)), .unset] [(.int (0 : Int32))])) tg
        refine XS.iload X2.here hx rfl (hb hby at_179) rfl ?_
        exact kt
      have hc181 : (0 : Int32) = (0 : Int32) := by decide
      refine own_seg (T' := T2) (g' := (mkF m 184 #[.val (.int p1), .val (.int p2), .val (.long p3), .second, .val (.int p4), .val (.int (1 : Int32)), .val (.int i6), .val (.int c7), .val (.long j8), .second, .val (.int (0 : Int32)), .unset] [])) (fun tg kt => XS.icmpNo X2.here hx rfl (hb hby at_181) rfl (teq hc181).2 kt) ?_
      refine own_seg (T' := T2) (g' := (mkF m 189 #[.val (.int p1), .val (.int p2), .val (.long p3), .second, .val (.int p4), .val (.int (1 : Int32)), .val (.int i6), .val (.int c7), .val (.long j8), .second, .val (.int (0 : Int32)), .unset] [(.int (1 : Int32))])) (fun tg kt => ?_) ?_
      · show Steps p.tables e below (T2.setTop (mkF m 184 #[.val (.int p1), .val (.int p2), .val (.long p3), .second, .val (.int p4), .val (.int (1 : Int32)), .val (.int i6), .val (.int c7), .val (.long j8), .second, .val (.int (0 : Int32)), .unset] [])) tg
        refine XS.iconst X2.here hx rfl (hb hby at_184) ?_
        show Steps p.tables e below (T2.setTop (mkF m 185 #[.val (.int p1), .val (.int p2), .val (.long p3), .second, .val (.int p4), .val (.int (1 : Int32)), .val (.int i6), .val (.int c7), .val (.long j8), .second, .val (.int (0 : Int32)), .unset] [(.int (1 : Int32))])) tg
        refine XS.goto X2.here hx rfl (pc0 := 185) (pc' := 189) rfl (hb hby at_185) (by decide) (by decide) ?_
        exact kt
      exact own_retN K (by simp) X2 at_189 (⟨rfl, N2⟩) (by decide) (by decide)
    · skip
      refine own_seg (T' := T0) (g' := (mkF m 163 #[.val (.int p1), .val (.int p2), .val (.long p3), .second, .val (.int p4), .val (.int (1 : Int32)), .val (.int i6), .val (.int c7), .val (.long j8), .second, .val (.long j10), .second] [])) (fun tg kt => XS.ifNo X0.here hx rfl (hb hby at_160) rfl ((if0 _ _).trans (flt (fun q_ => hc160 ((lw_gt _ _).mp q_))).2.2.1) kt) ?_
      refine own_seg (T' := T0) (g' := (mkF m 176 #[.val (.int p1), .val (.int p2), .val (.long p3), .second, .val (.int p4), .val (.int (1 : Int32)), .val (.int i6), .val (.int c7), .val (.long j8), .second, .val (.int (1 : Int32)), .unset] [(.long j8), (.int (1 : Int32)), (.int c7)])) (fun tg kt => ?_) ?_
      · show Steps p.tables e below (T0.setTop (mkF m 163 #[.val (.int p1), .val (.int p2), .val (.long p3), .second, .val (.int p4), .val (.int (1 : Int32)), .val (.int i6), .val (.int c7), .val (.long j8), .second, .val (.long j10), .second] [])) tg
        refine XS.iconst X0.here hx rfl (hb hby at_163) ?_
        show Steps p.tables e below (T0.setTop (mkF m 164 #[.val (.int p1), .val (.int p2), .val (.long p3), .second, .val (.int p4), .val (.int (1 : Int32)), .val (.int i6), .val (.int c7), .val (.long j8), .second, .val (.long j10), .second] [(.int (1 : Int32))])) tg
        refine XS.goto X0.here hx rfl (pc0 := 164) (pc' := 168) rfl (hb hby at_164) (by decide) (by decide) ?_
        show Steps p.tables e below (T0.setTop (mkF m 168 #[.val (.int p1), .val (.int p2), .val (.long p3), .second, .val (.int p4), .val (.int (1 : Int32)), .val (.int i6), .val (.int c7), .val (.long j8), .second, .val (.long j10), .second] [(.int (1 : Int32))])) tg
        refine XS.istore X0.here hx rfl (hb hby at_168) rfl (l' := #[.val (.int p1), .val (.int p2), .val (.long p3), .second, .val (.int p4), .val (.int (1 : Int32)), .val (.int i6), .val (.int c7), .val (.long j8), .second, .val (.int (1 : Int32)), .unset]) rfl ?_
        show Steps p.tables e below (T0.setTop (mkF m 170 #[.val (.int p1), .val (.int p2), .val (.long p3), .second, .val (.int p4), .val (.int (1 : Int32)), .val (.int i6), .val (.int c7), .val (.long j8), .second, .val (.int (1 : Int32)), .unset] [])) tg
        refine XS.iload X0.here hx rfl (hb hby at_170) rfl ?_
        show Steps p.tables e below (T0.setTop (mkF m 172 #[.val (.int p1), .val (.int p2), .val (.long p3), .second, .val (.int p4), .val (.int (1 : Int32)), .val (.int i6), .val (.int c7), .val (.long j8), .second, .val (.int (1 : Int32)), .unset] [(.int c7)])) tg
        refine XS.iload X0.here hx rfl (hb hby at_172) rfl ?_
        show Steps p.tables e below (T0.setTop (mkF m 174 #[.val (.int p1), .val (.int p2), .val (.long p3), .second, .val (.int p4), .val (.int (1 : Int32)), .val (.int i6), .val (.int c7), .val (.long j8), .second, .val (.int (1 : Int32)), .unset] [(.int (1 : Int32)), (.int c7)])) tg
        refine XS.lload X0.here hx rfl (hb hby at_174) rfl ?_
        exact kt
      refine own_callS K X0 e0 (rm3 l Z a0 hw c7 (1 : Int32) j8 1 h0 n0 Z0 hz hh (by rw [own_keep, if_neg (fun q_ => absurd q_.1 (by decide)), if_neg hc143, if_neg hc160])) (hw _ (List.mem_of_getElem? (i := 10) rfl)) (hw _ (List.mem_of_getElem? (i := 11) rfl)) (hw _ (List.mem_of_getElem? (i := 12) rfl)) (hw _ (List.mem_of_getElem? (i := 13) rfl)) (by decide) [(.int c7), (.int (1 : Int32)), (.long j8)] [] own_pd0 rfl rfl rfl rfl at_176 (by decide) (Nat.le_of_ble_eq_true rfl) (by decide) (by decide) ?_
      intro T3 L3 v3 X3 hQ3
      obtain ⟨rfl, Nq3, e3⟩ := hQ3
      have N3 := Fr.app N0 Nq3
      show own_Fin p e below _ T3 (mkF m 179 #[.val (.int p1), .val (.int p2), .val (.long p3), .second, .val (.int p4), .val (.int (1 : Int32)), .val (.int i6), .val (.int c7), .val (.long j8), .second, .val (.int (1 : Int32)), .unset] [(.int (1 : Int32))])
      refine own_seg (T' := T3) (g' := (mkF m 181 #[.val (.int p1), .val (.int p2), .val (.long p3), .second, .val (.int p4), .val (.int (1 : Int32)), .val (.int i6), .val (.int c7), .val (.long j8), .second, .val (.int (1 : Int32)), .unset] [(.int (1 : Int32)), (.int (1 : Int32))])) (fun tg kt => ?_) ?_
      · show Steps p.tables e below (T3.setTop (mkF m 179 #[.val (.int p1), .val (.int p2), .val (.long p3), .second, .val (.int p4), .val (.int (1 : Int32)), .val (.int i6), .val (.int c7), .val (.long j8), .second, .val (.int (1 : Int32)), .unset] [(.int (1 : Int32))])) tg
        refine XS.iload X3.here hx rfl (hb hby at_179) rfl ?_
        exact kt
      have hc181 : (1 : Int32) = (1 : Int32) := by decide
      refine own_seg (T' := T3) (g' := (mkF m 184 #[.val (.int p1), .val (.int p2), .val (.long p3), .second, .val (.int p4), .val (.int (1 : Int32)), .val (.int i6), .val (.int c7), .val (.long j8), .second, .val (.int (1 : Int32)), .unset] [])) (fun tg kt => XS.icmpNo X3.here hx rfl (hb hby at_181) rfl (teq hc181).2 kt) ?_
      refine own_seg (T' := T3) (g' := (mkF m 189 #[.val (.int p1), .val (.int p2), .val (.long p3), .second, .val (.int p4), .val (.int (1 : Int32)), .val (.int i6), .val (.int c7), .val (.long j8), .second, .val (.int (1 : Int32)), .unset] [(.int (1 : Int32))])) (fun tg kt => ?_) ?_
      · show Steps p.tables e below (T3.setTop (mkF m 184 #[.val (.int p1), .val (.int p2), .val (.long p3), .second, .val (.int p4), .val (.int (1 : Int32)), .val (.int i6), .val (.int c7), .val (.long j8), .second, .val (.int (1 : Int32)), .unset] [])) tg
        refine XS.iconst X3.here hx rfl (hb hby at_184) ?_
        show Steps p.tables e below (T3.setTop (mkF m 185 #[.val (.int p1), .val (.int p2), .val (.long p3), .second, .val (.int p4), .val (.int (1 : Int32)), .val (.int i6), .val (.int c7), .val (.long j8), .second, .val (.int (1 : Int32)), .unset] [(.int (1 : Int32))])) tg
        refine XS.goto X3.here hx rfl (pc0 := 185) (pc' := 189) rfl (hb hby at_185) (by decide) (by decide) ?_
        exact kt
      exact own_retN K (by simp) X3 at_189 (⟨rfl, N3⟩) (by decide) (by decide)
set_option maxRecDepth 65536 in
set_option maxHeartbeats 40000000 in
theorem sg0_741 {p : Program} {l : Launch} {e : Env} {s : State} {m : MethodId} {args : Array Value} {below : List Frame} {meth : Method} {c : Code} {T0 : State} {locs : List Loc} {Z : State} {a0 : Array Value} {h0 : Heap} {n0 : Nat} (hw : ∀ d ∈ tables_1, d.before a0 Z = true) (p1 p2 : Int32) (p3 : Int64) (p4 i6 c7 : Int32)
    (K : own_Ctx p Z s m meth c "com/example/murmuration/murmuration/LegTableIsWorthKeepingPinLaw" code maxLocals ret "law") (X0 : Stand p l e room_1 s m args below meth c T0 locs 0 0) (e0 : T0.heap = h0) (N0 : Fr n0 locs) (Z0 : n0 ≤ h0.size) (hz : ¬ c7 < 0) :
    own_Fin p e below (own_P s room_1 (own_Q1 n0)) T0 (mkF m 74 #[.val (.int p1), .val (.int p2), .val (.long p3), .second, .val (.int p4), .val (.int (1 : Int32)), .val (.int i6), .val (.int c7), .unset, .unset, .unset, .unset] []) := by
  have hx := K.1
  have hZ := K.2.1
  have hby := K.2.2.1
  have hown := K.2.2.2.2.1
  refine own_seg (T' := T0) (g' := (mkF m 78 #[.val (.int p1), .val (.int p2), .val (.long p3), .second, .val (.int p4), .val (.int (1 : Int32)), .val (.int i6), .val (.int c7), .unset, .unset, .unset, .unset] [(.int (p2 &&& (8 : Int32)))])) (fun tg kt => ?_) ?_
  · show Steps p.tables e below (T0.setTop (mkF m 74 #[.val (.int p1), .val (.int p2), .val (.long p3), .second, .val (.int p4), .val (.int (1 : Int32)), .val (.int i6), .val (.int c7), .unset, .unset, .unset, .unset] [])) tg
    refine XS.iloadN X0.here hx rfl (hb hby at_74) rfl ?_
    show Steps p.tables e below (T0.setTop (mkF m 75 #[.val (.int p1), .val (.int p2), .val (.long p3), .second, .val (.int p4), .val (.int (1 : Int32)), .val (.int i6), .val (.int c7), .unset, .unset, .unset, .unset] [(.int p2)])) tg
    refine XS.bipush X0.here hx rfl (hb hby at_75) ?_
    show Steps p.tables e below (T0.setTop (mkF m 77 #[.val (.int p1), .val (.int p2), .val (.long p3), .second, .val (.int p4), .val (.int (1 : Int32)), .val (.int i6), .val (.int c7), .unset, .unset, .unset, .unset] [(.int (8 : Int32)), (.int p2)])) tg
    refine XS.iand X0.here hx rfl (hb hby at_77) rfl ?_
    exact kt
  by_cases hc78 : (p2 &&& (8 : Int32)) = (0 : Int32)
  · skip
    refine own_seg (T' := T0) (g' := (mkF m 91 #[.val (.int p1), .val (.int p2), .val (.long p3), .second, .val (.int p4), .val (.int (1 : Int32)), .val (.int i6), .val (.int c7), .unset, .unset, .unset, .unset] [])) (fun tg kt => XS.ifYes X0.here hx rfl (pc0 := 78) (pc' := 91) rfl (hb hby at_78) rfl ((if0 _ _).trans (teq hc78).1) (by decide) (by decide) kt) ?_
    refine own_seg (T' := T0) (g' := (mkF m 95 #[.val (.int p1), .val (.int p2), .val (.long p3), .second, .val (.int p4), .val (.int (1 : Int32)), .val (.int i6), .val (.int c7), .unset, .unset, .unset, .unset] [(.int (65536 : Int32)), (.int c7)])) (fun tg kt => ?_) ?_
    · show Steps p.tables e below (T0.setTop (mkF m 91 #[.val (.int p1), .val (.int p2), .val (.long p3), .second, .val (.int p4), .val (.int (1 : Int32)), .val (.int i6), .val (.int c7), .unset, .unset, .unset, .unset] [])) tg
      refine XS.iload X0.here hx rfl (hb hby at_91) rfl ?_
      show Steps p.tables e below (T0.setTop (mkF m 93 #[.val (.int p1), .val (.int p2), .val (.long p3), .second, .val (.int p4), .val (.int (1 : Int32)), .val (.int i6), .val (.int c7), .unset, .unset, .unset, .unset] [(.int c7)])) tg
      refine X0.ldcInt hx hown (mvT hZ (hw _ (List.mem_of_getElem? (i := 0) rfl))) (g := (mkF m 93 #[.val (.int p1), .val (.int p2), .val (.long p3), .second, .val (.int p4), .val (.int (1 : Int32)), .val (.int i6), .val (.int c7), .unset, .unset, .unset, .unset] [(.int c7)])) rfl (hb hby at_93) _ ?_
      exact kt
    refine own_callS K X0 e0 (rm1 l Z a0 hw c7 (65536 : Int32) h0 n0 Z0) (hw _ (List.mem_of_getElem? (i := 1) rfl)) (hw _ (List.mem_of_getElem? (i := 2) rfl)) (hw _ (List.mem_of_getElem? (i := 3) rfl)) (hw _ (List.mem_of_getElem? (i := 4) rfl)) (by decide) [(.int c7), (.int (65536 : Int32))] [] own_pd1 rfl rfl rfl rfl at_95 (by decide) (Nat.le_of_ble_eq_true rfl) (by decide) (by decide) ?_
    intro T1 L1 v1 X1 hQ1
    obtain ⟨rfl, Nq1, e1⟩ := hQ1
    have N1 := Fr.app N0 Nq1
    show own_Fin p e below _ T1 (mkF m 98 #[.val (.int p1), .val (.int p2), .val (.long p3), .second, .val (.int p4), .val (.int (1 : Int32)), .val (.int i6), .val (.int c7), .unset, .unset, .unset, .unset] [(.int (own_min c7 (65536 : Int32)))])
    refine own_seg (T' := T1) (g' := (mkF m 121 #[.val (.int p1), .val (.int p2), .val (.long p3), .second, .val (.int p4), .val (.int (1 : Int32)), .val (.int i6), .val (.int c7), .unset, .unset, .val (.long ((own_min c7 (65536 : Int32)).toInt64)), .second] [(.long ((((32 : Int64) * ((own_min c7 (65536 : Int32)).toInt64)) * ((own_min c7 (65536 : Int32)).toInt64)) + (((p4 &&& (15 : Int32)) - (8 : Int32)).toInt64))), (.long (0 : Int64))])) (fun tg kt => ?_) ?_
    · show Steps p.tables e below (T1.setTop (mkF m 98 #[.val (.int p1), .val (.int p2), .val (.long p3), .second, .val (.int p4), .val (.int (1 : Int32)), .val (.int i6), .val (.int c7), .unset, .unset, .unset, .unset] [(.int (own_min c7 (65536 : Int32)))])) tg
      refine XS.i2l X1.here hx rfl (hb hby at_98) rfl ?_
      show Steps p.tables e below (T1.setTop (mkF m 99 #[.val (.int p1), .val (.int p2), .val (.long p3), .second, .val (.int p4), .val (.int (1 : Int32)), .val (.int i6), .val (.int c7), .unset, .unset, .unset, .unset] [(.long ((own_min c7 (65536 : Int32)).toInt64))])) tg
      refine XS.lstore X1.here hx rfl (hb hby at_99) rfl (l' := #[.val (.int p1), .val (.int p2), .val (.long p3), .second, .val (.int p4), .val (.int (1 : Int32)), .val (.int i6), .val (.int c7), .unset, .unset, .val (.long ((own_min c7 (65536 : Int32)).toInt64)), .second]) rfl ?_
      show Steps p.tables e below (T1.setTop (mkF m 101 #[.val (.int p1), .val (.int p2), .val (.long p3), .second, .val (.int p4), .val (.int (1 : Int32)), .val (.int i6), .val (.int c7), .unset, .unset, .val (.long ((own_min c7 (65536 : Int32)).toInt64)), .second] [])) tg
      refine XS.lconst X1.here hx rfl (hb hby at_101) ?_
      show Steps p.tables e below (T1.setTop (mkF m 102 #[.val (.int p1), .val (.int p2), .val (.long p3), .second, .val (.int p4), .val (.int (1 : Int32)), .val (.int i6), .val (.int c7), .unset, .unset, .val (.long ((own_min c7 (65536 : Int32)).toInt64)), .second] [(.long (0 : Int64))])) tg
      refine X1.ldc2Long hx hown (mvT hZ (hw _ (List.mem_of_getElem? (i := 5) rfl))) (g := (mkF m 102 #[.val (.int p1), .val (.int p2), .val (.long p3), .second, .val (.int p4), .val (.int (1 : Int32)), .val (.int i6), .val (.int c7), .unset, .unset, .val (.long ((own_min c7 (65536 : Int32)).toInt64)), .second] [(.long (0 : Int64))])) rfl (hb hby at_102) _ ?_
      show Steps p.tables e below (T1.setTop (mkF m 105 #[.val (.int p1), .val (.int p2), .val (.long p3), .second, .val (.int p4), .val (.int (1 : Int32)), .val (.int i6), .val (.int c7), .unset, .unset, .val (.long ((own_min c7 (65536 : Int32)).toInt64)), .second] [(.long (32 : Int64)), (.long (0 : Int64))])) tg
      refine XS.lload X1.here hx rfl (hb hby at_105) rfl ?_
      show Steps p.tables e below (T1.setTop (mkF m 107 #[.val (.int p1), .val (.int p2), .val (.long p3), .second, .val (.int p4), .val (.int (1 : Int32)), .val (.int i6), .val (.int c7), .unset, .unset, .val (.long ((own_min c7 (65536 : Int32)).toInt64)), .second] [(.long ((own_min c7 (65536 : Int32)).toInt64)), (.long (32 : Int64)), (.long (0 : Int64))])) tg
      refine XS.lmul X1.here hx rfl (hb hby at_107) rfl ?_
      show Steps p.tables e below (T1.setTop (mkF m 108 #[.val (.int p1), .val (.int p2), .val (.long p3), .second, .val (.int p4), .val (.int (1 : Int32)), .val (.int i6), .val (.int c7), .unset, .unset, .val (.long ((own_min c7 (65536 : Int32)).toInt64)), .second] [(.long ((32 : Int64) * ((own_min c7 (65536 : Int32)).toInt64))), (.long (0 : Int64))])) tg
      refine XS.lload X1.here hx rfl (hb hby at_108) rfl ?_
      show Steps p.tables e below (T1.setTop (mkF m 110 #[.val (.int p1), .val (.int p2), .val (.long p3), .second, .val (.int p4), .val (.int (1 : Int32)), .val (.int i6), .val (.int c7), .unset, .unset, .val (.long ((own_min c7 (65536 : Int32)).toInt64)), .second] [(.long ((own_min c7 (65536 : Int32)).toInt64)), (.long ((32 : Int64) * ((own_min c7 (65536 : Int32)).toInt64))), (.long (0 : Int64))])) tg
      refine XS.lmul X1.here hx rfl (hb hby at_110) rfl ?_
      show Steps p.tables e below (T1.setTop (mkF m 111 #[.val (.int p1), .val (.int p2), .val (.long p3), .second, .val (.int p4), .val (.int (1 : Int32)), .val (.int i6), .val (.int c7), .unset, .unset, .val (.long ((own_min c7 (65536 : Int32)).toInt64)), .second] [(.long (((32 : Int64) * ((own_min c7 (65536 : Int32)).toInt64)) * ((own_min c7 (65536 : Int32)).toInt64))), (.long (0 : Int64))])) tg
      refine XS.iload X1.here hx rfl (hb hby at_111) rfl ?_
      show Steps p.tables e below (T1.setTop (mkF m 113 #[.val (.int p1), .val (.int p2), .val (.long p3), .second, .val (.int p4), .val (.int (1 : Int32)), .val (.int i6), .val (.int c7), .unset, .unset, .val (.long ((own_min c7 (65536 : Int32)).toInt64)), .second] [(.int p4), (.long (((32 : Int64) * ((own_min c7 (65536 : Int32)).toInt64)) * ((own_min c7 (65536 : Int32)).toInt64))), (.long (0 : Int64))])) tg
      refine XS.bipush X1.here hx rfl (hb hby at_113) ?_
      show Steps p.tables e below (T1.setTop (mkF m 115 #[.val (.int p1), .val (.int p2), .val (.long p3), .second, .val (.int p4), .val (.int (1 : Int32)), .val (.int i6), .val (.int c7), .unset, .unset, .val (.long ((own_min c7 (65536 : Int32)).toInt64)), .second] [(.int (15 : Int32)), (.int p4), (.long (((32 : Int64) * ((own_min c7 (65536 : Int32)).toInt64)) * ((own_min c7 (65536 : Int32)).toInt64))), (.long (0 : Int64))])) tg
      refine XS.iand X1.here hx rfl (hb hby at_115) rfl ?_
      show Steps p.tables e below (T1.setTop (mkF m 116 #[.val (.int p1), .val (.int p2), .val (.long p3), .second, .val (.int p4), .val (.int (1 : Int32)), .val (.int i6), .val (.int c7), .unset, .unset, .val (.long ((own_min c7 (65536 : Int32)).toInt64)), .second] [(.int (p4 &&& (15 : Int32))), (.long (((32 : Int64) * ((own_min c7 (65536 : Int32)).toInt64)) * ((own_min c7 (65536 : Int32)).toInt64))), (.long (0 : Int64))])) tg
      refine XS.bipush X1.here hx rfl (hb hby at_116) ?_
      show Steps p.tables e below (T1.setTop (mkF m 118 #[.val (.int p1), .val (.int p2), .val (.long p3), .second, .val (.int p4), .val (.int (1 : Int32)), .val (.int i6), .val (.int c7), .unset, .unset, .val (.long ((own_min c7 (65536 : Int32)).toInt64)), .second] [(.int (8 : Int32)), (.int (p4 &&& (15 : Int32))), (.long (((32 : Int64) * ((own_min c7 (65536 : Int32)).toInt64)) * ((own_min c7 (65536 : Int32)).toInt64))), (.long (0 : Int64))])) tg
      refine XS.isub X1.here hx rfl (hb hby at_118) rfl ?_
      show Steps p.tables e below (T1.setTop (mkF m 119 #[.val (.int p1), .val (.int p2), .val (.long p3), .second, .val (.int p4), .val (.int (1 : Int32)), .val (.int i6), .val (.int c7), .unset, .unset, .val (.long ((own_min c7 (65536 : Int32)).toInt64)), .second] [(.int ((p4 &&& (15 : Int32)) - (8 : Int32))), (.long (((32 : Int64) * ((own_min c7 (65536 : Int32)).toInt64)) * ((own_min c7 (65536 : Int32)).toInt64))), (.long (0 : Int64))])) tg
      refine XS.i2l X1.here hx rfl (hb hby at_119) rfl ?_
      show Steps p.tables e below (T1.setTop (mkF m 120 #[.val (.int p1), .val (.int p2), .val (.long p3), .second, .val (.int p4), .val (.int (1 : Int32)), .val (.int i6), .val (.int c7), .unset, .unset, .val (.long ((own_min c7 (65536 : Int32)).toInt64)), .second] [(.long (((p4 &&& (15 : Int32)) - (8 : Int32)).toInt64)), (.long (((32 : Int64) * ((own_min c7 (65536 : Int32)).toInt64)) * ((own_min c7 (65536 : Int32)).toInt64))), (.long (0 : Int64))])) tg
      refine XS.ladd X1.here hx rfl (hb hby at_120) rfl ?_
      exact kt
    refine own_callS K X1 e1 (rm2 l Z a0 hw (0 : Int64) ((((32 : Int64) * ((own_min c7 (65536 : Int32)).toInt64)) * ((own_min c7 (65536 : Int32)).toInt64)) + (((p4 &&& (15 : Int32)) - (8 : Int32)).toInt64)) h0 n0 Z0) (hw _ (List.mem_of_getElem? (i := 6) rfl)) (hw _ (List.mem_of_getElem? (i := 7) rfl)) (hw _ (List.mem_of_getElem? (i := 3) rfl)) (hw _ (List.mem_of_getElem? (i := 8) rfl)) (by decide) [(.long (0 : Int64)), (.long ((((32 : Int64) * ((own_min c7 (65536 : Int32)).toInt64)) * ((own_min c7 (65536 : Int32)).toInt64)) + (((p4 &&& (15 : Int32)) - (8 : Int32)).toInt64)))] [] own_pd2 rfl rfl rfl rfl at_121 (by decide) (Nat.le_of_ble_eq_true rfl) (by decide) (by decide) ?_
    intro T2 L2 v2 X2 hQ2
    obtain ⟨rfl, Nq2, e2⟩ := hQ2
    have N2 := Fr.app N1 Nq2
    show own_Fin p e below _ T2 (mkF m 124 #[.val (.int p1), .val (.int p2), .val (.long p3), .second, .val (.int p4), .val (.int (1 : Int32)), .val (.int i6), .val (.int c7), .unset, .unset, .val (.long ((own_min c7 (65536 : Int32)).toInt64)), .second] [(.long (own_max (0 : Int64) ((((32 : Int64) * ((own_min c7 (65536 : Int32)).toInt64)) * ((own_min c7 (65536 : Int32)).toInt64)) + (((p4 &&& (15 : Int32)) - (8 : Int32)).toInt64))))])
    refine own_seg (T' := T2) (g' := (mkF m 126 #[.val (.int p1), .val (.int p2), .val (.long p3), .second, .val (.int p4), .val (.int (1 : Int32)), .val (.int i6), .val (.int c7), .val (.long (own_max (0 : Int64) ((((32 : Int64) * ((own_min c7 (65536 : Int32)).toInt64)) * ((own_min c7 (65536 : Int32)).toInt64)) + (((p4 &&& (15 : Int32)) - (8 : Int32)).toInt64)))), .second, .val (.long ((own_min c7 (65536 : Int32)).toInt64)), .second] [])) (fun tg kt => ?_) ?_
    · show Steps p.tables e below (T2.setTop (mkF m 124 #[.val (.int p1), .val (.int p2), .val (.long p3), .second, .val (.int p4), .val (.int (1 : Int32)), .val (.int i6), .val (.int c7), .unset, .unset, .val (.long ((own_min c7 (65536 : Int32)).toInt64)), .second] [(.long (own_max (0 : Int64) ((((32 : Int64) * ((own_min c7 (65536 : Int32)).toInt64)) * ((own_min c7 (65536 : Int32)).toInt64)) + (((p4 &&& (15 : Int32)) - (8 : Int32)).toInt64))))])) tg
      refine XS.lstore X2.here hx rfl (hb hby at_124) rfl (l' := #[.val (.int p1), .val (.int p2), .val (.long p3), .second, .val (.int p4), .val (.int (1 : Int32)), .val (.int i6), .val (.int c7), .val (.long (own_max (0 : Int64) ((((32 : Int64) * ((own_min c7 (65536 : Int32)).toInt64)) * ((own_min c7 (65536 : Int32)).toInt64)) + (((p4 &&& (15 : Int32)) - (8 : Int32)).toInt64)))), .second, .val (.long ((own_min c7 (65536 : Int32)).toInt64)), .second]) rfl ?_
      exact kt
    exact sg0_126b1 hw p1 p2 p3 p4 i6 c7 (own_max (0 : Int64) ((((32 : Int64) * ((own_min c7 (65536 : Int32)).toInt64)) * ((own_min c7 (65536 : Int32)).toInt64)) + (((p4 &&& (15 : Int32)) - (8 : Int32)).toInt64))) ((own_min c7 (65536 : Int32)).toInt64) K X2 e2 N2 Z0 hz (own_max0 _)
  · skip
    refine own_seg (T' := T0) (g' := (mkF m 81 #[.val (.int p1), .val (.int p2), .val (.long p3), .second, .val (.int p4), .val (.int (1 : Int32)), .val (.int i6), .val (.int c7), .unset, .unset, .unset, .unset] [])) (fun tg kt => XS.ifNo X0.here hx rfl (hb hby at_78) rfl ((if0 _ _).trans (feq hc78).1) kt) ?_
    refine own_seg (T' := T0) (g' := (mkF m 126 #[.val (.int p1), .val (.int p2), .val (.long p3), .second, .val (.int p4), .val (.int (1 : Int32)), .val (.int i6), .val (.int c7), .val (.long (p3 &&& (9223372036854775807 : Int64))), .second, .unset, .unset] [])) (fun tg kt => ?_) ?_
    · show Steps p.tables e below (T0.setTop (mkF m 81 #[.val (.int p1), .val (.int p2), .val (.long p3), .second, .val (.int p4), .val (.int (1 : Int32)), .val (.int i6), .val (.int c7), .unset, .unset, .unset, .unset] [])) tg
      refine XS.lloadN X0.here hx rfl (hb hby at_81) rfl ?_
      show Steps p.tables e below (T0.setTop (mkF m 82 #[.val (.int p1), .val (.int p2), .val (.long p3), .second, .val (.int p4), .val (.int (1 : Int32)), .val (.int i6), .val (.int c7), .unset, .unset, .unset, .unset] [(.long p3)])) tg
      refine X0.ldc2Long hx hown (mvT hZ (hw _ (List.mem_of_getElem? (i := 18) rfl))) (g := (mkF m 82 #[.val (.int p1), .val (.int p2), .val (.long p3), .second, .val (.int p4), .val (.int (1 : Int32)), .val (.int i6), .val (.int c7), .unset, .unset, .unset, .unset] [(.long p3)])) rfl (hb hby at_82) _ ?_
      show Steps p.tables e below (T0.setTop (mkF m 85 #[.val (.int p1), .val (.int p2), .val (.long p3), .second, .val (.int p4), .val (.int (1 : Int32)), .val (.int i6), .val (.int c7), .unset, .unset, .unset, .unset] [(.long (9223372036854775807 : Int64)), (.long p3)])) tg
      refine XS.land X0.here hx rfl (hb hby at_85) rfl ?_
      show Steps p.tables e below (T0.setTop (mkF m 86 #[.val (.int p1), .val (.int p2), .val (.long p3), .second, .val (.int p4), .val (.int (1 : Int32)), .val (.int i6), .val (.int c7), .unset, .unset, .unset, .unset] [(.long (p3 &&& (9223372036854775807 : Int64)))])) tg
      refine XS.lstore X0.here hx rfl (hb hby at_86) rfl (l' := #[.val (.int p1), .val (.int p2), .val (.long p3), .second, .val (.int p4), .val (.int (1 : Int32)), .val (.int i6), .val (.int c7), .val (.long (p3 &&& (9223372036854775807 : Int64))), .second, .unset, .unset]) rfl ?_
      show Steps p.tables e below (T0.setTop (mkF m 88 #[.val (.int p1), .val (.int p2), .val (.long p3), .second, .val (.int p4), .val (.int (1 : Int32)), .val (.int i6), .val (.int c7), .val (.long (p3 &&& (9223372036854775807 : Int64))), .second, .unset, .unset] [])) tg
      refine XS.goto X0.here hx rfl (pc0 := 88) (pc' := 126) rfl (hb hby at_88) (by decide) (by decide) ?_
      exact kt
    exact sg0_126a1 hw p1 p2 p3 p4 i6 c7 (p3 &&& (9223372036854775807 : Int64)) 0 K X0 e0 N0 Z0 hz (own_mask63 _)
theorem own_pn0 : plainName "com/example/murmuration/murmuration/LegTableIsWorthKeepingPinLaw" = true := by first | (simp [plainName, overriddenIn]; done) | decide +kernel
set_option maxRecDepth 65536 in
set_option maxHeartbeats 40000000 in
theorem rm0 (l : Launch) (Z : State) (a0 : Array Value) (hw : ∀ d ∈ tables_1, d.before a0 Z = true) (p1 p2 : Int32) (p3 : Int64) (p4 : Int32) (h0 : Heap) (n0 : Nat) (Z0 : n0 ≤ h0.size)  :
    own_Met l Z x code maxLocals ret room_1 #[(.int p1), (.int p2), (.long p3), (.int p4)] h0 (own_Q1 n0) := by
  refine own_enter (plainFor_of_name own_pn0) (fun m => by first | rfl | (simp [entryFrame, mkF, argsToLocals, Value.category, maxLocals]; done)) (Ls := #[.val (.int p1), .val (.int p2), .val (.long p3), .second, .val (.int p4), .unset, .unset, .unset, .unset, .unset, .unset, .unset]) ?_
  intro p e s m below meth c T0 K X0 e0
  have hx := K.1
  have hZ := K.2.1
  have hby := K.2.2.1
  have hown := K.2.2.2.2.1
  have N0 := Fr.nil n0
  show own_Fin p e below _ T0 (mkF m 0 #[.val (.int p1), .val (.int p2), .val (.long p3), .second, .val (.int p4), .unset, .unset, .unset, .unset, .unset, .unset, .unset] [])
  refine own_seg (T' := T0) (g' := (mkF m 3 #[.val (.int p1), .val (.int p2), .val (.long p3), .second, .val (.int p4), .unset, .unset, .unset, .unset, .unset, .unset, .unset] [(.int (p2 &&& (1 : Int32)))])) (fun tg kt => ?_) ?_
  · show Steps p.tables e below (T0.setTop (mkF m 0 #[.val (.int p1), .val (.int p2), .val (.long p3), .second, .val (.int p4), .unset, .unset, .unset, .unset, .unset, .unset, .unset] [])) tg
    refine XS.iloadN X0.here hx rfl (hb hby at_0) rfl ?_
    show Steps p.tables e below (T0.setTop (mkF m 1 #[.val (.int p1), .val (.int p2), .val (.long p3), .second, .val (.int p4), .unset, .unset, .unset, .unset, .unset, .unset, .unset] [(.int p2)])) tg
    refine XS.iconst X0.here hx rfl (hb hby at_1) ?_
    show Steps p.tables e below (T0.setTop (mkF m 2 #[.val (.int p1), .val (.int p2), .val (.long p3), .second, .val (.int p4), .unset, .unset, .unset, .unset, .unset, .unset, .unset] [(.int (1 : Int32)), (.int p2)])) tg
    refine XS.iand X0.here hx rfl (hb hby at_2) rfl ?_
    exact kt
  by_cases hc3 : (p2 &&& (1 : Int32)) = (0 : Int32)
  · skip
    refine own_seg (T' := T0) (g' := (mkF m 10 #[.val (.int p1), .val (.int p2), .val (.long p3), .second, .val (.int p4), .unset, .unset, .unset, .unset, .unset, .unset, .unset] [])) (fun tg kt => XS.ifYes X0.here hx rfl (pc0 := 3) (pc' := 10) rfl (hb hby at_3) rfl ((if0 _ _).trans (teq hc3).1) (by decide) (by decide) kt) ?_
    refine own_seg (T' := T0) (g' := (mkF m 22 #[.val (.int p1), .val (.int p2), .val (.long p3), .second, .val (.int p4), .val (.int (0 : Int32)), .val (.int (((p2.toUInt32 >>> ((1 : Int32) &&& 31).toUInt32).toInt32) &&& (3 : Int32))), .unset, .unset, .unset, .unset, .unset] [(.int (((p2.toUInt32 >>> ((1 : Int32) &&& 31).toUInt32).toInt32) &&& (3 : Int32)))])) (fun tg kt => ?_) ?_
    · show Steps p.tables e below (T0.setTop (mkF m 10 #[.val (.int p1), .val (.int p2), .val (.long p3), .second, .val (.int p4), .unset, .unset, .unset, .unset, .unset, .unset, .unset] [])) tg
      refine XS.iconst X0.here hx rfl (hb hby at_10) ?_
      show Steps p.tables e below (T0.setTop (mkF m 11 #[.val (.int p1), .val (.int p2), .val (.long p3), .second, .val (.int p4), .unset, .unset, .unset, .unset, .unset, .unset, .unset] [(.int (0 : Int32))])) tg
      refine XS.istore X0.here hx rfl (hb hby at_11) rfl (l' := #[.val (.int p1), .val (.int p2), .val (.long p3), .second, .val (.int p4), .val (.int (0 : Int32)), .unset, .unset, .unset, .unset, .unset, .unset]) rfl ?_
      show Steps p.tables e below (T0.setTop (mkF m 13 #[.val (.int p1), .val (.int p2), .val (.long p3), .second, .val (.int p4), .val (.int (0 : Int32)), .unset, .unset, .unset, .unset, .unset, .unset] [])) tg
      refine XS.iloadN X0.here hx rfl (hb hby at_13) rfl ?_
      show Steps p.tables e below (T0.setTop (mkF m 14 #[.val (.int p1), .val (.int p2), .val (.long p3), .second, .val (.int p4), .val (.int (0 : Int32)), .unset, .unset, .unset, .unset, .unset, .unset] [(.int p2)])) tg
      refine XS.iconst X0.here hx rfl (hb hby at_14) ?_
      show Steps p.tables e below (T0.setTop (mkF m 15 #[.val (.int p1), .val (.int p2), .val (.long p3), .second, .val (.int p4), .val (.int (0 : Int32)), .unset, .unset, .unset, .unset, .unset, .unset] [(.int (1 : Int32)), (.int p2)])) tg
      refine XS.iushr X0.here hx rfl (hb hby at_15) rfl ?_
      show Steps p.tables e below (T0.setTop (mkF m 16 #[.val (.int p1), .val (.int p2), .val (.long p3), .second, .val (.int p4), .val (.int (0 : Int32)), .unset, .unset, .unset, .unset, .unset, .unset] [(.int ((p2.toUInt32 >>> ((1 : Int32) &&& 31).toUInt32).toInt32))])) tg
      refine XS.iconst X0.here hx rfl (hb hby at_16) ?_
      show Steps p.tables e below (T0.setTop (mkF m 17 #[.val (.int p1), .val (.int p2), .val (.long p3), .second, .val (.int p4), .val (.int (0 : Int32)), .unset, .unset, .unset, .unset, .unset, .unset] [(.int (3 : Int32)), (.int ((p2.toUInt32 >>> ((1 : Int32) &&& 31).toUInt32).toInt32))])) tg
      refine XS.iand X0.here hx rfl (hb hby at_17) rfl ?_
      show Steps p.tables e below (T0.setTop (mkF m 18 #[.val (.int p1), .val (.int p2), .val (.long p3), .second, .val (.int p4), .val (.int (0 : Int32)), .unset, .unset, .unset, .unset, .unset, .unset] [(.int (((p2.toUInt32 >>> ((1 : Int32) &&& 31).toUInt32).toInt32) &&& (3 : Int32)))])) tg
      refine XS.istore X0.here hx rfl (hb hby at_18) rfl (l' := #[.val (.int p1), .val (.int p2), .val (.long p3), .second, .val (.int p4), .val (.int (0 : Int32)), .val (.int (((p2.toUInt32 >>> ((1 : Int32) &&& 31).toUInt32).toInt32) &&& (3 : Int32))), .unset, .unset, .unset, .unset, .unset]) rfl ?_
      show Steps p.tables e below (T0.setTop (mkF m 20 #[.val (.int p1), .val (.int p2), .val (.long p3), .second, .val (.int p4), .val (.int (0 : Int32)), .val (.int (((p2.toUInt32 >>> ((1 : Int32) &&& 31).toUInt32).toInt32) &&& (3 : Int32))), .unset, .unset, .unset, .unset, .unset] [])) tg
      refine XS.iload X0.here hx rfl (hb hby at_20) rfl ?_
      exact kt
    by_cases hc22 : (((p2.toUInt32 >>> ((1 : Int32) &&& 31).toUInt32).toInt32) &&& (3 : Int32)) = (0 : Int32)
    · skip
      refine own_seg (T' := T0) (g' := (mkF m 25 #[.val (.int p1), .val (.int p2), .val (.long p3), .second, .val (.int p4), .val (.int (0 : Int32)), .val (.int (((p2.toUInt32 >>> ((1 : Int32) &&& 31).toUInt32).toInt32) &&& (3 : Int32))), .unset, .unset, .unset, .unset, .unset] [])) (fun tg kt => XS.ifNo X0.here hx rfl (hb hby at_22) rfl ((if0 _ _).trans (teq hc22).2) kt) ?_
      refine own_seg (T' := T0) (g' := (mkF m 74 #[.val (.int p1), .val (.int p2), .val (.long p3), .second, .val (.int p4), .val (.int (0 : Int32)), .val (.int (((p2.toUInt32 >>> ((1 : Int32) &&& 31).toUInt32).toInt32) &&& (3 : Int32))), .val (.int (p1 &&& (2147483647 : Int32))), .unset, .unset, .unset, .unset] [])) (fun tg kt => ?_) ?_
      · show Steps p.tables e below (T0.setTop (mkF m 25 #[.val (.int p1), .val (.int p2), .val (.long p3), .second, .val (.int p4), .val (.int (0 : Int32)), .val (.int (((p2.toUInt32 >>> ((1 : Int32) &&& 31).toUInt32).toInt32) &&& (3 : Int32))), .unset, .unset, .unset, .unset, .unset] [])) tg
        refine XS.iloadN X0.here hx rfl (hb hby at_25) rfl ?_
        show Steps p.tables e below (T0.setTop (mkF m 26 #[.val (.int p1), .val (.int p2), .val (.long p3), .second, .val (.int p4), .val (.int (0 : Int32)), .val (.int (((p2.toUInt32 >>> ((1 : Int32) &&& 31).toUInt32).toInt32) &&& (3 : Int32))), .unset, .unset, .unset, .unset, .unset] [(.int p1)])) tg
        refine X0.ldcInt hx hown (mvT hZ (hw _ (List.mem_of_getElem? (i := 20) rfl))) (g := (mkF m 26 #[.val (.int p1), .val (.int p2), .val (.long p3), .second, .val (.int p4), .val (.int (0 : Int32)), .val (.int (((p2.toUInt32 >>> ((1 : Int32) &&& 31).toUInt32).toInt32) &&& (3 : Int32))), .unset, .unset, .unset, .unset, .unset] [(.int p1)])) rfl (hb hby at_26) _ ?_
        show Steps p.tables e below (T0.setTop (mkF m 28 #[.val (.int p1), .val (.int p2), .val (.long p3), .second, .val (.int p4), .val (.int (0 : Int32)), .val (.int (((p2.toUInt32 >>> ((1 : Int32) &&& 31).toUInt32).toInt32) &&& (3 : Int32))), .unset, .unset, .unset, .unset, .unset] [(.int (2147483647 : Int32)), (.int p1)])) tg
        refine XS.iand X0.here hx rfl (hb hby at_28) rfl ?_
        show Steps p.tables e below (T0.setTop (mkF m 29 #[.val (.int p1), .val (.int p2), .val (.long p3), .second, .val (.int p4), .val (.int (0 : Int32)), .val (.int (((p2.toUInt32 >>> ((1 : Int32) &&& 31).toUInt32).toInt32) &&& (3 : Int32))), .unset, .unset, .unset, .unset, .unset] [(.int (p1 &&& (2147483647 : Int32)))])) tg
        refine XS.istore X0.here hx rfl (hb hby at_29) rfl (l' := #[.val (.int p1), .val (.int p2), .val (.long p3), .second, .val (.int p4), .val (.int (0 : Int32)), .val (.int (((p2.toUInt32 >>> ((1 : Int32) &&& 31).toUInt32).toInt32) &&& (3 : Int32))), .val (.int (p1 &&& (2147483647 : Int32))), .unset, .unset, .unset, .unset]) rfl ?_
        show Steps p.tables e below (T0.setTop (mkF m 31 #[.val (.int p1), .val (.int p2), .val (.long p3), .second, .val (.int p4), .val (.int (0 : Int32)), .val (.int (((p2.toUInt32 >>> ((1 : Int32) &&& 31).toUInt32).toInt32) &&& (3 : Int32))), .val (.int (p1 &&& (2147483647 : Int32))), .unset, .unset, .unset, .unset] [])) tg
        refine XS.goto X0.here hx rfl (pc0 := 31) (pc' := 74) rfl (hb hby at_31) (by decide) (by decide) ?_
        exact kt
      exact sg0_740 hw p1 p2 p3 p4 (((p2.toUInt32 >>> ((1 : Int32) &&& 31).toUInt32).toInt32) &&& (3 : Int32)) (p1 &&& (2147483647 : Int32)) K X0 e0 N0 Z0 (own_mask31 _)
    · skip
      refine own_seg (T' := T0) (g' := (mkF m 34 #[.val (.int p1), .val (.int p2), .val (.long p3), .second, .val (.int p4), .val (.int (0 : Int32)), .val (.int (((p2.toUInt32 >>> ((1 : Int32) &&& 31).toUInt32).toInt32) &&& (3 : Int32))), .unset, .unset, .unset, .unset, .unset] [])) (fun tg kt => XS.ifYes X0.here hx rfl (pc0 := 22) (pc' := 34) rfl (hb hby at_22) rfl ((if0 _ _).trans (feq hc22).2) (by decide) (by decide) kt) ?_
      refine own_seg (T' := T0) (g' := (mkF m 37 #[.val (.int p1), .val (.int p2), .val (.long p3), .second, .val (.int p4), .val (.int (0 : Int32)), .val (.int (((p2.toUInt32 >>> ((1 : Int32) &&& 31).toUInt32).toInt32) &&& (3 : Int32))), .unset, .unset, .unset, .unset, .unset] [(.int (1 : Int32)), (.int (((p2.toUInt32 >>> ((1 : Int32) &&& 31).toUInt32).toInt32) &&& (3 : Int32)))])) (fun tg kt => ?_) ?_
      · show Steps p.tables e below (T0.setTop (mkF m 34 #[.val (.int p1), .val (.int p2), .val (.long p3), .second, .val (.int p4), .val (.int (0 : Int32)), .val (.int (((p2.toUInt32 >>> ((1 : Int32) &&& 31).toUInt32).toInt32) &&& (3 : Int32))), .unset, .unset, .unset, .unset, .unset] [])) tg
        refine XS.iload X0.here hx rfl (hb hby at_34) rfl ?_
        show Steps p.tables e below (T0.setTop (mkF m 36 #[.val (.int p1), .val (.int p2), .val (.long p3), .second, .val (.int p4), .val (.int (0 : Int32)), .val (.int (((p2.toUInt32 >>> ((1 : Int32) &&& 31).toUInt32).toInt32) &&& (3 : Int32))), .unset, .unset, .unset, .unset, .unset] [(.int (((p2.toUInt32 >>> ((1 : Int32) &&& 31).toUInt32).toInt32) &&& (3 : Int32)))])) tg
        refine XS.iconst X0.here hx rfl (hb hby at_36) ?_
        exact kt
      by_cases hc37 : (((p2.toUInt32 >>> ((1 : Int32) &&& 31).toUInt32).toInt32) &&& (3 : Int32)) = (1 : Int32)
      · skip
        refine own_seg (T' := T0) (g' := (mkF m 40 #[.val (.int p1), .val (.int p2), .val (.long p3), .second, .val (.int p4), .val (.int (0 : Int32)), .val (.int (((p2.toUInt32 >>> ((1 : Int32) &&& 31).toUInt32).toInt32) &&& (3 : Int32))), .unset, .unset, .unset, .unset, .unset] [])) (fun tg kt => XS.icmpNo X0.here hx rfl (hb hby at_37) rfl (teq hc37).2 kt) ?_
        refine own_seg (T' := T0) (g' := (mkF m 74 #[.val (.int p1), .val (.int p2), .val (.long p3), .second, .val (.int p4), .val (.int (0 : Int32)), .val (.int (((p2.toUInt32 >>> ((1 : Int32) &&& 31).toUInt32).toInt32) &&& (3 : Int32))), .val (.int (p1 &&& (2047 : Int32))), .unset, .unset, .unset, .unset] [])) (fun tg kt => ?_) ?_
        · show Steps p.tables e below (T0.setTop (mkF m 40 #[.val (.int p1), .val (.int p2), .val (.long p3), .second, .val (.int p4), .val (.int (0 : Int32)), .val (.int (((p2.toUInt32 >>> ((1 : Int32) &&& 31).toUInt32).toInt32) &&& (3 : Int32))), .unset, .unset, .unset, .unset, .unset] [])) tg
          refine XS.iloadN X0.here hx rfl (hb hby at_40) rfl ?_
          show Steps p.tables e below (T0.setTop (mkF m 41 #[.val (.int p1), .val (.int p2), .val (.long p3), .second, .val (.int p4), .val (.int (0 : Int32)), .val (.int (((p2.toUInt32 >>> ((1 : Int32) &&& 31).toUInt32).toInt32) &&& (3 : Int32))), .unset, .unset, .unset, .unset, .unset] [(.int p1)])) tg
          refine XS.sipush X0.here hx rfl (hb hby at_41) ?_
          show Steps p.tables e below (T0.setTop (mkF m 44 #[.val (.int p1), .val (.int p2), .val (.long p3), .second, .val (.int p4), .val (.int (0 : Int32)), .val (.int (((p2.toUInt32 >>> ((1 : Int32) &&& 31).toUInt32).toInt32) &&& (3 : Int32))), .unset, .unset, .unset, .unset, .unset] [(.int (2047 : Int32)), (.int p1)])) tg
          refine XS.iand X0.here hx rfl (hb hby at_44) rfl ?_
          show Steps p.tables e below (T0.setTop (mkF m 45 #[.val (.int p1), .val (.int p2), .val (.long p3), .second, .val (.int p4), .val (.int (0 : Int32)), .val (.int (((p2.toUInt32 >>> ((1 : Int32) &&& 31).toUInt32).toInt32) &&& (3 : Int32))), .unset, .unset, .unset, .unset, .unset] [(.int (p1 &&& (2047 : Int32)))])) tg
          refine XS.istore X0.here hx rfl (hb hby at_45) rfl (l' := #[.val (.int p1), .val (.int p2), .val (.long p3), .second, .val (.int p4), .val (.int (0 : Int32)), .val (.int (((p2.toUInt32 >>> ((1 : Int32) &&& 31).toUInt32).toInt32) &&& (3 : Int32))), .val (.int (p1 &&& (2047 : Int32))), .unset, .unset, .unset, .unset]) rfl ?_
          show Steps p.tables e below (T0.setTop (mkF m 47 #[.val (.int p1), .val (.int p2), .val (.long p3), .second, .val (.int p4), .val (.int (0 : Int32)), .val (.int (((p2.toUInt32 >>> ((1 : Int32) &&& 31).toUInt32).toInt32) &&& (3 : Int32))), .val (.int (p1 &&& (2047 : Int32))), .unset, .unset, .unset, .unset] [])) tg
          refine XS.goto X0.here hx rfl (pc0 := 47) (pc' := 74) rfl (hb hby at_47) (by decide) (by decide) ?_
          exact kt
        exact sg0_740 hw p1 p2 p3 p4 (((p2.toUInt32 >>> ((1 : Int32) &&& 31).toUInt32).toInt32) &&& (3 : Int32)) (p1 &&& (2047 : Int32)) K X0 e0 N0 Z0 (own_mask11 _)
      · skip
        refine own_seg (T' := T0) (g' := (mkF m 50 #[.val (.int p1), .val (.int p2), .val (.long p3), .second, .val (.int p4), .val (.int (0 : Int32)), .val (.int (((p2.toUInt32 >>> ((1 : Int32) &&& 31).toUInt32).toInt32) &&& (3 : Int32))), .unset, .unset, .unset, .unset, .unset] [])) (fun tg kt => XS.icmpYes X0.here hx rfl (pc0 := 37) (pc' := 50) rfl (hb hby at_37) rfl (feq hc37).2 (by decide) (by decide) kt) ?_
        refine own_seg (T' := T0) (g' := (mkF m 53 #[.val (.int p1), .val (.int p2), .val (.long p3), .second, .val (.int p4), .val (.int (0 : Int32)), .val (.int (((p2.toUInt32 >>> ((1 : Int32) &&& 31).toUInt32).toInt32) &&& (3 : Int32))), .unset, .unset, .unset, .unset, .unset] [(.int (2 : Int32)), (.int (((p2.toUInt32 >>> ((1 : Int32) &&& 31).toUInt32).toInt32) &&& (3 : Int32)))])) (fun tg kt => ?_) ?_
        · show Steps p.tables e below (T0.setTop (mkF m 50 #[.val (.int p1), .val (.int p2), .val (.long p3), .second, .val (.int p4), .val (.int (0 : Int32)), .val (.int (((p2.toUInt32 >>> ((1 : Int32) &&& 31).toUInt32).toInt32) &&& (3 : Int32))), .unset, .unset, .unset, .unset, .unset] [])) tg
          refine XS.iload X0.here hx rfl (hb hby at_50) rfl ?_
          show Steps p.tables e below (T0.setTop (mkF m 52 #[.val (.int p1), .val (.int p2), .val (.long p3), .second, .val (.int p4), .val (.int (0 : Int32)), .val (.int (((p2.toUInt32 >>> ((1 : Int32) &&& 31).toUInt32).toInt32) &&& (3 : Int32))), .unset, .unset, .unset, .unset, .unset] [(.int (((p2.toUInt32 >>> ((1 : Int32) &&& 31).toUInt32).toInt32) &&& (3 : Int32)))])) tg
          refine XS.iconst X0.here hx rfl (hb hby at_52) ?_
          exact kt
        by_cases hc53 : (((p2.toUInt32 >>> ((1 : Int32) &&& 31).toUInt32).toInt32) &&& (3 : Int32)) = (2 : Int32)
        · skip
          refine own_seg (T' := T0) (g' := (mkF m 56 #[.val (.int p1), .val (.int p2), .val (.long p3), .second, .val (.int p4), .val (.int (0 : Int32)), .val (.int (((p2.toUInt32 >>> ((1 : Int32) &&& 31).toUInt32).toInt32) &&& (3 : Int32))), .unset, .unset, .unset, .unset, .unset] [])) (fun tg kt => XS.icmpNo X0.here hx rfl (hb hby at_53) rfl (teq hc53).2 kt) ?_
          refine own_seg (T' := T0) (g' := (mkF m 74 #[.val (.int p1), .val (.int p2), .val (.long p3), .second, .val (.int p4), .val (.int (0 : Int32)), .val (.int (((p2.toUInt32 >>> ((1 : Int32) &&& 31).toUInt32).toInt32) &&& (3 : Int32))), .val (.int ((46332 : Int32) + (p1 &&& (15 : Int32)))), .unset, .unset, .unset, .unset] [])) (fun tg kt => ?_) ?_
          · show Steps p.tables e below (T0.setTop (mkF m 56 #[.val (.int p1), .val (.int p2), .val (.long p3), .second, .val (.int p4), .val (.int (0 : Int32)), .val (.int (((p2.toUInt32 >>> ((1 : Int32) &&& 31).toUInt32).toInt32) &&& (3 : Int32))), .unset, .unset, .unset, .unset, .unset] [])) tg
            refine X0.ldcInt hx hown (mvT hZ (hw _ (List.mem_of_getElem? (i := 17) rfl))) (g := (mkF m 56 #[.val (.int p1), .val (.int p2), .val (.long p3), .second, .val (.int p4), .val (.int (0 : Int32)), .val (.int (((p2.toUInt32 >>> ((1 : Int32) &&& 31).toUInt32).toInt32) &&& (3 : Int32))), .unset, .unset, .unset, .unset, .unset] [])) rfl (hb hby at_56) _ ?_
            show Steps p.tables e below (T0.setTop (mkF m 58 #[.val (.int p1), .val (.int p2), .val (.long p3), .second, .val (.int p4), .val (.int (0 : Int32)), .val (.int (((p2.toUInt32 >>> ((1 : Int32) &&& 31).toUInt32).toInt32) &&& (3 : Int32))), .unset, .unset, .unset, .unset, .unset] [(.int (46332 : Int32))])) tg
            refine XS.iloadN X0.here hx rfl (hb hby at_58) rfl ?_
            show Steps p.tables e below (T0.setTop (mkF m 59 #[.val (.int p1), .val (.int p2), .val (.long p3), .second, .val (.int p4), .val (.int (0 : Int32)), .val (.int (((p2.toUInt32 >>> ((1 : Int32) &&& 31).toUInt32).toInt32) &&& (3 : Int32))), .unset, .unset, .unset, .unset, .unset] [(.int p1), (.int (46332 : Int32))])) tg
            refine XS.bipush X0.here hx rfl (hb hby at_59) ?_
            show Steps p.tables e below (T0.setTop (mkF m 61 #[.val (.int p1), .val (.int p2), .val (.long p3), .second, .val (.int p4), .val (.int (0 : Int32)), .val (.int (((p2.toUInt32 >>> ((1 : Int32) &&& 31).toUInt32).toInt32) &&& (3 : Int32))), .unset, .unset, .unset, .unset, .unset] [(.int (15 : Int32)), (.int p1), (.int (46332 : Int32))])) tg
            refine XS.iand X0.here hx rfl (hb hby at_61) rfl ?_
            show Steps p.tables e below (T0.setTop (mkF m 62 #[.val (.int p1), .val (.int p2), .val (.long p3), .second, .val (.int p4), .val (.int (0 : Int32)), .val (.int (((p2.toUInt32 >>> ((1 : Int32) &&& 31).toUInt32).toInt32) &&& (3 : Int32))), .unset, .unset, .unset, .unset, .unset] [(.int (p1 &&& (15 : Int32))), (.int (46332 : Int32))])) tg
            refine XS.iadd X0.here hx rfl (hb hby at_62) rfl ?_
            show Steps p.tables e below (T0.setTop (mkF m 63 #[.val (.int p1), .val (.int p2), .val (.long p3), .second, .val (.int p4), .val (.int (0 : Int32)), .val (.int (((p2.toUInt32 >>> ((1 : Int32) &&& 31).toUInt32).toInt32) &&& (3 : Int32))), .unset, .unset, .unset, .unset, .unset] [(.int ((46332 : Int32) + (p1 &&& (15 : Int32))))])) tg
            refine XS.istore X0.here hx rfl (hb hby at_63) rfl (l' := #[.val (.int p1), .val (.int p2), .val (.long p3), .second, .val (.int p4), .val (.int (0 : Int32)), .val (.int (((p2.toUInt32 >>> ((1 : Int32) &&& 31).toUInt32).toInt32) &&& (3 : Int32))), .val (.int ((46332 : Int32) + (p1 &&& (15 : Int32)))), .unset, .unset, .unset, .unset]) rfl ?_
            show Steps p.tables e below (T0.setTop (mkF m 65 #[.val (.int p1), .val (.int p2), .val (.long p3), .second, .val (.int p4), .val (.int (0 : Int32)), .val (.int (((p2.toUInt32 >>> ((1 : Int32) &&& 31).toUInt32).toInt32) &&& (3 : Int32))), .val (.int ((46332 : Int32) + (p1 &&& (15 : Int32)))), .unset, .unset, .unset, .unset] [])) tg
            refine XS.goto X0.here hx rfl (pc0 := 65) (pc' := 74) rfl (hb hby at_65) (by decide) (by decide) ?_
            exact kt
          exact sg0_740 hw p1 p2 p3 p4 (((p2.toUInt32 >>> ((1 : Int32) &&& 31).toUInt32).toInt32) &&& (3 : Int32)) ((46332 : Int32) + (p1 &&& (15 : Int32))) K X0 e0 N0 Z0 (own_mask4 _)
        · skip
          refine own_seg (T' := T0) (g' := (mkF m 68 #[.val (.int p1), .val (.int p2), .val (.long p3), .second, .val (.int p4), .val (.int (0 : Int32)), .val (.int (((p2.toUInt32 >>> ((1 : Int32) &&& 31).toUInt32).toInt32) &&& (3 : Int32))), .unset, .unset, .unset, .unset, .unset] [])) (fun tg kt => XS.icmpYes X0.here hx rfl (pc0 := 53) (pc' := 68) rfl (hb hby at_53) rfl (feq hc53).2 (by decide) (by decide) kt) ?_
          refine own_seg (T' := T0) (g' := (mkF m 74 #[.val (.int p1), .val (.int p2), .val (.long p3), .second, .val (.int p4), .val (.int (0 : Int32)), .val (.int (((p2.toUInt32 >>> ((1 : Int32) &&& 31).toUInt32).toInt32) &&& (3 : Int32))), .val (.int (p1 &&& (65535 : Int32))), .unset, .unset, .unset, .unset] [])) (fun tg kt => ?_) ?_
          · show Steps p.tables e below (T0.setTop (mkF m 68 #[.val (.int p1), .val (.int p2), .val (.long p3), .second, .val (.int p4), .val (.int (0 : Int32)), .val (.int (((p2.toUInt32 >>> ((1 : Int32) &&& 31).toUInt32).toInt32) &&& (3 : Int32))), .unset, .unset, .unset, .unset, .unset] [])) tg
            refine XS.iloadN X0.here hx rfl (hb hby at_68) rfl ?_
            show Steps p.tables e below (T0.setTop (mkF m 69 #[.val (.int p1), .val (.int p2), .val (.long p3), .second, .val (.int p4), .val (.int (0 : Int32)), .val (.int (((p2.toUInt32 >>> ((1 : Int32) &&& 31).toUInt32).toInt32) &&& (3 : Int32))), .unset, .unset, .unset, .unset, .unset] [(.int p1)])) tg
            refine X0.ldcInt hx hown (mvT hZ (hw _ (List.mem_of_getElem? (i := 19) rfl))) (g := (mkF m 69 #[.val (.int p1), .val (.int p2), .val (.long p3), .second, .val (.int p4), .val (.int (0 : Int32)), .val (.int (((p2.toUInt32 >>> ((1 : Int32) &&& 31).toUInt32).toInt32) &&& (3 : Int32))), .unset, .unset, .unset, .unset, .unset] [(.int p1)])) rfl (hb hby at_69) _ ?_
            show Steps p.tables e below (T0.setTop (mkF m 71 #[.val (.int p1), .val (.int p2), .val (.long p3), .second, .val (.int p4), .val (.int (0 : Int32)), .val (.int (((p2.toUInt32 >>> ((1 : Int32) &&& 31).toUInt32).toInt32) &&& (3 : Int32))), .unset, .unset, .unset, .unset, .unset] [(.int (65535 : Int32)), (.int p1)])) tg
            refine XS.iand X0.here hx rfl (hb hby at_71) rfl ?_
            show Steps p.tables e below (T0.setTop (mkF m 72 #[.val (.int p1), .val (.int p2), .val (.long p3), .second, .val (.int p4), .val (.int (0 : Int32)), .val (.int (((p2.toUInt32 >>> ((1 : Int32) &&& 31).toUInt32).toInt32) &&& (3 : Int32))), .unset, .unset, .unset, .unset, .unset] [(.int (p1 &&& (65535 : Int32)))])) tg
            refine XS.istore X0.here hx rfl (hb hby at_72) rfl (l' := #[.val (.int p1), .val (.int p2), .val (.long p3), .second, .val (.int p4), .val (.int (0 : Int32)), .val (.int (((p2.toUInt32 >>> ((1 : Int32) &&& 31).toUInt32).toInt32) &&& (3 : Int32))), .val (.int (p1 &&& (65535 : Int32))), .unset, .unset, .unset, .unset]) rfl ?_
            exact kt
          exact sg0_740 hw p1 p2 p3 p4 (((p2.toUInt32 >>> ((1 : Int32) &&& 31).toUInt32).toInt32) &&& (3 : Int32)) (p1 &&& (65535 : Int32)) K X0 e0 N0 Z0 (own_mask16 _)
  · skip
    refine own_seg (T' := T0) (g' := (mkF m 6 #[.val (.int p1), .val (.int p2), .val (.long p3), .second, .val (.int p4), .unset, .unset, .unset, .unset, .unset, .unset, .unset] [])) (fun tg kt => XS.ifNo X0.here hx rfl (hb hby at_3) rfl ((if0 _ _).trans (feq hc3).1) kt) ?_
    refine own_seg (T' := T0) (g' := (mkF m 22 #[.val (.int p1), .val (.int p2), .val (.long p3), .second, .val (.int p4), .val (.int (1 : Int32)), .val (.int (((p2.toUInt32 >>> ((1 : Int32) &&& 31).toUInt32).toInt32) &&& (3 : Int32))), .unset, .unset, .unset, .unset, .unset] [(.int (((p2.toUInt32 >>> ((1 : Int32) &&& 31).toUInt32).toInt32) &&& (3 : Int32)))])) (fun tg kt => ?_) ?_
    · show Steps p.tables e below (T0.setTop (mkF m 6 #[.val (.int p1), .val (.int p2), .val (.long p3), .second, .val (.int p4), .unset, .unset, .unset, .unset, .unset, .unset, .unset] [])) tg
      refine XS.iconst X0.here hx rfl (hb hby at_6) ?_
      show Steps p.tables e below (T0.setTop (mkF m 7 #[.val (.int p1), .val (.int p2), .val (.long p3), .second, .val (.int p4), .unset, .unset, .unset, .unset, .unset, .unset, .unset] [(.int (1 : Int32))])) tg
      refine XS.goto X0.here hx rfl (pc0 := 7) (pc' := 11) rfl (hb hby at_7) (by decide) (by decide) ?_
      show Steps p.tables e below (T0.setTop (mkF m 11 #[.val (.int p1), .val (.int p2), .val (.long p3), .second, .val (.int p4), .unset, .unset, .unset, .unset, .unset, .unset, .unset] [(.int (1 : Int32))])) tg
      refine XS.istore X0.here hx rfl (hb hby at_11) rfl (l' := #[.val (.int p1), .val (.int p2), .val (.long p3), .second, .val (.int p4), .val (.int (1 : Int32)), .unset, .unset, .unset, .unset, .unset, .unset]) rfl ?_
      show Steps p.tables e below (T0.setTop (mkF m 13 #[.val (.int p1), .val (.int p2), .val (.long p3), .second, .val (.int p4), .val (.int (1 : Int32)), .unset, .unset, .unset, .unset, .unset, .unset] [])) tg
      refine XS.iloadN X0.here hx rfl (hb hby at_13) rfl ?_
      show Steps p.tables e below (T0.setTop (mkF m 14 #[.val (.int p1), .val (.int p2), .val (.long p3), .second, .val (.int p4), .val (.int (1 : Int32)), .unset, .unset, .unset, .unset, .unset, .unset] [(.int p2)])) tg
      refine XS.iconst X0.here hx rfl (hb hby at_14) ?_
      show Steps p.tables e below (T0.setTop (mkF m 15 #[.val (.int p1), .val (.int p2), .val (.long p3), .second, .val (.int p4), .val (.int (1 : Int32)), .unset, .unset, .unset, .unset, .unset, .unset] [(.int (1 : Int32)), (.int p2)])) tg
      refine XS.iushr X0.here hx rfl (hb hby at_15) rfl ?_
      show Steps p.tables e below (T0.setTop (mkF m 16 #[.val (.int p1), .val (.int p2), .val (.long p3), .second, .val (.int p4), .val (.int (1 : Int32)), .unset, .unset, .unset, .unset, .unset, .unset] [(.int ((p2.toUInt32 >>> ((1 : Int32) &&& 31).toUInt32).toInt32))])) tg
      refine XS.iconst X0.here hx rfl (hb hby at_16) ?_
      show Steps p.tables e below (T0.setTop (mkF m 17 #[.val (.int p1), .val (.int p2), .val (.long p3), .second, .val (.int p4), .val (.int (1 : Int32)), .unset, .unset, .unset, .unset, .unset, .unset] [(.int (3 : Int32)), (.int ((p2.toUInt32 >>> ((1 : Int32) &&& 31).toUInt32).toInt32))])) tg
      refine XS.iand X0.here hx rfl (hb hby at_17) rfl ?_
      show Steps p.tables e below (T0.setTop (mkF m 18 #[.val (.int p1), .val (.int p2), .val (.long p3), .second, .val (.int p4), .val (.int (1 : Int32)), .unset, .unset, .unset, .unset, .unset, .unset] [(.int (((p2.toUInt32 >>> ((1 : Int32) &&& 31).toUInt32).toInt32) &&& (3 : Int32)))])) tg
      refine XS.istore X0.here hx rfl (hb hby at_18) rfl (l' := #[.val (.int p1), .val (.int p2), .val (.long p3), .second, .val (.int p4), .val (.int (1 : Int32)), .val (.int (((p2.toUInt32 >>> ((1 : Int32) &&& 31).toUInt32).toInt32) &&& (3 : Int32))), .unset, .unset, .unset, .unset, .unset]) rfl ?_
      show Steps p.tables e below (T0.setTop (mkF m 20 #[.val (.int p1), .val (.int p2), .val (.long p3), .second, .val (.int p4), .val (.int (1 : Int32)), .val (.int (((p2.toUInt32 >>> ((1 : Int32) &&& 31).toUInt32).toInt32) &&& (3 : Int32))), .unset, .unset, .unset, .unset, .unset] [])) tg
      refine XS.iload X0.here hx rfl (hb hby at_20) rfl ?_
      exact kt
    by_cases hc22 : (((p2.toUInt32 >>> ((1 : Int32) &&& 31).toUInt32).toInt32) &&& (3 : Int32)) = (0 : Int32)
    · skip
      refine own_seg (T' := T0) (g' := (mkF m 25 #[.val (.int p1), .val (.int p2), .val (.long p3), .second, .val (.int p4), .val (.int (1 : Int32)), .val (.int (((p2.toUInt32 >>> ((1 : Int32) &&& 31).toUInt32).toInt32) &&& (3 : Int32))), .unset, .unset, .unset, .unset, .unset] [])) (fun tg kt => XS.ifNo X0.here hx rfl (hb hby at_22) rfl ((if0 _ _).trans (teq hc22).2) kt) ?_
      refine own_seg (T' := T0) (g' := (mkF m 74 #[.val (.int p1), .val (.int p2), .val (.long p3), .second, .val (.int p4), .val (.int (1 : Int32)), .val (.int (((p2.toUInt32 >>> ((1 : Int32) &&& 31).toUInt32).toInt32) &&& (3 : Int32))), .val (.int (p1 &&& (2147483647 : Int32))), .unset, .unset, .unset, .unset] [])) (fun tg kt => ?_) ?_
      · show Steps p.tables e below (T0.setTop (mkF m 25 #[.val (.int p1), .val (.int p2), .val (.long p3), .second, .val (.int p4), .val (.int (1 : Int32)), .val (.int (((p2.toUInt32 >>> ((1 : Int32) &&& 31).toUInt32).toInt32) &&& (3 : Int32))), .unset, .unset, .unset, .unset, .unset] [])) tg
        refine XS.iloadN X0.here hx rfl (hb hby at_25) rfl ?_
        show Steps p.tables e below (T0.setTop (mkF m 26 #[.val (.int p1), .val (.int p2), .val (.long p3), .second, .val (.int p4), .val (.int (1 : Int32)), .val (.int (((p2.toUInt32 >>> ((1 : Int32) &&& 31).toUInt32).toInt32) &&& (3 : Int32))), .unset, .unset, .unset, .unset, .unset] [(.int p1)])) tg
        refine X0.ldcInt hx hown (mvT hZ (hw _ (List.mem_of_getElem? (i := 20) rfl))) (g := (mkF m 26 #[.val (.int p1), .val (.int p2), .val (.long p3), .second, .val (.int p4), .val (.int (1 : Int32)), .val (.int (((p2.toUInt32 >>> ((1 : Int32) &&& 31).toUInt32).toInt32) &&& (3 : Int32))), .unset, .unset, .unset, .unset, .unset] [(.int p1)])) rfl (hb hby at_26) _ ?_
        show Steps p.tables e below (T0.setTop (mkF m 28 #[.val (.int p1), .val (.int p2), .val (.long p3), .second, .val (.int p4), .val (.int (1 : Int32)), .val (.int (((p2.toUInt32 >>> ((1 : Int32) &&& 31).toUInt32).toInt32) &&& (3 : Int32))), .unset, .unset, .unset, .unset, .unset] [(.int (2147483647 : Int32)), (.int p1)])) tg
        refine XS.iand X0.here hx rfl (hb hby at_28) rfl ?_
        show Steps p.tables e below (T0.setTop (mkF m 29 #[.val (.int p1), .val (.int p2), .val (.long p3), .second, .val (.int p4), .val (.int (1 : Int32)), .val (.int (((p2.toUInt32 >>> ((1 : Int32) &&& 31).toUInt32).toInt32) &&& (3 : Int32))), .unset, .unset, .unset, .unset, .unset] [(.int (p1 &&& (2147483647 : Int32)))])) tg
        refine XS.istore X0.here hx rfl (hb hby at_29) rfl (l' := #[.val (.int p1), .val (.int p2), .val (.long p3), .second, .val (.int p4), .val (.int (1 : Int32)), .val (.int (((p2.toUInt32 >>> ((1 : Int32) &&& 31).toUInt32).toInt32) &&& (3 : Int32))), .val (.int (p1 &&& (2147483647 : Int32))), .unset, .unset, .unset, .unset]) rfl ?_
        show Steps p.tables e below (T0.setTop (mkF m 31 #[.val (.int p1), .val (.int p2), .val (.long p3), .second, .val (.int p4), .val (.int (1 : Int32)), .val (.int (((p2.toUInt32 >>> ((1 : Int32) &&& 31).toUInt32).toInt32) &&& (3 : Int32))), .val (.int (p1 &&& (2147483647 : Int32))), .unset, .unset, .unset, .unset] [])) tg
        refine XS.goto X0.here hx rfl (pc0 := 31) (pc' := 74) rfl (hb hby at_31) (by decide) (by decide) ?_
        exact kt
      exact sg0_741 hw p1 p2 p3 p4 (((p2.toUInt32 >>> ((1 : Int32) &&& 31).toUInt32).toInt32) &&& (3 : Int32)) (p1 &&& (2147483647 : Int32)) K X0 e0 N0 Z0 (own_mask31 _)
    · skip
      refine own_seg (T' := T0) (g' := (mkF m 34 #[.val (.int p1), .val (.int p2), .val (.long p3), .second, .val (.int p4), .val (.int (1 : Int32)), .val (.int (((p2.toUInt32 >>> ((1 : Int32) &&& 31).toUInt32).toInt32) &&& (3 : Int32))), .unset, .unset, .unset, .unset, .unset] [])) (fun tg kt => XS.ifYes X0.here hx rfl (pc0 := 22) (pc' := 34) rfl (hb hby at_22) rfl ((if0 _ _).trans (feq hc22).2) (by decide) (by decide) kt) ?_
      refine own_seg (T' := T0) (g' := (mkF m 37 #[.val (.int p1), .val (.int p2), .val (.long p3), .second, .val (.int p4), .val (.int (1 : Int32)), .val (.int (((p2.toUInt32 >>> ((1 : Int32) &&& 31).toUInt32).toInt32) &&& (3 : Int32))), .unset, .unset, .unset, .unset, .unset] [(.int (1 : Int32)), (.int (((p2.toUInt32 >>> ((1 : Int32) &&& 31).toUInt32).toInt32) &&& (3 : Int32)))])) (fun tg kt => ?_) ?_
      · show Steps p.tables e below (T0.setTop (mkF m 34 #[.val (.int p1), .val (.int p2), .val (.long p3), .second, .val (.int p4), .val (.int (1 : Int32)), .val (.int (((p2.toUInt32 >>> ((1 : Int32) &&& 31).toUInt32).toInt32) &&& (3 : Int32))), .unset, .unset, .unset, .unset, .unset] [])) tg
        refine XS.iload X0.here hx rfl (hb hby at_34) rfl ?_
        show Steps p.tables e below (T0.setTop (mkF m 36 #[.val (.int p1), .val (.int p2), .val (.long p3), .second, .val (.int p4), .val (.int (1 : Int32)), .val (.int (((p2.toUInt32 >>> ((1 : Int32) &&& 31).toUInt32).toInt32) &&& (3 : Int32))), .unset, .unset, .unset, .unset, .unset] [(.int (((p2.toUInt32 >>> ((1 : Int32) &&& 31).toUInt32).toInt32) &&& (3 : Int32)))])) tg
        refine XS.iconst X0.here hx rfl (hb hby at_36) ?_
        exact kt
      by_cases hc37 : (((p2.toUInt32 >>> ((1 : Int32) &&& 31).toUInt32).toInt32) &&& (3 : Int32)) = (1 : Int32)
      · skip
        refine own_seg (T' := T0) (g' := (mkF m 40 #[.val (.int p1), .val (.int p2), .val (.long p3), .second, .val (.int p4), .val (.int (1 : Int32)), .val (.int (((p2.toUInt32 >>> ((1 : Int32) &&& 31).toUInt32).toInt32) &&& (3 : Int32))), .unset, .unset, .unset, .unset, .unset] [])) (fun tg kt => XS.icmpNo X0.here hx rfl (hb hby at_37) rfl (teq hc37).2 kt) ?_
        refine own_seg (T' := T0) (g' := (mkF m 74 #[.val (.int p1), .val (.int p2), .val (.long p3), .second, .val (.int p4), .val (.int (1 : Int32)), .val (.int (((p2.toUInt32 >>> ((1 : Int32) &&& 31).toUInt32).toInt32) &&& (3 : Int32))), .val (.int (p1 &&& (2047 : Int32))), .unset, .unset, .unset, .unset] [])) (fun tg kt => ?_) ?_
        · show Steps p.tables e below (T0.setTop (mkF m 40 #[.val (.int p1), .val (.int p2), .val (.long p3), .second, .val (.int p4), .val (.int (1 : Int32)), .val (.int (((p2.toUInt32 >>> ((1 : Int32) &&& 31).toUInt32).toInt32) &&& (3 : Int32))), .unset, .unset, .unset, .unset, .unset] [])) tg
          refine XS.iloadN X0.here hx rfl (hb hby at_40) rfl ?_
          show Steps p.tables e below (T0.setTop (mkF m 41 #[.val (.int p1), .val (.int p2), .val (.long p3), .second, .val (.int p4), .val (.int (1 : Int32)), .val (.int (((p2.toUInt32 >>> ((1 : Int32) &&& 31).toUInt32).toInt32) &&& (3 : Int32))), .unset, .unset, .unset, .unset, .unset] [(.int p1)])) tg
          refine XS.sipush X0.here hx rfl (hb hby at_41) ?_
          show Steps p.tables e below (T0.setTop (mkF m 44 #[.val (.int p1), .val (.int p2), .val (.long p3), .second, .val (.int p4), .val (.int (1 : Int32)), .val (.int (((p2.toUInt32 >>> ((1 : Int32) &&& 31).toUInt32).toInt32) &&& (3 : Int32))), .unset, .unset, .unset, .unset, .unset] [(.int (2047 : Int32)), (.int p1)])) tg
          refine XS.iand X0.here hx rfl (hb hby at_44) rfl ?_
          show Steps p.tables e below (T0.setTop (mkF m 45 #[.val (.int p1), .val (.int p2), .val (.long p3), .second, .val (.int p4), .val (.int (1 : Int32)), .val (.int (((p2.toUInt32 >>> ((1 : Int32) &&& 31).toUInt32).toInt32) &&& (3 : Int32))), .unset, .unset, .unset, .unset, .unset] [(.int (p1 &&& (2047 : Int32)))])) tg
          refine XS.istore X0.here hx rfl (hb hby at_45) rfl (l' := #[.val (.int p1), .val (.int p2), .val (.long p3), .second, .val (.int p4), .val (.int (1 : Int32)), .val (.int (((p2.toUInt32 >>> ((1 : Int32) &&& 31).toUInt32).toInt32) &&& (3 : Int32))), .val (.int (p1 &&& (2047 : Int32))), .unset, .unset, .unset, .unset]) rfl ?_
          show Steps p.tables e below (T0.setTop (mkF m 47 #[.val (.int p1), .val (.int p2), .val (.long p3), .second, .val (.int p4), .val (.int (1 : Int32)), .val (.int (((p2.toUInt32 >>> ((1 : Int32) &&& 31).toUInt32).toInt32) &&& (3 : Int32))), .val (.int (p1 &&& (2047 : Int32))), .unset, .unset, .unset, .unset] [])) tg
          refine XS.goto X0.here hx rfl (pc0 := 47) (pc' := 74) rfl (hb hby at_47) (by decide) (by decide) ?_
          exact kt
        exact sg0_741 hw p1 p2 p3 p4 (((p2.toUInt32 >>> ((1 : Int32) &&& 31).toUInt32).toInt32) &&& (3 : Int32)) (p1 &&& (2047 : Int32)) K X0 e0 N0 Z0 (own_mask11 _)
      · skip
        refine own_seg (T' := T0) (g' := (mkF m 50 #[.val (.int p1), .val (.int p2), .val (.long p3), .second, .val (.int p4), .val (.int (1 : Int32)), .val (.int (((p2.toUInt32 >>> ((1 : Int32) &&& 31).toUInt32).toInt32) &&& (3 : Int32))), .unset, .unset, .unset, .unset, .unset] [])) (fun tg kt => XS.icmpYes X0.here hx rfl (pc0 := 37) (pc' := 50) rfl (hb hby at_37) rfl (feq hc37).2 (by decide) (by decide) kt) ?_
        refine own_seg (T' := T0) (g' := (mkF m 53 #[.val (.int p1), .val (.int p2), .val (.long p3), .second, .val (.int p4), .val (.int (1 : Int32)), .val (.int (((p2.toUInt32 >>> ((1 : Int32) &&& 31).toUInt32).toInt32) &&& (3 : Int32))), .unset, .unset, .unset, .unset, .unset] [(.int (2 : Int32)), (.int (((p2.toUInt32 >>> ((1 : Int32) &&& 31).toUInt32).toInt32) &&& (3 : Int32)))])) (fun tg kt => ?_) ?_
        · show Steps p.tables e below (T0.setTop (mkF m 50 #[.val (.int p1), .val (.int p2), .val (.long p3), .second, .val (.int p4), .val (.int (1 : Int32)), .val (.int (((p2.toUInt32 >>> ((1 : Int32) &&& 31).toUInt32).toInt32) &&& (3 : Int32))), .unset, .unset, .unset, .unset, .unset] [])) tg
          refine XS.iload X0.here hx rfl (hb hby at_50) rfl ?_
          show Steps p.tables e below (T0.setTop (mkF m 52 #[.val (.int p1), .val (.int p2), .val (.long p3), .second, .val (.int p4), .val (.int (1 : Int32)), .val (.int (((p2.toUInt32 >>> ((1 : Int32) &&& 31).toUInt32).toInt32) &&& (3 : Int32))), .unset, .unset, .unset, .unset, .unset] [(.int (((p2.toUInt32 >>> ((1 : Int32) &&& 31).toUInt32).toInt32) &&& (3 : Int32)))])) tg
          refine XS.iconst X0.here hx rfl (hb hby at_52) ?_
          exact kt
        by_cases hc53 : (((p2.toUInt32 >>> ((1 : Int32) &&& 31).toUInt32).toInt32) &&& (3 : Int32)) = (2 : Int32)
        · skip
          refine own_seg (T' := T0) (g' := (mkF m 56 #[.val (.int p1), .val (.int p2), .val (.long p3), .second, .val (.int p4), .val (.int (1 : Int32)), .val (.int (((p2.toUInt32 >>> ((1 : Int32) &&& 31).toUInt32).toInt32) &&& (3 : Int32))), .unset, .unset, .unset, .unset, .unset] [])) (fun tg kt => XS.icmpNo X0.here hx rfl (hb hby at_53) rfl (teq hc53).2 kt) ?_
          refine own_seg (T' := T0) (g' := (mkF m 74 #[.val (.int p1), .val (.int p2), .val (.long p3), .second, .val (.int p4), .val (.int (1 : Int32)), .val (.int (((p2.toUInt32 >>> ((1 : Int32) &&& 31).toUInt32).toInt32) &&& (3 : Int32))), .val (.int ((46332 : Int32) + (p1 &&& (15 : Int32)))), .unset, .unset, .unset, .unset] [])) (fun tg kt => ?_) ?_
          · show Steps p.tables e below (T0.setTop (mkF m 56 #[.val (.int p1), .val (.int p2), .val (.long p3), .second, .val (.int p4), .val (.int (1 : Int32)), .val (.int (((p2.toUInt32 >>> ((1 : Int32) &&& 31).toUInt32).toInt32) &&& (3 : Int32))), .unset, .unset, .unset, .unset, .unset] [])) tg
            refine X0.ldcInt hx hown (mvT hZ (hw _ (List.mem_of_getElem? (i := 17) rfl))) (g := (mkF m 56 #[.val (.int p1), .val (.int p2), .val (.long p3), .second, .val (.int p4), .val (.int (1 : Int32)), .val (.int (((p2.toUInt32 >>> ((1 : Int32) &&& 31).toUInt32).toInt32) &&& (3 : Int32))), .unset, .unset, .unset, .unset, .unset] [])) rfl (hb hby at_56) _ ?_
            show Steps p.tables e below (T0.setTop (mkF m 58 #[.val (.int p1), .val (.int p2), .val (.long p3), .second, .val (.int p4), .val (.int (1 : Int32)), .val (.int (((p2.toUInt32 >>> ((1 : Int32) &&& 31).toUInt32).toInt32) &&& (3 : Int32))), .unset, .unset, .unset, .unset, .unset] [(.int (46332 : Int32))])) tg
            refine XS.iloadN X0.here hx rfl (hb hby at_58) rfl ?_
            show Steps p.tables e below (T0.setTop (mkF m 59 #[.val (.int p1), .val (.int p2), .val (.long p3), .second, .val (.int p4), .val (.int (1 : Int32)), .val (.int (((p2.toUInt32 >>> ((1 : Int32) &&& 31).toUInt32).toInt32) &&& (3 : Int32))), .unset, .unset, .unset, .unset, .unset] [(.int p1), (.int (46332 : Int32))])) tg
            refine XS.bipush X0.here hx rfl (hb hby at_59) ?_
            show Steps p.tables e below (T0.setTop (mkF m 61 #[.val (.int p1), .val (.int p2), .val (.long p3), .second, .val (.int p4), .val (.int (1 : Int32)), .val (.int (((p2.toUInt32 >>> ((1 : Int32) &&& 31).toUInt32).toInt32) &&& (3 : Int32))), .unset, .unset, .unset, .unset, .unset] [(.int (15 : Int32)), (.int p1), (.int (46332 : Int32))])) tg
            refine XS.iand X0.here hx rfl (hb hby at_61) rfl ?_
            show Steps p.tables e below (T0.setTop (mkF m 62 #[.val (.int p1), .val (.int p2), .val (.long p3), .second, .val (.int p4), .val (.int (1 : Int32)), .val (.int (((p2.toUInt32 >>> ((1 : Int32) &&& 31).toUInt32).toInt32) &&& (3 : Int32))), .unset, .unset, .unset, .unset, .unset] [(.int (p1 &&& (15 : Int32))), (.int (46332 : Int32))])) tg
            refine XS.iadd X0.here hx rfl (hb hby at_62) rfl ?_
            show Steps p.tables e below (T0.setTop (mkF m 63 #[.val (.int p1), .val (.int p2), .val (.long p3), .second, .val (.int p4), .val (.int (1 : Int32)), .val (.int (((p2.toUInt32 >>> ((1 : Int32) &&& 31).toUInt32).toInt32) &&& (3 : Int32))), .unset, .unset, .unset, .unset, .unset] [(.int ((46332 : Int32) + (p1 &&& (15 : Int32))))])) tg
            refine XS.istore X0.here hx rfl (hb hby at_63) rfl (l' := #[.val (.int p1), .val (.int p2), .val (.long p3), .second, .val (.int p4), .val (.int (1 : Int32)), .val (.int (((p2.toUInt32 >>> ((1 : Int32) &&& 31).toUInt32).toInt32) &&& (3 : Int32))), .val (.int ((46332 : Int32) + (p1 &&& (15 : Int32)))), .unset, .unset, .unset, .unset]) rfl ?_
            show Steps p.tables e below (T0.setTop (mkF m 65 #[.val (.int p1), .val (.int p2), .val (.long p3), .second, .val (.int p4), .val (.int (1 : Int32)), .val (.int (((p2.toUInt32 >>> ((1 : Int32) &&& 31).toUInt32).toInt32) &&& (3 : Int32))), .val (.int ((46332 : Int32) + (p1 &&& (15 : Int32)))), .unset, .unset, .unset, .unset] [])) tg
            refine XS.goto X0.here hx rfl (pc0 := 65) (pc' := 74) rfl (hb hby at_65) (by decide) (by decide) ?_
            exact kt
          exact sg0_741 hw p1 p2 p3 p4 (((p2.toUInt32 >>> ((1 : Int32) &&& 31).toUInt32).toInt32) &&& (3 : Int32)) ((46332 : Int32) + (p1 &&& (15 : Int32))) K X0 e0 N0 Z0 (own_mask4 _)
        · skip
          refine own_seg (T' := T0) (g' := (mkF m 68 #[.val (.int p1), .val (.int p2), .val (.long p3), .second, .val (.int p4), .val (.int (1 : Int32)), .val (.int (((p2.toUInt32 >>> ((1 : Int32) &&& 31).toUInt32).toInt32) &&& (3 : Int32))), .unset, .unset, .unset, .unset, .unset] [])) (fun tg kt => XS.icmpYes X0.here hx rfl (pc0 := 53) (pc' := 68) rfl (hb hby at_53) rfl (feq hc53).2 (by decide) (by decide) kt) ?_
          refine own_seg (T' := T0) (g' := (mkF m 74 #[.val (.int p1), .val (.int p2), .val (.long p3), .second, .val (.int p4), .val (.int (1 : Int32)), .val (.int (((p2.toUInt32 >>> ((1 : Int32) &&& 31).toUInt32).toInt32) &&& (3 : Int32))), .val (.int (p1 &&& (65535 : Int32))), .unset, .unset, .unset, .unset] [])) (fun tg kt => ?_) ?_
          · show Steps p.tables e below (T0.setTop (mkF m 68 #[.val (.int p1), .val (.int p2), .val (.long p3), .second, .val (.int p4), .val (.int (1 : Int32)), .val (.int (((p2.toUInt32 >>> ((1 : Int32) &&& 31).toUInt32).toInt32) &&& (3 : Int32))), .unset, .unset, .unset, .unset, .unset] [])) tg
            refine XS.iloadN X0.here hx rfl (hb hby at_68) rfl ?_
            show Steps p.tables e below (T0.setTop (mkF m 69 #[.val (.int p1), .val (.int p2), .val (.long p3), .second, .val (.int p4), .val (.int (1 : Int32)), .val (.int (((p2.toUInt32 >>> ((1 : Int32) &&& 31).toUInt32).toInt32) &&& (3 : Int32))), .unset, .unset, .unset, .unset, .unset] [(.int p1)])) tg
            refine X0.ldcInt hx hown (mvT hZ (hw _ (List.mem_of_getElem? (i := 19) rfl))) (g := (mkF m 69 #[.val (.int p1), .val (.int p2), .val (.long p3), .second, .val (.int p4), .val (.int (1 : Int32)), .val (.int (((p2.toUInt32 >>> ((1 : Int32) &&& 31).toUInt32).toInt32) &&& (3 : Int32))), .unset, .unset, .unset, .unset, .unset] [(.int p1)])) rfl (hb hby at_69) _ ?_
            show Steps p.tables e below (T0.setTop (mkF m 71 #[.val (.int p1), .val (.int p2), .val (.long p3), .second, .val (.int p4), .val (.int (1 : Int32)), .val (.int (((p2.toUInt32 >>> ((1 : Int32) &&& 31).toUInt32).toInt32) &&& (3 : Int32))), .unset, .unset, .unset, .unset, .unset] [(.int (65535 : Int32)), (.int p1)])) tg
            refine XS.iand X0.here hx rfl (hb hby at_71) rfl ?_
            show Steps p.tables e below (T0.setTop (mkF m 72 #[.val (.int p1), .val (.int p2), .val (.long p3), .second, .val (.int p4), .val (.int (1 : Int32)), .val (.int (((p2.toUInt32 >>> ((1 : Int32) &&& 31).toUInt32).toInt32) &&& (3 : Int32))), .unset, .unset, .unset, .unset, .unset] [(.int (p1 &&& (65535 : Int32)))])) tg
            refine XS.istore X0.here hx rfl (hb hby at_72) rfl (l' := #[.val (.int p1), .val (.int p2), .val (.long p3), .second, .val (.int p4), .val (.int (1 : Int32)), .val (.int (((p2.toUInt32 >>> ((1 : Int32) &&& 31).toUInt32).toInt32) &&& (3 : Int32))), .val (.int (p1 &&& (65535 : Int32))), .unset, .unset, .unset, .unset]) rfl ?_
            exact kt
          exact sg0_741 hw p1 p2 p3 p4 (((p2.toUInt32 >>> ((1 : Int32) &&& 31).toUInt32).toInt32) &&& (3 : Int32)) (p1 &&& (65535 : Int32)) K X0 e0 N0 Z0 (own_mask16 _)
set_option maxRecDepth 65536 in
set_option maxHeartbeats 40000000 in
theorem own_comes {Post : Tables → Env → Array Value → State → Outcome → State → Prop} (hpost : ∀ tb e args s v u, (limb_1_1.after args s (.returned v) u = true ∧ limb_1_2.after args s (.returned v) u = true) → FrameEnd s (.returned v) u (Jvm.fieldLocs frame_1_writes args s ++ Jvm.arrayLocs frame_1_arrays args s ++ Jvm.staticLocs frame_1_statics s) 0 0 → Post tb e args s (.returned v) u) :
    ArmFor flags0 classFile x code maxLocals ret World_1 tables_1 room_1 Calls_1 rest_1 Pre_1 Post := by
  intro l hfl _ _ p e ha hc hk s m args below hf hA hF happ hP
  obtain ⟨hcalls, hrest, hpre⟩ := hP
  obtain ⟨-, -, -, hnamed, -, -, -, hat⟩ := (Spec.applies_iff hf).mp happ
  obtain ⟨hg, hn⟩ := and_e (Cond.before_iff.mp (show (Jvm.Cond.and given_1 narrow_1).before args s = true from hpre))
  obtain ⟨q1, q2⟩ := and_e hg
  obtain ⟨q3, q4⟩ := and_e q2
  obtain ⟨q5, q6⟩ := and_e q4
  obtain ⟨q7, q8⟩ := and_e q6
  obtain ⟨w0, w1, w2, w3, rfl⟩ : ∃ w0 w1 w2 w3 : Value, args = #[w0, w1, w2, w3] := by
    have hs : args.size = 4 := by simpa [Cond.value, given_1] using q1
    obtain ⟨L⟩ := args
    match L, hs with
    | [w0, w1, w2, w3], _ => exact ⟨w0, w1, w2, w3, rfl⟩
  have hw := fun d (hd : d ∈ tables_1) => atoms_spec (ws := Jvm.Cond.code x code maxLocals ret :: tables_1) hat d (List.mem_cons_of_mem _ hd)
  obtain ⟨i0, ei0⟩ := is_v q3
  obtain rfl : w0 = (.int i0) := Option.some.inj ei0
  obtain ⟨i1, ei1⟩ := is_v q5
  obtain rfl : w1 = (.int i1) := Option.some.inj ei1
  obtain ⟨i2, ei2⟩ := isL_v q7
  obtain rfl : w2 = (.long i2) := Option.some.inj ei2
  obtain ⟨i3, ei3⟩ := is_v q8
  obtain rfl : w3 = (.int i3) := Option.some.inj ei3
  obtain ⟨n, o, h1, h2, h3, _, L, rfl, ⟨rfl, N⟩, hq⟩ := rm0 l s _ hw i0 i1 i2 i3 s.heap s.heap.size (Nat.le_refl _) tables_1 p e ha hc hk s m _ below hf ((Spec.applies_iff_loose hf).mp happ).1 ⟨rfl, State.Warmed39.refl s, rfl⟩ trivial
  exact ⟨n, _, h1, h2, h3, hpost _ _ _ _ _ _ ⟨Cond.after_iff.mpr rfl, Cond.after_iff.mpr (eq_i res_at (Term.int_eval (1)) rfl)⟩ ⟨hq.1, hq.2.1, (hq.2.2.sift fun y hy => Or.inr (N y hy)).mono (by decide) (by decide)⟩⟩
theorem main_1_1 : Claimed_1_1 := own_comes fun _ _ _ _ _ _ h hF => ⟨h.1, hF⟩
theorem main_1_2 : Claimed_1_2 := own_comes fun _ _ _ _ _ _ h hF => ⟨h.2, hF⟩
end Jvm.Pilot.@@N@@
namespace Jvm.Pilot.@@N@@
open Jvm Jvm.ClassFile Sem Op Lib Jvm.Free Jvm.Stand Jvm.Pilot.@@N@@.Jvm.D
/-! MADE BY PROGRAM (witnessworld.py) out of the Statement's table words and the real class files: 10 classes; the members and pool entries that the words name. The judged class is class 1, her method 1. -/
namespace start1
open Jvm.ClassFile
def u (s : String) : CpInfo := .utf8 (stringToUtf16 s)
/-- a pool by its gaps: so many unusable entries, then the entry; so many at the end -/
def gap : Nat → List CpInfo → List CpInfo
  | 0, r => r
  | n + 1, r => .unusable :: gap n r
def poolList (es : List (Nat × CpInfo)) (last : Nat) : List CpInfo := es.foldr (fun e r => gap e.1 (e.2 :: r)) (gap last [])
def pool (es : List (Nat × CpInfo)) (last : Nat) : Array CpInfo := ⟨poolList es last⟩
def fileOf (pool : Array CpInfo) (this : Nat) (attrs : Array Attribute := #[]) (ms : Array MethodInfo := #[]) (fl : Nat := 33) (sup : Nat := 0) (ifs : Array Nat := #[]) (fds : Array FieldInfo := #[]) : ClassFile where
  minorVersion := 0
  majorVersion := 65
  constantPool := pool
  accessFlags := fl
  thisClass := this
  superClass := sup
  interfaces := ifs
  fields := fds
  methods := ms
  attributes := attrs
def plain (name : String) (sup : Option ClassId) : Class where
  name := name
  kind := .ordinary
  loader := none
  accessFlags := 33
  super := sup
  interfaces := #[]
  cf := none
  fields := #[]
  methods := #[]
  instanceTypes := #[]
  staticTypes := #[]
  resolved := #[]
  callSites := []
  init := .initialized
  statics := none
  mirror := none

def pool0 : Array CpInfo := pool [(5, u "<init>"), (0, u "()V"), (1, .class_ 10), (1, u "java/lang/Object")] 113

def k0m0 : Method := { name := "<init>", desc := "()V", sig := { parameters := [], returnType := none }, accessFlags := 1, code := none }
/-- java/lang/Object -/
def k0 : Class := { plain "java/lang/Object" none with
  accessFlags := 33
  interfaces := #[]
  cf := some (fileOf pool0 8 #[] #[{ accessFlags := 1, nameIndex := 5, descriptorIndex := 6, attributes := #[] }] 33 0 #[] #[])
  fields := #[]
  methods := #[k0m0]
  instanceTypes := #[]
  staticTypes := #[]
  resolved := Array.replicate 124 none
  statics := none }

def pool1 : Array CpInfo := pool [(2, .class_ 4), (1, u "java/lang/Object"), (0, u "<init>"), (0, u "()V"), (0, .integer 2147483647), (0, .integer 46332), (0, .integer 65535), (2, .long 9223372036854775807), (1, .integer 65536), (0, .methodref 16 17), (0, .class_ 18), (0, .nameAndType 19 20), (0, u "java/lang/Math"), (0, u "min"), (0, u "(II)I"), (0, .long 32), (1, .methodref 16 24), (0, .nameAndType 25 26), (0, u "max"), (0, u "(JJ)J"), (0, .integer 46340), (0, .methodref 29 30), (0, .class_ 31), (0, .nameAndType 32 33), (0, u "com/example/murmuration/murmuration/LegTable"), (0, u "isWorthKeeping"), (0, u "(IZJ)Z"), (0, .class_ 35), (0, u "com/example/murmuration/murmuration/LegTableIsWorthKeepingPinLaw"), (2, u "law"), (0, u "(IIJI)Z")] 3

def k1m0 : Method := { name := "<init>", desc := "()V", sig := { parameters := [], returnType := none }, accessFlags := 1, code := none }
def k1c1 : Code := { maxStack := 6, maxLocals := 12, code := code, exceptionTable := #[], attributes := #[] }
def k1m1 : Method := { name := "law", desc := "(IIJI)Z", sig := { parameters := [.int, .int, .long, .int], returnType := some .boolean }, accessFlags := 9, code := some k1c1 }
/-- com/example/murmuration/murmuration/LegTableIsWorthKeepingPinLaw -/
def k1 : Class := { plain "com/example/murmuration/murmuration/LegTableIsWorthKeepingPinLaw" (some 0) with
  accessFlags := 49
  interfaces := #[]
  cf := some (fileOf pool1 34 #[] #[{ accessFlags := 1, nameIndex := 5, descriptorIndex := 6, attributes := #[] }, { accessFlags := 9, nameIndex := 38, descriptorIndex := 39, attributes := #[] }] 49 2 #[] #[])
  fields := #[]
  methods := #[k1m0, k1m1]
  instanceTypes := #[]
  staticTypes := #[]
  resolved := Array.replicate 43 none
  statics := none }

def pool2 : Array CpInfo := pool [(1, .class_ 2), (0, u "java/lang/Math"), (1, .class_ 6), (1, u "java/lang/Object"), (0, u "<init>"), (0, u "()V"), (89, .class_ 100), (1, u "java/lang/Math$RandomNumberGeneratorHolder"), (20, u "(JJ)J"), (50, u "negativeZeroFloatBits"), (0, u "J"), (2, u "negativeZeroDoubleBits"), (21, u "max"), (2, u "min"), (43, u "$assertionsDisabled"), (0, u "Z"), (88, u "(II)I"), (2, u "twoToTheDoubleScaleDown"), (0, u "D"), (4, u "twoToTheDoubleScaleUp"), (9, u "E"), (3, u "PI"), (2, u "TAU"), (2, u "DEGREES_TO_RADIANS"), (0, u "RADIANS_TO_DEGREES")] 94

def k2m0 : Method := { name := "<init>", desc := "()V", sig := { parameters := [], returnType := none }, accessFlags := 2, code := none }
def k2c1 : Code := { maxStack := 4, maxLocals := 4, code := jdk_29_method_66_code, exceptionTable := #[], attributes := #[] }
def k2m1 : Method := { name := "max", desc := "(JJ)J", sig := { parameters := [.long, .long], returnType := some .long }, accessFlags := 9, code := some k2c1 }
def k2c2 : Code := { maxStack := 2, maxLocals := 2, code := jdk_29_method_69_code, exceptionTable := #[], attributes := #[] }
def k2m2 : Method := { name := "min", desc := "(II)I", sig := { parameters := [.int, .int], returnType := some .int }, accessFlags := 9, code := some k2c2 }
/-- java/lang/Math -/
def k2 : Class := { plain "java/lang/Math" (some 0) with
  accessFlags := 49
  interfaces := #[]
  cf := some (fileOf pool2 1 #[.nestMembers #[98]] #[{ accessFlags := 2, nameIndex := 7, descriptorIndex := 8, attributes := #[] }, { accessFlags := 9, nameIndex := 198, descriptorIndex := 121, attributes := #[] }, { accessFlags := 9, nameIndex := 201, descriptorIndex := 335, attributes := #[] }] 49 4 #[] #[{ accessFlags := 25, nameIndex := 354, descriptorIndex := 339, attributes := #[] }, { accessFlags := 25, nameIndex := 358, descriptorIndex := 339, attributes := #[] }, { accessFlags := 25, nameIndex := 361, descriptorIndex := 339, attributes := #[] }, { accessFlags := 26, nameIndex := 364, descriptorIndex := 339, attributes := #[] }, { accessFlags := 26, nameIndex := 365, descriptorIndex := 339, attributes := #[] }, { accessFlags := 26, nameIndex := 172, descriptorIndex := 173, attributes := #[] }, { accessFlags := 26, nameIndex := 176, descriptorIndex := 173, attributes := #[] }, { accessFlags := 8, nameIndex := 344, descriptorIndex := 339, attributes := #[] }, { accessFlags := 8, nameIndex := 338, descriptorIndex := 339, attributes := #[] }, { accessFlags := 4120, nameIndex := 245, descriptorIndex := 246, attributes := #[] }])
  fields := #[{ name := "E", type := .double, accessFlags := 25, slot := 0, constantValue := 0 }, { name := "PI", type := .double, accessFlags := 25, slot := 1, constantValue := 0 }, { name := "TAU", type := .double, accessFlags := 25, slot := 2, constantValue := 0 }, { name := "DEGREES_TO_RADIANS", type := .double, accessFlags := 26, slot := 3, constantValue := 0 }, { name := "RADIANS_TO_DEGREES", type := .double, accessFlags := 26, slot := 4, constantValue := 0 }, { name := "negativeZeroFloatBits", type := .long, accessFlags := 26, slot := 5, constantValue := 0 }, { name := "negativeZeroDoubleBits", type := .long, accessFlags := 26, slot := 6, constantValue := 0 }, { name := "twoToTheDoubleScaleUp", type := .double, accessFlags := 8, slot := 7, constantValue := 0 }, { name := "twoToTheDoubleScaleDown", type := .double, accessFlags := 8, slot := 8, constantValue := 0 }, { name := "$assertionsDisabled", type := .boolean, accessFlags := 4120, slot := 9, constantValue := 0 }]
  methods := #[k2m0, k2m1, k2m2]
  instanceTypes := #[]
  staticTypes := #[.double, .double, .double, .double, .double, .long, .long, .double, .double, .boolean]
  resolved := Array.replicate 460 none
  statics := none }

def pool3 : Array CpInfo := pool [(4, .class_ 6), (1, u "java/lang/Object"), (3, .class_ 12), (1, u "com/example/murmuration/murmuration/LegTable"), (0, u "NOTHING_KEPT"), (0, u "Ljava/lang/ref/SoftReference;"), (2, u "kept"), (2, u "count"), (0, u "I"), (2, u "measure"), (0, u "Lcom/example/murmuration/murmuration/LegTable$Measure;"), (12, u "isWorthKeeping"), (0, u "(IZJ)Z"), (0, .long 2147483639), (3, .long 8), (1, .long 4), (3, u "held"), (0, u "Lcom/example/murmuration/murmuration/LegTable$Lengths;"), (5, .class_ 59), (1, u "com/example/murmuration/murmuration/LegTable$Lengths"), (10, u "everyLegHolds"), (2, u "unkept"), (0, u "Z"), (14, .class_ 91), (1, u "com/example/murmuration/murmuration/LegTable$Measure"), (3, u "holds"), (30, u "MOST_QUICK_SITES"), (2, u "HEAP_PER_TABLE"), (1, u "MOST_ENTRIES"), (0, u "J")] 37

def k3c0 : Code := { maxStack := 6, maxLocals := 7, code := prog_6_method_3_code, exceptionTable := #[], attributes := #[] }
def k3m0 : Method := { name := "isWorthKeeping", desc := "(IZJ)Z", sig := { parameters := [.int, .boolean, .long], returnType := some .boolean }, accessFlags := 8, code := some k3c0 }
/-- com/example/murmuration/murmuration/LegTable -/
def k3 : Class := { plain "com/example/murmuration/murmuration/LegTable" (some 0) with
  accessFlags := 48
  interfaces := #[]
  cf := some (fileOf pool3 10 #[.nestMembers #[57, 89]] #[{ accessFlags := 8, nameIndex := 38, descriptorIndex := 39, attributes := #[] }] 48 4 #[] #[{ accessFlags := 26, nameIndex := 126, descriptorIndex := 21, attributes := #[] }, { accessFlags := 26, nameIndex := 129, descriptorIndex := 21, attributes := #[] }, { accessFlags := 26, nameIndex := 131, descriptorIndex := 132, attributes := #[] }, { accessFlags := 26, nameIndex := 13, descriptorIndex := 14, attributes := #[] }, { accessFlags := 18, nameIndex := 20, descriptorIndex := 21, attributes := #[] }, { accessFlags := 18, nameIndex := 24, descriptorIndex := 25, attributes := #[] }, { accessFlags := 2, nameIndex := 50, descriptorIndex := 51, attributes := #[] }, { accessFlags := 2, nameIndex := 17, descriptorIndex := 14, attributes := #[] }, { accessFlags := 2, nameIndex := 95, descriptorIndex := 21, attributes := #[] }, { accessFlags := 2, nameIndex := 70, descriptorIndex := 21, attributes := #[] }, { accessFlags := 2, nameIndex := 73, descriptorIndex := 74, attributes := #[] }])
  fields := #[{ name := "MOST_QUICK_SITES", type := .int, accessFlags := 26, slot := 0, constantValue := 0 }, { name := "HEAP_PER_TABLE", type := .int, accessFlags := 26, slot := 1, constantValue := 0 }, { name := "MOST_ENTRIES", type := .long, accessFlags := 26, slot := 2, constantValue := 0 }, { name := "NOTHING_KEPT", type := (.object "java/lang/ref/SoftReference"), accessFlags := 26, slot := 3, constantValue := 0 }, { name := "count", type := .int, accessFlags := 18, slot := 0, constantValue := 0 }, { name := "measure", type := (.object "com/example/murmuration/murmuration/LegTable$Measure"), accessFlags := 18, slot := 1, constantValue := 0 }, { name := "held", type := (.object "com/example/murmuration/murmuration/LegTable$Lengths"), accessFlags := 2, slot := 2, constantValue := 0 }, { name := "kept", type := (.object "java/lang/ref/SoftReference"), accessFlags := 2, slot := 3, constantValue := 0 }, { name := "holds", type := .int, accessFlags := 2, slot := 4, constantValue := 0 }, { name := "everyLegHolds", type := .int, accessFlags := 2, slot := 5, constantValue := 0 }, { name := "unkept", type := .boolean, accessFlags := 2, slot := 6, constantValue := 0 }]
  methods := #[k3m0]
  instanceTypes := #[.int, (.object "com/example/murmuration/murmuration/LegTable$Measure"), (.object "com/example/murmuration/murmuration/LegTable$Lengths"), (.object "java/lang/ref/SoftReference"), .int, .int, .boolean]
  staticTypes := #[.int, .int, .long, (.object "java/lang/ref/SoftReference")]
  resolved := Array.replicate 170 none
  statics := none }

def pool4 : Array CpInfo := pool [(1, u "java/lang/Cloneable"), (0, .class_ 1), (0, u "java/lang/Object"), (0, .class_ 3)] 3

/-- java/lang/Cloneable -/
def k4 : Class := { plain "java/lang/Cloneable" (some 0) with
  accessFlags := 1537
  interfaces := #[]
  cf := some (fileOf pool4 2 #[] #[] 1537 4 #[] #[])
  fields := #[]
  methods := #[]
  instanceTypes := #[]
  staticTypes := #[]
  resolved := Array.replicate 8 none
  statics := none }

def pool5 : Array CpInfo := pool [(1, u "java/io/Serializable"), (0, .class_ 1), (0, u "java/lang/Object"), (0, .class_ 3)] 3

/-- java/io/Serializable -/
def k5 : Class := { plain "java/io/Serializable" (some 0) with
  accessFlags := 1537
  interfaces := #[]
  cf := some (fileOf pool5 2 #[] #[] 1537 4 #[] #[])
  fields := #[]
  methods := #[]
  instanceTypes := #[]
  staticTypes := #[]
  resolved := Array.replicate 8 none
  statics := none }

/-- the primitive byte -/
def k6 : Class := { plain "byte" none with kind := .primitive 'B', accessFlags := 0x411 }
/-- [B -/
def k7 : Class := { plain "[B" (some 0) with kind := .array 6 .byte, interfaces := #[4, 5], accessFlags := 1041 }

/-- the primitive int -/
def k8 : Class := { plain "int" none with kind := .primitive 'I', accessFlags := 0x411 }
/-- [I -/
def k9 : Class := { plain "[I" (some 0) with kind := .array 8 .int, interfaces := #[4, 5], accessFlags := 1041 }

def heap : Heap := #[]
def classes : Array Class := #[k0, k1, k2, k3, k4, k5, k6, k7, k8, k9]
def interned : List (Array UInt16 × Addr) := []
def slotsUsed : Nat := 0
def theMethod : MethodId := ⟨1, 1⟩
def args0 : Array Value := #[.int 5, .int 3, .long 100, .int 2]
def aboutOver (below : List Frame) : State where
  vm := { classes := classes, interned := interned.toArray }
  heap := heap
  slotsUsed := slotsUsed
  threads := #[{ frames := .invoking theMethod args0 :: below }]
def below0 : List Frame := [.native { method := ⟨0, 0⟩, args := #[] }]
def about1 : State := aboutOver below0
def p0 : Program := .bare "" "" ""
def e0 : Env := launch0.env 0 0 0
theorem w_frames : about1.frames = Frame.invoking theMethod args0 :: below0 := rfl
set_option maxRecDepth 65536 in
theorem w_args : argsFit about1.vm theMethod args0 = true := by decide +kernel
set_option maxRecDepth 65536 in
theorem w_heap : heapFits about1 = true := by decide +kernel
set_option maxRecDepth 65536 in
theorem w_runnable : about1.curStatus? = some .runnable := by decide +kernel
set_option maxRecDepth 65536 in
theorem w_alone : about1.alone = true := by decide +kernel
set_option maxRecDepth 65536 in
theorem w_named : about1.methodNamed? x = some theMethod := by decide +kernel
set_option maxRecDepth 65536 in
theorem w_hears : about1.hears theMethod below0 = true := by decide +kernel
set_option maxRecDepth 65536 in
theorem w_ripe : about1.ripe theMethod args0 below0 = true := by decide +kernel
theorem w_running : about1.status = .running := rfl
set_option maxRecDepth 65536 in
theorem w_room : about1.hasRoom e0.platform room_1 = true :=
  launch0.hasRoom_least _ room_1 (by decide +kernel) (by decide +kernel) (by decide +kernel) (by decide +kernel) (by decide +kernel) (by decide +kernel)
theorem allAtoms_all (ts : List Jvm.Cond) (a : Array Jvm.Value) (st : Jvm.State) : (allAtoms ts).before a st = ts.all (fun c => c.before a st) := by
  induction ts with
  | nil => rfl
  | cons c t ih =>
    show (Jvm.Cond.and c (allAtoms t)).before a st = _
    rw [Jvm.Cond.before_and, ih, List.all_cons]
def words1 : List Jvm.Cond := Jvm.Cond.code x code maxLocals ret :: tables_1
/-- a 'code' word, met by the world's own term for the bytes: nothing is compared byte by byte -/
theorem code_word {y : MethodName} {bytes : ByteArray} {mx : Nat} {rt : Option FieldType} {a : Array Value} {s : State} {m : MethodId} {meth : Method} {c : Code} (h1 : s.methodNamed? y = some m) (h2 : s.vm.method? m = some meth) (h3 : meth.code = some c) (h4 : c.code = bytes)
    (h5 : (c.maxLocals == mx && c.exceptionTable.isEmpty && decide (c.maxStack ≤ mostOperands) && decide (meth.sig.returnType = rt) && !meth.locks && decide (parseMethodDescriptor y.desc = some meth.sig)) = true) : (Jvm.Cond.code y bytes mx rt).before a s = true := by
  simp only [Bool.and_eq_true, beq_iff_eq, Bool.not_eq_true', decide_eq_true_eq] at h5
  obtain ⟨⟨⟨⟨⟨g1, g2⟩, g3⟩, g4⟩, g5⟩, g6⟩ := h5
  simp [Cond.before, Cond.holds, Cond.value, h1, h2, h3, h4, g1, g2, g3, g4, g5, g6]
def isCode : Jvm.Cond → Bool
  | .code _ _ _ _ => true
  | _ => false
theorem all_split {L : List Jvm.Cond} {P : Jvm.Cond → Bool} (h1 : L.all (fun c => isCode c || P c) = true) (h2 : ∀ c ∈ L.filter isCode, P c = true) : L.all P = true := by
  refine List.all_eq_true.mpr fun c hc => ?_
  have h := List.all_eq_true.mp h1 c hc
  rcases Bool.eq_false_or_eq_true (isCode c) with hi | hi
  · exact h2 c (List.mem_filter.mpr ⟨hc, hi⟩)
  · simpa [hi] using h
set_option maxRecDepth 65536 in
theorem w_c0 : (Jvm.Cond.code x code maxLocals ret).before args0 about1 = true := code_word (m := ⟨1, 1⟩) (meth := k1m1) (c := k1c1) (by decide +kernel) rfl rfl rfl (by decide +kernel)
set_option maxRecDepth 65536 in
theorem w_c1 : (Jvm.Cond.code ({ cls := "java/lang/Math", name := "min", desc := "(II)I" } : Jvm.MethodName) jdk_29_method_69_code (2 : Nat) (Option.some Jvm.ClassFile.FieldType.int)).before args0 about1 = true := code_word (m := ⟨2, 2⟩) (meth := k2m2) (c := k2c2) (by decide +kernel) rfl rfl rfl (by decide +kernel)
set_option maxRecDepth 65536 in
theorem w_c2 : (Jvm.Cond.code ({ cls := "java/lang/Math", name := "max", desc := "(JJ)J" } : Jvm.MethodName) jdk_29_method_66_code (4 : Nat) (Option.some Jvm.ClassFile.FieldType.long)).before args0 about1 = true := code_word (m := ⟨2, 1⟩) (meth := k2m1) (c := k2c1) (by decide +kernel) rfl rfl rfl (by decide +kernel)
set_option maxRecDepth 65536 in
theorem w_c3 : (Jvm.Cond.code ({ cls := "com/example/murmuration/murmuration/LegTable", name := "isWorthKeeping", desc := "(IZJ)Z" } : Jvm.MethodName) prog_6_method_3_code (7 : Nat) (Option.some Jvm.ClassFile.FieldType.boolean)).before args0 about1 = true := code_word (m := ⟨3, 0⟩) (meth := k3m0) (c := k3c0) (by decide +kernel) rfl rfl rfl (by decide +kernel)
def codes1 : List Jvm.Cond := [Jvm.Cond.code x code maxLocals ret, Jvm.Cond.code ({ cls := "java/lang/Math", name := "min", desc := "(II)I" } : Jvm.MethodName) jdk_29_method_69_code (2 : Nat) (Option.some Jvm.ClassFile.FieldType.int), Jvm.Cond.code ({ cls := "java/lang/Math", name := "max", desc := "(JJ)J" } : Jvm.MethodName) jdk_29_method_66_code (4 : Nat) (Option.some Jvm.ClassFile.FieldType.long), Jvm.Cond.code ({ cls := "com/example/murmuration/murmuration/LegTable", name := "isWorthKeeping", desc := "(IZJ)Z" } : Jvm.MethodName) prog_6_method_3_code (7 : Nat) (Option.some Jvm.ClassFile.FieldType.boolean)]
set_option maxRecDepth 65536 in
theorem codes_eq : words1.filter isCode = codes1 := rfl
theorem w_codes : ∀ c ∈ words1.filter isCode, c.before args0 about1 = true := by
  rw [codes_eq]
  intro c hc
  simp only [codes1, List.mem_cons, List.not_mem_nil, or_false] at hc
  rcases hc with rfl | rfl | rfl | rfl
  · exact w_c0
  · exact w_c1
  · exact w_c2
  · exact w_c3
set_option maxRecDepth 65536 in
theorem w_t1 : words1.all (fun c => isCode c || c.before args0 about1) = true := by decide +kernel
theorem w_tables : (allAtoms (Jvm.Cond.code x code maxLocals ret :: tables_1)).before args0 about1 = true := by
  rw [allAtoms_all]
  show words1.all (fun c => c.before args0 about1) = true
  refine all_split ?_ w_codes
  rw [w_t1]
set_option maxRecDepth 65536 in
theorem w_case : (Jvm.Cond.and given_1 narrow_1).before args0 about1 = true := by decide +kernel
theorem w_applies : (headSpec (Jvm.Cond.code x code maxLocals ret :: tables_1) room_1).applies x e0.platform about1 = true :=
  (Spec.applies_iff w_frames).mpr ⟨w_running, w_runnable, w_alone, w_named, w_hears, w_ripe, w_room, w_tables⟩
theorem atStart : AtStart classFile x code maxLocals ret World_1 tables_1 room_1 Calls_1 rest_1 Pre_1 launch0 p0 e0 about1 theMethod args0 below0 :=
  ⟨lists_1, trivial, launch0.admits_env _ _ _, launch0.least_env, fairChoices_fair.cas, fairChoices_fair.clock, w_frames, w_args, w_heap, w_applies, trivial, trivial, w_case⟩
end start1
theorem witness_1 : WitnessClaimed_1 := ⟨start1.p0, start1.e0, start1.about1, start1.theMethod, start1.args0, start1.below0, start1.atStart⟩
end Jvm.Pilot.@@N@@
