import JvmDerived
import JvmDerived.Pilot.@@N@@Statement
import JvmDerived.Pilot.@@N@@Code
set_option linter.unusedVariables false
set_option linter.unusedSimpArgs false
@@BLOCK:HandJ.lean.txt@@
@@BLOCK:NumsL.lean.txt@@
@@BLOCK:SymMore.lean.txt@@
namespace Jvm.Pilot.@@N@@
open Jvm Jvm.ClassFile Sem Op Lib Jvm.Free Jvm.Stand Jvm.LawKit Jvm.RoadKit Bundle Jvm.Pilot.@@N@@.Jvm.D
/-! ## own_..: a layer of continuations over the library's laws: a walk that may branch -/
/-- from T with the frame g on top the run comes to an end of which P holds -/
def own_Fin (p : Program) (e : Env) (below : List Frame) (P : Outcome → State → Prop) (T : State) (g : JFrame) : Prop :=
  ∃ s₂ o, Steps p.tables e below (T.setTop g) s₂ ∧ s₂.status = .running ∧ Ended s₂ below o ∧ P o s₂
/-- what is known of the method that is walked -/
def own_Ctx (p : Program) (Z s : State) (m : MethodId) (meth : Method) (c : Code) (cls : String) (bytes : ByteArray) (maxL : Nat) (ret : Option FieldType) (nm : String) : Prop :=
  p.tables.exec = Jvm.exec ∧ Z.Warmed39 s.vm ∧ c.code = bytes ∧ c.maxLocals = maxL ∧ s.vm.findClass cls = some m.cls ∧ meth.sig.returnType = ret ∧ meth.locks = false ∧ meth.name = nm
/-- the walk's end: it returns v, Q says what it leaves -/
def own_P (s : State) (rm : Room) (Q : Option Value → Heap → List Loc → Prop) : Outcome → State → Prop :=
  fun o t => ∃ v L, o = .returned v ∧ Q v t.heap L ∧ FrameEnd s o t L rm.cells rm.slots
/-- a method's contract at one heap and one list of arguments -/
def own_Met (l : Launch) (Z : State) (y : MethodName) (bytes : ByteArray) (maxL : Nat) (ret : Option FieldType) (rm : Room) (as' : Array Value) (h : Heap) (Q : Option Value → Heap → List Loc → Prop) : Prop :=
  ∀ ws, MetFree l y (head1 (Jvm.Cond.code y bytes maxL ret :: ws) rm) (fun a U => a = as' ∧ Z.Warmed39 U.vm ∧ U.heap = h) (fun _ _ _ _ _ => True) (fun _ U o U' => ∃ v L, o = .returned v ∧ Q v U'.heap L ∧ FrameEnd U o U' L rm.cells rm.slots)
theorem own_enter {l : Launch} {Z : State} {y : MethodName} {bytes : ByteArray} {maxL : Nat} {ret : Option FieldType} {rm : Room} {as' : Array Value} {h : Heap} {Q : Option Value → Heap → List Loc → Prop} {Ls : Array Slot}
    (hpl : plainFor y = true) (hef : ∀ m, entryFrame m as' maxL = mkF m 0 Ls [])
    (body : ∀ (p : Program) (e : Env) (s : State) (m : MethodId) (below : List Frame) (meth : Method) (c : Code) (T : State), own_Ctx p Z s m meth c y.cls bytes maxL ret y.name → Stand p l e rm s m as' below meth c T [] 0 0 → T.heap = h → own_Fin p e below (own_P s rm Q) T (mkF m 0 Ls [])) :
    own_Met l Z y bytes maxL ret rm as' h Q := by
  intro ws
  refine MetFree.of_bodySF hpl hisR ?_
  intro p e s m args below meth c s₁ Bd hml0 hP hK
  obtain ⟨rfl, hZ, hh⟩ := hP
  have q := body p e s m below meth c s₁ ⟨Bd.exec, hZ, Bd.bytes, hml0, findClass_of_methodNamed Bd.named, Bd.returns, BodyLoose.notSynchronized Bd, (name_of_methodNamed Bd.named Bd.method).1⟩ (Stand.of_body Bd) (by rw [← hh, Bd.state]; rfl)
  rw [← hef m] at q
  exact q
/-- what a method leaves that writes nothing: the value, and the heap as it was -/
def own_QI (r : Int32) (h0 : Heap) (n0 : Nat) (v : Option Value) (h : Heap) (L : List Loc) : Prop := v = some (.int r) ∧ Fr n0 L ∧ h = h0
def own_QJ (r : Int64) (h0 : Heap) (n0 : Nat) (v : Option Value) (h : Heap) (L : List Loc) : Prop := v = some (.long r) ∧ Fr n0 L ∧ h = h0
def own_QR (r : Value) (h0 : Heap) (n0 : Nat) (v : Option Value) (h : Heap) (L : List Loc) : Prop := v = some r ∧ Fr n0 L ∧ h = h0
def own_QV (h0 : Heap) (n0 : Nat) (v : Option Value) (h : Heap) (L : List Loc) : Prop := v = none ∧ Fr n0 L ∧ h = h0
/-- what a law leaves: true -/
def own_Q1 (n0 : Nat) (v : Option Value) (h : Heap) (L : List Loc) : Prop := v = some (.int 1) ∧ Fr n0 L
theorem own_lrem_eq (x y : Int64) : x - (x / y) * y = x % y := Int64.toInt_inj.mp ((Jvm.Kit.i64_rem x y).trans (Int64.toInt_mod x y).symm)
theorem own_lrem {tb : Tables} [Ours tb] {e : Env} {below : List Frame} {T target : State} {m : MethodId} {c : Code} {g : JFrame} (h : At T m c below) (hx : tb.exec = Jvm.exec) (hg : g.method = m) {x y : Int64} {rest : List Value} (hd : decode c.code g.pc = .ok (.lrem, 1)) (hs : g.stack = .long y :: .long x :: rest) (hy : y ≠ 0)
    (hr : Steps tb e below (T.setTop { g with pc := g.pc + 1, stack := .long (x % y) :: rest }) target) : Steps tb e below (T.setTop g) target :=
  XS.lrem h hx hg hd hs hy (by rw [own_lrem_eq]; exact hr)
section Own
variable {p : Program} {l : Launch} {e : Env} {R : Room} {s : State} {m : MethodId} {args : Array Value} {below : List Frame} {meth : Method} {c : Code} {T : State} {locs : List Loc} {cells slots : Nat} {Z : State} {a0 : Array Value} {h : Heap}
  {P : Outcome → State → Prop} {cls : String} {bytes : ByteArray} {maxL : Nat} {ret : Option FieldType} {nm : String} {Q : Option Value → Heap → List Loc → Prop}
theorem own_seg {T' : State} {g g' : JFrame} (st : ∀ t, Steps p.tables e below (T'.setTop g') t → Steps p.tables e below (T.setTop g) t) (k : own_Fin p e below P T' g') : own_Fin p e below P T g := by
  obtain ⟨s₂, o, h1, h2⟩ := k
  exact ⟨s₂, o, st _ h1, h2⟩
theorem own_mono (X : Stand p l e R s m args below meth c T locs cells slots) {cells' slots' : Nat} (h1 : cells ≤ cells') (h2 : slots ≤ slots') : Stand p l e R s m args below meth c T locs cells' slots' :=
  ⟨X.admits, X.cas, X.clock, X.frames, X.room, X.hears, X.method, X.code, X.here, X.tail, X.warmed, X.limits, X.bytes, X.same.mono h1 h2⟩
/-- the end of a walk -/
theorem own_out (K : own_Ctx p Z s m meth c cls bytes maxL ret nm) (X : Stand p l e R s m args below meth c T locs cells slots) {v : Option Value} (hv : ret = none → v = none) {g : JFrame}
    (st : ∀ fs, (∀ (f : JFrame) (acts : List Action), f.method = m → f.locked = none → f.entered = [] → (doReturn e (T.setTop f) acts v).1 = T.setFrames fs) → Steps p.tables e below (T.setTop g) (T.setFrames fs))
    (hQ : Q v T.heap locs) (hc : cells ≤ R.cells) (hs : slots ≤ R.slots) : own_Fin p e below (own_P s R Q) T g := by
  obtain ⟨hx, hZ, hby, hml, hown, hret, hlk, hnm⟩ := K
  obtain ⟨fs, hr, hrun, hended, hW, hsame⟩ := X.leave (v := v) (fun q => hv (hret ▸ q)) hlk
  exact ⟨_, _, st fs hr, hrun, hended, _, _, rfl, hQ, ⟨_, rfl⟩, hW, hsame.mono hc hs⟩
theorem own_retV (K : own_Ctx p Z s m meth c cls bytes maxL none nm) (X : Stand p l e R s m args below meth c T locs cells slots) {pc : Nat} {Ls : Array Slot} (hd : decode bytes pc = .ok (.return_, 1))
    (hQ : Q none T.heap locs) (hc : cells ≤ R.cells) (hs : slots ≤ R.slots) : own_Fin p e below (own_P s R Q) T (mkF m pc Ls []) :=
  own_out K X (fun _ => rfl) (fun fs hr => X.returnOut K.1 K.2.2.2.2.2.1 (hb K.2.2.1 hd) hr) hQ hc hs
theorem own_retO {t : FieldType} (K : own_Ctx p Z s m meth c cls bytes maxL (some t) nm) (X : Stand p l e R s m args below meth c T locs cells slots) {pc : Nat} {Ls : Array Slot} {w : Value} {i : Instr} {rest : List Value} (hn : narrow t w = w)
    (hi : (i = .ireturn ∧ (t = .int ∨ t = .boolean ∨ t = .byte ∨ t = .char ∨ t = .short) ∧ ∃ z, w = .int z) ∨ (i = .lreturn ∧ t = .long ∧ ∃ z, w = .long z) ∨ (i = .dreturn ∧ t = .double ∧ ∃ z, w = .double z) ∨ (i = .freturn ∧ t = .float ∧ ∃ z, w = .float z) ∨ (i = .areturn ∧ t.isReference = true ∧ w.isRef = true))
    (hd : decode bytes pc = .ok (i, 1)) (hQ : Q (some w) T.heap locs) (hc : cells ≤ R.cells) (hs : slots ≤ R.slots) : own_Fin p e below (own_P s R Q) T (mkF m pc Ls (w :: rest)) :=
  own_out K X (fun q => nomatch q) (fun fs hr => retOut X K.1 K.2.2.2.2.2.1 hn hi (hb K.2.2.1 hd) hr) hQ hc hs
theorem own_retI (K : own_Ctx p Z s m meth c cls bytes maxL (some .int) nm) (X : Stand p l e R s m args below meth c T locs cells slots) {pc : Nat} {Ls : Array Slot} {z : Int32} {rest : List Value}
    (hd : decode bytes pc = .ok (.ireturn, 1)) (hQ : Q (some (.int z)) T.heap locs) (hc : cells ≤ R.cells) (hs : slots ≤ R.slots) : own_Fin p e below (own_P s R Q) T (mkF m pc Ls (.int z :: rest)) :=
  own_retO K X rfl (Or.inl ⟨rfl, Or.inl rfl, z, rfl⟩) hd hQ hc hs
theorem own_retJ (K : own_Ctx p Z s m meth c cls bytes maxL (some .long) nm) (X : Stand p l e R s m args below meth c T locs cells slots) {pc : Nat} {Ls : Array Slot} {z : Int64} {rest : List Value}
    (hd : decode bytes pc = .ok (.lreturn, 1)) (hQ : Q (some (.long z)) T.heap locs) (hc : cells ≤ R.cells) (hs : slots ≤ R.slots) : own_Fin p e below (own_P s R Q) T (mkF m pc Ls (.long z :: rest)) :=
  own_retO K X rfl (Or.inr (Or.inl ⟨rfl, rfl, z, rfl⟩)) hd hQ hc hs
theorem own_retA {t : FieldType} (K : own_Ctx p Z s m meth c cls bytes maxL (some t) nm) (ht : t.isReference = true) (X : Stand p l e R s m args below meth c T locs cells slots) {pc : Nat} {Ls : Array Slot} {w : Value} {rest : List Value} (hw : w.isRef = true)
    (hd : decode bytes pc = .ok (.areturn, 1)) (hQ : Q (some w) T.heap locs) (hc : cells ≤ R.cells) (hs : slots ≤ R.slots) : own_Fin p e below (own_P s R Q) T (mkF m pc Ls (w :: rest)) :=
  own_retO K X (by cases t <;> first | rfl | (cases ht; done) | (rcases ref_cases hw with rfl | ⟨a, rfl⟩ <;> rfl)) (Or.inr (Or.inr (Or.inr (Or.inr ⟨rfl, ht, hw⟩)))) hd hQ hc hs
theorem own_retN {t : FieldType} (K : own_Ctx p Z s m meth c cls bytes maxL (some t) nm) (ht : t = .boolean ∨ t = .byte ∨ t = .char ∨ t = .short) (X : Stand p l e R s m args below meth c T locs cells slots) {pc : Nat} {Ls : Array Slot} {z : Int32} {rest : List Value}
    (hd : decode bytes pc = .ok (.ireturn, 1)) (hQ : Q (some (.int (nar t z))) T.heap locs) (hc : cells ≤ R.cells) (hs : slots ≤ R.slots) : own_Fin p e below (own_P s R Q) T (mkF m pc Ls (.int z :: rest)) :=
  own_out K X (fun q => nomatch q) (fun fs hr => retN X K.1 K.2.2.2.2.2.1 ht (hb K.2.2.1 hd) hr) hQ hc hs
/-! calls -/
theorem own_callS (K : own_Ctx p Z s m meth c cls bytes maxL ret nm) (X : Stand p l e R s m args below meth c T locs cells slots) (eT : T.heap = h) {y : MethodName} {yb : ByteArray} {yl : Nat} {yr : Option FieldType} {rm : Room} {as' : Array Value} {Q' : Option Value → Heap → List Loc → Prop}
    (M : own_Met l Z y yb yl yr rm as' h Q') {index : Nat} (w1 : (Jvm.Cond.methodLink cls index y).before a0 Z = true) (w2 : (Jvm.Cond.static y).before a0 Z = true) (w3 : (Jvm.Cond.initialized y.cls).before a0 Z = true) (w4 : (Jvm.Cond.code y yb yl yr).before a0 Z = true)
    (hy : y.cls ≠ "java/lang/invoke/MethodHandle" ∧ y.cls ≠ "java/lang/invoke/VarHandle") (argsL rest : List Value) {ps : List FieldType} {r : Option FieldType} (hpd : parseMethodDescriptor y.desc = some ⟨ps, r⟩) (hlen : argsL.length = ps.length) {pc : Nat} {Ls : Array Slot} {stk : List Value}
    (hstk : stk = argsL.reverse ++ rest) (has : argsL.toArray = as') (hsize : Ls.size = maxL) (hd : decode bytes pc = .ok (.invokestatic index, 3)) (hf : rm.frames + 1 ≤ R.frames) (hl : (rest.map fun v => v.category).sum + (yl + 11) + rm.locals ≤ R.locals) (hc : cells + rm.cells ≤ R.cells) (hs : slots + rm.slots ≤ R.slots)
    (k : ∀ (T' : State) (L : List Loc) (v : Option Value), Stand p l e R s m args below meth c T' (locs ++ L) (cells + rm.cells) (slots + rm.slots) → Q' v T'.heap L → own_Fin p e below P T' (mkF m (pc + 3) Ls (v.toList ++ rest))) :
    own_Fin p e below P T (mkF m pc Ls stk) := by
  obtain ⟨hx, hZ, hby, hml, hown, hret, hlk, hnm⟩ := K
  obtain ⟨v, _, ⟨T', L', k', n'⟩, -, X', ⟨L, hQ, l1, l2, l3⟩, st⟩ := Jvm.LawKit.callS X hx (y := y) hown (mvT hZ w1) (mvT hZ w2) (mvT hZ w3) (mvT hZ w4) hy (backOf (W := (rest.map fun v => v.category).sum) (M []) hZ w4 w3 hf hl) (g := mkF m pc Ls stk) rfl (hsize.trans hml.symm) (argsL := argsL) (rest := rest) (lenOf hpd hlen) hstk (by show 2 * 0 + _ ≤ _; omega) (hb hby hd) (fun _ _ => ⟨has, eT, hc, hs⟩)
  dsimp only [Pt.U, Pt.locs, Pt.cells, Pt.slots] at X' l1 l2 l3 st hQ
  subst l1 l2 l3
  exact own_seg st (k T' L v X' hQ)
theorem own_callI (K : own_Ctx p Z s m meth c cls bytes maxL ret nm) (X : Stand p l e R s m args below meth c T locs cells slots) (eT : T.heap = h) {y : MethodName} {yb : ByteArray} {yl : Nat} {rm : Room} {as' : Array Value} {Q' : Option Value → Heap → List Loc → Prop}
    (M : own_Met l Z y yb yl none rm as' h Q') (hy1 : y.name = "<init>") {index : Nat} (w1 : (Jvm.Cond.methodLink cls index y).before a0 Z = true) (w2 : (Jvm.Cond.instanceMethod y).before a0 Z = true) (w3 : (Jvm.Cond.initialized y.cls).before a0 Z = true) (w4 : (Jvm.Cond.code y yb yl none).before a0 Z = true)
    (hy : y.cls ≠ "java/lang/invoke/MethodHandle" ∧ y.cls ≠ "java/lang/invoke/VarHandle") (a : Addr) (argsL rest : List Value) {ps : List FieldType} {r : Option FieldType} (hpd : parseMethodDescriptor y.desc = some ⟨ps, r⟩) (hlen : argsL.length = ps.length) {pc : Nat} {Ls : Array Slot} {stk : List Value}
    (hstk : stk = argsL.reverse ++ .ref a :: rest) (has : (.ref a :: argsL).toArray = as') (hsize : Ls.size = maxL) (hd : decode bytes pc = .ok (.invokespecial index, 3)) (hf : rm.frames + 1 ≤ R.frames) (hl : (rest.map fun v => v.category).sum + (yl + 11) + rm.locals ≤ R.locals) (hc : cells + rm.cells ≤ R.cells) (hs : slots + rm.slots ≤ R.slots)
    (k : ∀ (T' : State) (L : List Loc) (v : Option Value), Stand p l e R s m args below meth c T' (locs ++ L) (cells + rm.cells) (slots + rm.slots) → Q' v T'.heap L → own_Fin p e below P T' (mkF m (pc + 3) Ls (v.toList ++ rest))) :
    own_Fin p e below P T (mkF m pc Ls stk) := by
  obtain ⟨hx, hZ, hby, hml, hown, hret, hlk, hnm⟩ := K
  obtain ⟨v, _, ⟨T', L', k', n'⟩, -, X', ⟨L, hQ, l1, l2, l3⟩, st⟩ := X.specialBack hx (y := y) hy1 hown (mvT hZ w1) (mvT hZ w2) (mvT hZ w4) hy (backOf (W := (rest.map fun v => v.category).sum) (M []) hZ w4 w3 hf hl) (g := mkF m pc Ls stk) rfl (hsize.trans hml.symm) (Steps.refl _) (a := a) (argsL := argsL) (rest := rest) (lenOf hpd hlen) hstk (by show 2 * 0 + _ ≤ _; omega) (hb hby hd) (fun _ _ => ⟨has, eT, hc, hs⟩)
  dsimp only [Pt.U, Pt.locs, Pt.cells, Pt.slots] at X' l1 l2 l3 st hQ
  subst l1 l2 l3
  exact own_seg (fun t q => st.trans q) (k T' L v X' hQ)
theorem own_callV (K : own_Ctx p Z s m meth c cls bytes maxL ret nm) (X : Stand p l e R s m args below meth c T locs cells slots) (eT : T.heap = h) {y z : MethodName} {yb : ByteArray} {yl : Nat} {yr : Option FieldType} {rm : Room} {as' : Array Value} {Q' : Option Value → Heap → List Loc → Prop}
    (M : own_Met l Z z yb yl yr rm as' h Q') {index : Nat} {C : String} (w1 : (Jvm.Cond.methodLink cls index y).before a0 Z = true) (w2 : (Jvm.Cond.declares y).before a0 Z = true) (nf : ∀ args, (Jvm.Cond.selects C y z).before args s = true → NotFace s y) (w5 : (Jvm.Cond.selects C y z).before a0 Z = true) (w6 : (Jvm.Cond.instanceMethod z).before a0 Z = true) (w3 : (Jvm.Cond.initialized z.cls).before a0 Z = true) (w4 : (Jvm.Cond.code z yb yl yr).before a0 Z = true)
    (hy : y.cls ≠ "java/lang/invoke/MethodHandle" ∧ y.cls ≠ "java/lang/invoke/VarHandle") (a : Addr) (E : Exa Z h a C) (argsL rest : List Value) {ps : List FieldType} {r : Option FieldType} (hpd : parseMethodDescriptor y.desc = some ⟨ps, r⟩) (hlen : argsL.length = ps.length) {pc : Nat} {Ls : Array Slot} {stk : List Value}
    (hstk : stk = argsL.reverse ++ .ref a :: rest) (has : (.ref a :: argsL).toArray = as') (hsize : Ls.size = maxL) (hd : decode bytes pc = .ok (.invokevirtual index, 3)) (hf : rm.frames + 1 ≤ R.frames) (hl : (rest.map fun v => v.category).sum + (yl + 11) + rm.locals ≤ R.locals) (hc : cells + rm.cells ≤ R.cells) (hs : slots + rm.slots ≤ R.slots)
    (k : ∀ (T' : State) (L : List Loc) (v : Option Value), Stand p l e R s m args below meth c T' (locs ++ L) (cells + rm.cells) (slots + rm.slots) → Q' v T'.heap L → own_Fin p e below P T' (mkF m (pc + 3) Ls (v.toList ++ rest))) :
    own_Fin p e below P T (mkF m pc Ls stk) := by
  obtain ⟨hx, hZ, hby, hml, hown, hret, hlk, hnm⟩ := K
  obtain ⟨cq, kq, qa, qb, qc⟩ := isOf hZ eT E
  obtain ⟨v, _, ⟨T', L', k', n'⟩, -, X', ⟨L, hQ, l1, l2, l3⟩, st⟩ := X.virtualBack hx (y := y) (z := z) hown (mvT hZ w1) (mvT hZ w2) (nf #[] (mvT hZ w5)) (mvT hZ w5) (mvT hZ w6) hy (backOf (W := (rest.map fun v => v.category).sum) (M []) hZ w4 w3 hf hl) qa qc (g := mkF m pc Ls stk) rfl (hsize.trans hml.symm) (Steps.refl _) (argsL := argsL) (rest := rest) (lenOf hpd hlen) hstk (by show 2 * 0 + _ ≤ _; omega) (hb hby hd) (fun _ _ => ⟨has, eT, hc, hs⟩)
  dsimp only [Pt.U, Pt.locs, Pt.cells, Pt.slots] at X' l1 l2 l3 st hQ
  subst l1 l2 l3
  exact own_seg (fun t q => st.trans q) (k T' L v X' hQ)
theorem own_callP (K : own_Ctx p Z s m meth c cls bytes maxL ret nm) (X : Stand p l e R s m args below meth c T locs cells slots) (eT : T.heap = h) {y : MethodName} {yb : ByteArray} {yl : Nat} {yr : Option FieldType} {rm : Room} {as' : Array Value} {Q' : Option Value → Heap → List Loc → Prop}
    (M : own_Met l Z y yb yl yr rm as' h Q') {index kk : Nat} (w1 : (Jvm.Cond.methodLink cls index y).before a0 Z = true) (w2 : (Jvm.Cond.instanceMethod y).before a0 Z = true) (w7 : (Jvm.Cond.instantiable y.cls kk).before a0 Z = true) (w6 : (Jvm.Cond.privateMethod y).before a0 Z = true) (w3 : (Jvm.Cond.initialized y.cls).before a0 Z = true) (w4 : (Jvm.Cond.code y yb yl yr).before a0 Z = true)
    (hy : y.cls ≠ "java/lang/invoke/MethodHandle" ∧ y.cls ≠ "java/lang/invoke/VarHandle") (a : Addr) (E : Exa Z h a y.cls) (argsL rest : List Value) {ps : List FieldType} {r : Option FieldType} (hpd : parseMethodDescriptor y.desc = some ⟨ps, r⟩) (hlen : argsL.length = ps.length) {pc : Nat} {Ls : Array Slot} {stk : List Value}
    (hstk : stk = argsL.reverse ++ .ref a :: rest) (has : (.ref a :: argsL).toArray = as') (hsize : Ls.size = maxL) (hd : decode bytes pc = .ok (.invokevirtual index, 3)) (hf : rm.frames + 1 ≤ R.frames) (hl : (rest.map fun v => v.category).sum + (yl + 11) + rm.locals ≤ R.locals) (hc : cells + rm.cells ≤ R.cells) (hs : slots + rm.slots ≤ R.slots)
    (k : ∀ (T' : State) (L : List Loc) (v : Option Value), Stand p l e R s m args below meth c T' (locs ++ L) (cells + rm.cells) (slots + rm.slots) → Q' v T'.heap L → own_Fin p e below P T' (mkF m (pc + 3) Ls (v.toList ++ rest))) :
    own_Fin p e below P T (mkF m pc Ls stk) := by
  obtain ⟨hx, hZ, hby, hml, hown, hret, hlk, hnm⟩ := K
  obtain ⟨cq, q1, q2⟩ := E.cell
  obtain ⟨v, _, ⟨T', L', k', n'⟩, -, X', ⟨L, hQ, l1, l2, l3⟩, st⟩ := X.privateBack hx (y := y) hown (mvT hZ w1) (mvT hZ w2) (Jvm.Kit.selects_private hy (mvT hZ w7) (mvP hZ w6) (mvT hZ w2)) (Cond.privateMethod_at (mvP hZ w6 (args := #[]))) (mvT hZ w4) hy (backOf (W := (rest.map fun v => v.category).sum) (M []) hZ w4 w3 hf hl) (g := mkF m pc Ls stk) rfl (hsize.trans hml.symm) (Steps.refl _) (a := a) (by rw [eT]; exact q1) q2 (argsL := argsL) (rest := rest) (lenOf hpd hlen) hstk (by show 2 * 0 + _ ≤ _; omega) (hb hby hd) (fun _ _ => ⟨has, eT, hc, hs⟩)
  dsimp only [Pt.U, Pt.locs, Pt.cells, Pt.slots] at X' l1 l2 l3 st hQ
  subst l1 l2 l3
  exact own_seg (fun t q => st.trans q) (k T' L v X' hQ)
theorem own_callF (K : own_Ctx p Z s m meth c cls bytes maxL ret nm) (X : Stand p l e R s m args below meth c T locs cells slots) (eT : T.heap = h) {xi y : MethodName} {yb : ByteArray} {yl : Nat} {yr : Option FieldType} {rm : Room} {as' : Array Value} {Q' : Option Value → Heap → List Loc → Prop}
    (M : own_Met l Z y yb yl yr rm as' h Q') {index count : Nat} {C : String} (w1 : (Jvm.Cond.methodLink cls index xi).before a0 Z = true) (w2 : (Jvm.Cond.declares xi).before a0 Z = true) (w8 : (Jvm.Cond.interfaceMethod xi.cls xi.cls xi.name xi.desc).before a0 Z = true) (w8f : ((Jvm.Cond.interfaceMethod xi.cls xi.cls xi.name xi.desc).onTables && (Jvm.Cond.interfaceMethod xi.cls xi.cls xi.name xi.desc).keepsFace) = true) (w5 : (Jvm.Cond.selects C xi y).before a0 Z = true) (w6 : (Jvm.Cond.instanceMethod y).before a0 Z = true) (w9 : (Jvm.Cond.publicMethod y).before a0 Z = true) (w10 : (Jvm.Cond.unhidden C xi.name xi.desc).before a0 Z = true) (w11 : (Jvm.Cond.castable C xi.cls).before a0 Z = true) (w3 : (Jvm.Cond.initialized y.cls).before a0 Z = true) (w4 : (Jvm.Cond.code y yb yl yr).before a0 Z = true)
    (hy : xi.cls ≠ "java/lang/invoke/MethodHandle" ∧ xi.cls ≠ "java/lang/invoke/VarHandle") (a : Addr) (E : Exa Z h a C) (argsL rest : List Value) {ps : List FieldType} {r : Option FieldType} (hpd : parseMethodDescriptor xi.desc = some ⟨ps, r⟩) (hlen : argsL.length = ps.length) {pc : Nat} {Ls : Array Slot} {stk : List Value}
    (hstk : stk = argsL.reverse ++ .ref a :: rest) (has : (.ref a :: argsL).toArray = as') (hsize : Ls.size = maxL) (hd : decode bytes pc = .ok (.invokeinterface index count, 5)) (hf : rm.frames + 1 ≤ R.frames) (hl : (rest.map fun v => v.category).sum + (yl + 11) + rm.locals ≤ R.locals) (hc : cells + rm.cells ≤ R.cells) (hs : slots + rm.slots ≤ R.slots)
    (k : ∀ (T' : State) (L : List Loc) (v : Option Value), Stand p l e R s m args below meth c T' (locs ++ L) (cells + rm.cells) (slots + rm.slots) → Q' v T'.heap L → own_Fin p e below P T' (mkF m (pc + 5) Ls (v.toList ++ rest))) :
    own_Fin p e below P T (mkF m pc Ls stk) := by
  obtain ⟨hx, hZ, hby, hml, hown, hret, hlk, hnm⟩ := K
  obtain ⟨cq, kq, qa, qb, qc⟩ := isOf hZ eT E
  obtain ⟨v, _, ⟨T', L', k', n'⟩, -, X', ⟨L, hQ, l1, l2, l3⟩, st⟩ := X.interfaceBack hx (xi := xi) (y := y) hown (mvT hZ w1) (mvT hZ w2) (mvT hZ w8 w8f) (mvT hZ w5) (mvT hZ w6) (mvT hZ w9) (mvT hZ w10) (mvT hZ w11) hy (backOf (W := (rest.map fun v => v.category).sum) (M []) hZ w4 w3 hf hl) qa qb qc (g := mkF m pc Ls stk) rfl (hsize.trans hml.symm) (Steps.refl _) (argsL := argsL) (rest := rest) (lenOf hpd hlen) hstk (by show 2 * 0 + _ ≤ _; omega) (hb hby hd) (fun _ _ => ⟨has, eT, hc, hs⟩)
  dsimp only [Pt.U, Pt.locs, Pt.cells, Pt.slots] at X' l1 l2 l3 st hQ
  subst l1 l2 l3
  exact own_seg (fun t q => st.trans q) (k T' L v X' hQ)
/-! fields, objects -/
theorem own_getF (K : own_Ctx p Z s m meth c cls bytes maxL ret nm) (X : Stand p l e R s m args below meth c T locs cells slots) (eT : T.heap = h) {index : Nat} {R0 O n d host : String} {a : Addr} {v : Value} (w : (Jvm.Cond.fieldLink cls index R0 n d).before a0 Z = true ∨ (Jvm.Cond.fieldLinkNest cls index R0 n d host).before a0 Z = true) (via : Via Z R0 O n d) (F : Fld Z h a O n d v)
    {pc : Nat} {Ls : Array Slot} {rest : List Value} (hd : decode bytes pc = .ok (.getfield index, 3)) (k : ∀ T', Stand p l e R s m args below meth c T' locs cells slots → T'.heap = h → own_Fin p e below P T' (mkF m (pc + 3) Ls (v :: rest))) : own_Fin p e below P T (mkF m pc Ls (.ref a :: rest)) := by
  obtain ⟨hx, hZ, hby, hml, hown, hret, hlk, hnm⟩ := K
  obtain ⟨T', X', e', st⟩ := getF X hx hZ hown w via eT F (g := mkF m pc Ls (.ref a :: rest)) rfl rfl (hb hby hd)
  exact own_seg st (k T' X' e')
theorem own_putF (K : own_Ctx p Z s m meth c cls bytes maxL ret nm) (X : Stand p l e R s m args below meth c T locs cells slots) (eT : T.heap = h) {index kk : Nat} {R0 O n d host C : String} {a : Addr} {v old : Value} {ty : FieldType} (w : (Jvm.Cond.fieldLink cls index R0 n d).before a0 Z = true ∨ (Jvm.Cond.fieldLinkNest cls index R0 n d host).before a0 Z = true) (via : Via Z R0 O n d) (F : Fld Z h a O n d old) (E : Exa Z h a C)
    (L : (Jvm.Cond.lays C O n d).before a0 Z = true ∨ ((Jvm.Cond.laysFinal C O n d).before a0 Z = true ∧ cls = O ∧ nm = "<init>")) (wi : (Jvm.Cond.instantiable C kk).before a0 Z = true) (hty : parseFieldDescriptor d = some ty) (hn : narrow ty v = v) (hf : fits ty v = true)
    {pc : Nat} {Ls : Array Slot} {rest : List Value} (hd : decode bytes pc = .ok (.putfield index, 3)) (k : ∀ T' h', Stand p l e R s m args below meth c T' (locs ++ [⟨a, Jvm.RoadKit.slotOf Z O n d⟩]) cells slots → T'.heap = h' → Wr h h' a (Jvm.RoadKit.slotOf Z O n d) v → own_Fin p e below P T' (mkF m (pc + 3) Ls rest)) : own_Fin p e below P T (mkF m pc Ls (v :: .ref a :: rest)) := by
  obtain ⟨hx, hZ, hby, hml, hown, hret, hlk, hnm⟩ := K
  obtain ⟨T', h', X', e', W, st⟩ := putF X hx hZ hown w via eT F E (L.imp id fun q => ⟨q.1, q.2.1, hnm.trans q.2.2⟩) wi hty hn hf (g := mkF m pc Ls (v :: .ref a :: rest)) rfl rfl (hb hby hd)
  exact own_seg st (k T' h' X' e' W)
theorem own_newO (K : own_Ctx p Z s m meth c cls bytes maxL ret nm) (X : Stand p l e R s m args below meth c T locs cells slots) (eT : T.heap = h) {C : String} {index n : Nat} (w : (Jvm.Cond.classLink cls index C).before a0 Z = true) (wi : (Jvm.Cond.instantiable C n).before a0 Z = true) (wz : (Jvm.Cond.initialized C).before a0 Z = true)
    {pc : Nat} {Ls : Array Slot} {stk : List Value} (hd : decode bytes pc = .ok (.new index, 3)) (hc : cells + 1 ≤ R.cells) (hl : slots + n ≤ R.slots)
    (k : ∀ T' h' a, a = h.size → Stand p l e R s m args below meth c T' locs (cells + 1) (slots + n) → T'.heap = h' → Ext h h' → Exa Z h' a C → (∀ {O nm d : String} {ty : FieldType}, Laid Z a0 C O nm d → parseFieldDescriptor d = some ty → Fld Z h' a O nm d (defaultValue ty)) → own_Fin p e below P T' (mkF m (pc + 3) Ls (.ref a :: stk))) : own_Fin p e below P T (mkF m pc Ls stk) := by
  obtain ⟨hx, hZ, hby, hml, hown, hret, hlk, hnm⟩ := K
  obtain ⟨T', h', X', e', E, A, D, -, st⟩ := newO X hx hZ hown w wi wz eT (g := mkF m pc Ls stk) rfl (hb hby hd) hc hl
  exact own_seg st (k T' h' _ rfl X' e' E A D)
theorem own_initO (K : own_Ctx p Z s m meth c cls bytes maxL ret nm) (X : Stand p l e R s m args below meth c T locs cells slots) (eT : T.heap = h) {index : Nat} (w1 : (Jvm.Cond.methodLink cls index Lib.objectInit).before a0 Z = true) (w2 : (Jvm.Cond.instanceMethod Lib.objectInit).before a0 Z = true) (w3 : (Jvm.Cond.code Lib.objectInit ⟨#[0xb1]⟩ 1 none).before a0 Z = true)
    {pc : Nat} {Ls : Array Slot} {a : Addr} {rest : List Value} (hsize : Ls.size = maxL) (hd : decode bytes pc = .ok (.invokespecial index, 3)) (hf : 1 ≤ R.frames) (hl : (rest.map fun v => v.category).sum + 12 ≤ R.locals)
    (k : ∀ T', Stand p l e R s m args below meth c T' locs cells slots → T'.heap = h → own_Fin p e below P T' (mkF m (pc + 3) Ls rest)) : own_Fin p e below P T (mkF m pc Ls (.ref a :: rest)) := by
  obtain ⟨hx, hZ, hby, hml, hown, hret, hlk, hnm⟩ := K
  obtain ⟨T', X', e', st⟩ := initO X hx hZ hown w1 w2 w3 eT (g := mkF m pc Ls (.ref a :: rest)) rfl (hsize.trans hml.symm) rfl (hb hby hd) hf (W := (rest.map fun v => v.category).sum) (by show 2 * 0 + _ ≤ _; omega) hl
  exact own_seg st (k T' X' e')
theorem own_getS (K : own_Ctx p Z s m meth c cls bytes maxL ret nm) (X : Stand p l e R s m args below meth c T locs cells slots) (eT : T.heap = h) {index : Nat} {R0 O n d host : String} {v : Value} (w : (Jvm.Cond.fieldLink cls index R0 n d).before a0 Z = true ∨ (Jvm.Cond.fieldLinkNest cls index R0 n d host).before a0 Z = true) (via : Via Z R0 O n d) (F : Sta Z h O n d v)
    {pc : Nat} {Ls : Array Slot} {stk : List Value} (hd : decode bytes pc = .ok (.getstatic index, 3)) (k : ∀ T', Stand p l e R s m args below meth c T' locs cells slots → T'.heap = h → own_Fin p e below P T' (mkF m (pc + 3) Ls (v :: stk))) : own_Fin p e below P T (mkF m pc Ls stk) := by
  obtain ⟨hx, hZ, hby, hml, hown, hret, hlk, hnm⟩ := K
  obtain ⟨T', X', e', st⟩ := getS2 X hx hZ hown w via eT F (g := mkF m pc Ls stk) rfl (hb hby hd)
  exact own_seg st (k T' X' e')
end Own
/-! ## what an object's fields hold, all at once -/
def own_Obj (Z : State) (h : Heap) (a : Addr) (C : String) (fs : List (String × String × String × Value)) : Prop := Exa Z h a C ∧ ∀ q ∈ fs, Fld Z h a q.1 q.2.1 q.2.2.1 q.2.2.2
def own_Lay (Z : State) (a0 : Array Value) (C : String) (fs : List (String × String × String)) : Prop := ∀ q ∈ fs, Laid Z a0 C q.1 q.2.1 q.2.2 ∧ ∃ t, parseFieldDescriptor q.2.2 = some t
section Obj
variable {Z : State} {a0 : Array Value} {h h' : Heap} {a b : Addr} {C : String} {fs : List (String × String × String × Value)} {ws : List Addr} {sl : Nat} {v : Value}
theorem own_Obj.exa (O : own_Obj Z h a C fs) : Exa Z h a C := O.1
theorem own_Obj.lt (O : own_Obj Z h a C fs) : a < h.size := O.1.lt
theorem own_Obj.get (O : own_Obj Z h a C fs) (i : Nat) {q : String × String × String × Value} (hi : fs[i]? = some q) : Fld Z h a q.1 q.2.1 q.2.2.1 q.2.2.2 := O.2 q (List.mem_of_getElem? hi)
theorem own_Obj.ext (O : own_Obj Z h a C fs) (E : Ext h h') : own_Obj Z h' a C fs := ⟨O.1.ext E, fun q hq => (O.2 q hq).ext E⟩
theorem own_Obj.keep (O : own_Obj Z h a C fs) (K : Keep h h' ws) (n : a ∉ ws) : own_Obj Z h' a C fs := ⟨O.1.keep K, fun q hq => (O.2 q hq).keep K n⟩
theorem own_Obj.other (O : own_Obj Z h b C fs) (W : Wr h h' a sl v) (n : b ≠ a) : own_Obj Z h' b C fs := ⟨O.1.wr W, fun q hq => (O.2 q hq).other W (Or.inl n)⟩
theorem own_Obj.put (O : own_Obj Z h a C fs) {ls : List (String × String × String)} (Y : own_Lay Z a0 C ls) (hls : fs.map (fun q => (q.1, q.2.1, q.2.2.1)) = ls) (hnd : (ls.map (fun q => q.2.1)).Nodup) (i : Nat) {O' n d : String} {old : Value} (hi : fs[i]? = some (O', n, d, old)) (W : Wr h h' a (Jvm.RoadKit.slotOf Z O' n d) v) : own_Obj Z h' a C (fs.set i (O', n, d, v)) := by
  subst hls
  refine ⟨O.1.wr W, fun q hq => ?_⟩
  obtain ⟨j, hj⟩ := List.mem_iff_getElem?.mp hq
  by_cases e : i = j
  · subst e
    have hlt : i < fs.length := (List.getElem?_eq_some_iff.mp hi).1
    rw [List.getElem?_set_self hlt] at hj
    cases hj
    exact (O.get i hi).same W
  · rw [List.getElem?_set_ne e] at hj
    refine (O.get j hj).other W (Or.inr ?_)
    obtain ⟨L1, t1, p1⟩ := Y (q.1, q.2.1, q.2.2.1) (List.mem_map.mpr ⟨q, List.mem_of_getElem? hj, rfl⟩)
    obtain ⟨L2, t2, p2⟩ := Y (O', n, d) (List.mem_map.mpr ⟨(O', n, d, old), List.mem_of_getElem? hi, rfl⟩)
    refine slot_ne L1 L2 ?_ p1 p2
    intro en
    apply e
    rw [List.map_map] at hnd
    have k1 : (fs.map ((fun q : String × String × String => q.2.1) ∘ fun q : String × String × String × Value => (q.1, q.2.1, q.2.2.1)))[i]? = some n := by rw [List.getElem?_map, hi]; rfl
    have k2 : (fs.map ((fun q : String × String × String => q.2.1) ∘ fun q : String × String × String × Value => (q.1, q.2.1, q.2.2.1)))[j]? = some n := by rw [List.getElem?_map, hj, ← en]; rfl
    exact (List.getElem?_inj (List.getElem?_eq_some_iff.mp k1).1 hnd).mp (k1.trans k2.symm)
end Obj
/-! ## an array by the list of all that it holds -/
def own_Arr (Z : State) (h : Heap) (a : Addr) (ty : FieldType) (vs : List Value) : Prop := ∃ cl : Cell, Arr Z h a cl ty ∧ cl.slots.toList = vs
section Arrs
variable {p : Program} {l : Launch} {e : Env} {R : Room} {s : State} {m : MethodId} {args : Array Value} {below : List Frame} {meth : Method} {c : Code} {T : State} {locs : List Loc} {cells slots : Nat} {Z : State} {a0 : Array Value} {h h' : Heap}
  {P : Outcome → State → Prop} {cls : String} {bytes : ByteArray} {maxL : Nat} {ret : Option FieldType} {nm : String} {a b : Addr} {ty : FieldType} {vs : List Value} {ws : List Addr} {sl : Nat} {v : Value}
theorem own_Arr.lt (A : own_Arr Z h a ty vs) : a < h.size := by obtain ⟨cl, A, -⟩ := A; exact A.lt
theorem own_Arr.ext (A : own_Arr Z h a ty vs) (E : Ext h h') : own_Arr Z h' a ty vs := by obtain ⟨cl, A, q⟩ := A; exact ⟨cl, A.ext E, q⟩
theorem own_Arr.other (A : own_Arr Z h b ty vs) (W : Wr h h' a sl v) (n : b ≠ a) : own_Arr Z h' b ty vs := by obtain ⟨cl, A, q⟩ := A; exact ⟨cl, A.other W n, q⟩
theorem own_Arr.keep (A : own_Arr Z h a ty vs) (K : Keep h h' ws) (n : a ∉ ws) : own_Arr Z h' a ty vs := by obtain ⟨cl, A, q⟩ := A; exact ⟨cl, ⟨K.2.1 a cl A.1 n, A.2⟩, q⟩
theorem own_Arr.set (A : own_Arr Z h a ty vs) (W : Wr h h' a sl v) : own_Arr Z h' a ty (vs.set sl v) := by
  obtain ⟨cl, A, q⟩ := A
  exact ⟨_, A.same W, by simp [Cell.setSlot, q]⟩
theorem own_Arr.new {cA : ClassId} {n : Int32} (A : Arr Z h a (newA cA ty n) ty) : own_Arr Z h a ty (List.replicate n.toNatClampNeg (defaultValue ty)) := ⟨_, A, by simp [newA]⟩
theorem own_at {cl : Cell} (q : cl.slots.toList = vs) {i : Nat} (hv : vs[i]? = some v) : cl.slots[i]? = some v := by rw [← hv, ← q, Array.getElem?_toList]
theorem own_in {cl : Cell} (q : cl.slots.toList = vs) {j : Int32} (hj : ¬ j < 0) (hv : vs[j.toNatClampNeg]? = some v) : ¬ (j < 0 ∨ cl.slots.size ≤ j.toNatClampNeg) := by
  rintro (r | r)
  · exact hj r
  · have := (Array.getElem?_eq_some_iff.mp (own_at q hv)).1; omega
theorem own_iaload (K : own_Ctx p Z s m meth c cls bytes maxL ret nm) (X : Stand p l e R s m args below meth c T locs cells slots) (eT : T.heap = h) (A : own_Arr Z h a .int vs) {j : Int32} (hj : ¬ j < 0) (hv : vs[j.toNatClampNeg]? = some v)
    {pc : Nat} {Ls : Array Slot} {rest : List Value} (hd : decode bytes pc = .ok (.iaload, 1)) (k : own_Fin p e below P T (mkF m (pc + 1) Ls (v :: rest))) : own_Fin p e below P T (mkF m pc Ls (.int j :: .ref a :: rest)) := by
  obtain ⟨hx, hZ, hby, -⟩ := K
  obtain ⟨cl, A, q⟩ := A
  exact own_seg (fun t u => X.iaload hx (j := j) (v := v) (by rw [eT]; exact A.1) (State.isArrayOf_alike hZ.alike A.2.1) A.2.2 (own_in q hj hv) (own_at q hv) (g := mkF m pc Ls (.int j :: .ref a :: rest)) rfl rfl (hb hby hd) t u) k
theorem own_laload (K : own_Ctx p Z s m meth c cls bytes maxL ret nm) (X : Stand p l e R s m args below meth c T locs cells slots) (eT : T.heap = h) (A : own_Arr Z h a .long vs) {j : Int32} (hj : ¬ j < 0) (hv : vs[j.toNatClampNeg]? = some v)
    {pc : Nat} {Ls : Array Slot} {rest : List Value} (hd : decode bytes pc = .ok (.laload, 1)) (k : own_Fin p e below P T (mkF m (pc + 1) Ls (v :: rest))) : own_Fin p e below P T (mkF m pc Ls (.int j :: .ref a :: rest)) := by
  obtain ⟨hx, hZ, hby, -⟩ := K
  obtain ⟨cl, A, q⟩ := A
  exact own_seg (fun t u => X.laload hx (j := j) (v := v) (by rw [eT]; exact A.1) (State.isArrayOf_alike hZ.alike A.2.1) A.2.2 (own_in q hj hv) (own_at q hv) (g := mkF m pc Ls (.int j :: .ref a :: rest)) rfl rfl (hb hby hd) t u) k
theorem own_alen (K : own_Ctx p Z s m meth c cls bytes maxL ret nm) (X : Stand p l e R s m args below meth c T locs cells slots) (eT : T.heap = h) (A : own_Arr Z h a ty vs) {n : Int32} (hn : vs.length.toInt32 = n)
    {pc : Nat} {Ls : Array Slot} {rest : List Value} (hd : decode bytes pc = .ok (.arraylength, 1)) (k : own_Fin p e below P T (mkF m (pc + 1) Ls (.int n :: rest))) : own_Fin p e below P T (mkF m pc Ls (.ref a :: rest)) := by
  obtain ⟨hx, hZ, hby, -⟩ := K
  obtain ⟨cl, A, q⟩ := A
  subst q hn
  rw [Array.length_toList] at k
  exact own_seg (fun t u => X.arraylength hx (by rw [eT]; exact A.1) (State.isArrayOf_alike hZ.alike A.2.1) (g := mkF m pc Ls (.ref a :: rest)) rfl rfl (hb hby hd) t u) k
theorem own_iastore (K : own_Ctx p Z s m meth c cls bytes maxL ret nm) (X : Stand p l e R s m args below meth c T locs cells slots) (eT : T.heap = h) (A : own_Arr Z h a .int vs) {j x : Int32} (hj : ¬ j < 0) (hv : j.toNatClampNeg < vs.length)
    {pc : Nat} {Ls : Array Slot} {rest : List Value} (hd : decode bytes pc = .ok (.iastore, 1)) (k : ∀ T' h', Stand p l e R s m args below meth c T' (locs ++ [⟨a, j.toNatClampNeg⟩]) cells slots → T'.heap = h' → Wr h h' a j.toNatClampNeg (.int x) → own_Fin p e below P T' (mkF m (pc + 1) Ls rest)) : own_Fin p e below P T (mkF m pc Ls (.int x :: .int j :: .ref a :: rest)) := by
  obtain ⟨hx, hZ, hby, -⟩ := K
  obtain ⟨cl, A, q⟩ := A
  obtain ⟨T', h', X', e', W, st⟩ := stI X hx hZ eT A (j := j) (x := x) (own_in q hj (List.getElem?_eq_getElem hv)) (g := mkF m pc Ls (.int x :: .int j :: .ref a :: rest)) rfl rfl (hb hby hd)
  exact own_seg st (k T' h' X' e' W)
theorem own_lastore (K : own_Ctx p Z s m meth c cls bytes maxL ret nm) (X : Stand p l e R s m args below meth c T locs cells slots) (eT : T.heap = h) (A : own_Arr Z h a .long vs) {j : Int32} {x : Int64} (hj : ¬ j < 0) (hv : j.toNatClampNeg < vs.length)
    {pc : Nat} {Ls : Array Slot} {rest : List Value} (hd : decode bytes pc = .ok (.lastore, 1)) (k : ∀ T' h', Stand p l e R s m args below meth c T' (locs ++ [⟨a, j.toNatClampNeg⟩]) cells slots → T'.heap = h' → Wr h h' a j.toNatClampNeg (.long x) → own_Fin p e below P T' (mkF m (pc + 1) Ls rest)) : own_Fin p e below P T (mkF m pc Ls (.long x :: .int j :: .ref a :: rest)) := by
  obtain ⟨hx, hZ, hby, -⟩ := K
  obtain ⟨cl, A, q⟩ := A
  obtain ⟨T', h', X', e', W, st⟩ := stJ X hx hZ eT A (j := j) (x := x) (own_in q hj (List.getElem?_eq_getElem hv)) (g := mkF m pc Ls (.long x :: .int j :: .ref a :: rest)) rfl rfl (hb hby hd)
  exact own_seg st (k T' h' X' e' W)
theorem own_newP (K : own_Ctx p Z s m meth c cls bytes maxL ret nm) (X : Stand p l e R s m args below meth c T locs cells slots) (eT : T.heap = h) {aty : ArrayType} (w : (Jvm.Cond.arrayClass (newarray.typeOf aty)).before a0 Z = true) {n : Int32} (hn : ¬ n < 0) (cap : Nat) (hcap : n.toNatClampNeg ≤ cap) (hcb : cap * 8 ≤ 536870912)
    {pc : Nat} {Ls : Array Slot} {rest : List Value} (hd : decode bytes pc = .ok (.newarray aty, 2)) (hc : cells + 1 ≤ R.cells) (hl : slots + cap ≤ R.slots)
    (k : ∀ T' h' a, a = h.size → Stand p l e R s m args below meth c T' locs (cells + 1) (slots + cap) → T'.heap = h' → Ext h h' → own_Arr Z h' a (newarray.typeOf aty) (List.replicate n.toNatClampNeg (defaultValue (newarray.typeOf aty))) → own_Fin p e below P T' (mkF m (pc + 2) Ls (.ref a :: rest))) : own_Fin p e below P T (mkF m pc Ls (.int n :: rest)) := by
  obtain ⟨hx, hZ, hby, -⟩ := K
  obtain ⟨T', h', cA, X', e', E, A, st⟩ := newP X hx hZ w eT (g := mkF m pc Ls (.int n :: rest)) rfl (hb hby hd) rfl hn hcap hcb hc hl
  exact own_seg st (k T' h' _ rfl X' e' E (own_Arr.new A))
end Arrs
/-! ## an array of references, of which only the class and the length are told; a list of ints by a function -/
def own_RArr (Z : State) (h : Heap) (a : Addr) (C : String) (n : Nat) : Prop := ∃ cl : Cell, Arr Z h a cl (.object C) ∧ cl.slots.size = n ∧ Ovr Z cl.cls C
section RArrs
variable {p : Program} {l : Launch} {e : Env} {R : Room} {s : State} {m : MethodId} {args : Array Value} {below : List Frame} {meth : Method} {c : Code} {T : State} {locs : List Loc} {cells slots : Nat} {Z : State} {a0 : Array Value} {h h' : Heap}
  {P : Outcome → State → Prop} {cls : String} {bytes : ByteArray} {maxL : Nat} {ret : Option FieldType} {nm : String} {a b : Addr} {C : String} {n : Nat} {ws : List Addr} {sl : Nat} {v : Value}
theorem own_RArr.lt (A : own_RArr Z h a C n) : a < h.size := by obtain ⟨cl, A, -⟩ := A; exact A.lt
theorem own_RArr.ext (A : own_RArr Z h a C n) (E : Ext h h') : own_RArr Z h' a C n := by obtain ⟨cl, A, q⟩ := A; exact ⟨cl, A.ext E, q⟩
theorem own_RArr.other (A : own_RArr Z h b C n) (W : Wr h h' a sl v) (q : b ≠ a) : own_RArr Z h' b C n := by obtain ⟨cl, A, r⟩ := A; exact ⟨cl, A.other W q, r⟩
theorem own_RArr.keep (A : own_RArr Z h a C n) (K : Keep h h' ws) (q : a ∉ ws) : own_RArr Z h' a C n := by obtain ⟨cl, A, r⟩ := A; exact ⟨cl, ⟨K.2.1 a cl A.1 q, A.2⟩, r⟩
theorem own_RArr.set (A : own_RArr Z h a C n) (W : Wr h h' a sl v) : own_RArr Z h' a C n := by obtain ⟨cl, A, r1, r2⟩ := A; exact ⟨_, A.same W, by rw [sz_set]; exact r1, r2⟩
theorem own_aastore (K : own_Ctx p Z s m meth c cls bytes maxL ret nm) (X : Stand p l e R s m args below meth c T locs cells slots) (eT : T.heap = h) (A : own_RArr Z h a C n) {j : Int32} (hj : ¬ j < 0) (hv : j.toNatClampNeg < n) (F : v = .null ∨ ∃ y, v = .ref y ∧ Ins Z h y C true)
    {pc : Nat} {Ls : Array Slot} {rest : List Value} (hd : decode bytes pc = .ok (.aastore, 1)) (k : ∀ T' h', Stand p l e R s m args below meth c T' (locs ++ [⟨a, j.toNatClampNeg⟩]) cells slots → T'.heap = h' → Wr h h' a j.toNatClampNeg v → own_Fin p e below P T' (mkF m (pc + 1) Ls rest)) : own_Fin p e below P T (mkF m pc Ls (v :: .int j :: .ref a :: rest)) := by
  obtain ⟨hx, hZ, hby, -⟩ := K
  obtain ⟨cl, A, r1, r2⟩ := A
  have S : Sto Z h a v := by
    rcases F with rfl | ⟨y, rfl, I⟩
    · exact Or.inl rfl
    · exact Sto.of A r2 I
  obtain ⟨T', h', X', e', W, st⟩ := stR X hx hZ eT A (j := j) (v := v) (fun q => q.elim hj (fun q => by omega)) rfl S (g := mkF m pc Ls (v :: .int j :: .ref a :: rest)) rfl rfl (hb hby hd)
  exact own_seg st (k T' h' X' e' W)
theorem own_newR (K : own_Ctx p Z s m meth c cls bytes maxL ret nm) (X : Stand p l e R s m args below meth c T locs cells slots) (eT : T.heap = h) {index : Nat} (w1 : (Jvm.Cond.classLink cls index C).before a0 Z = true) (w2 : (Jvm.Cond.arrayOver (.object C)).before a0 Z = true) {z : Int32} (hn : ¬ z < 0) (cap : Nat) (hcap : z.toNatClampNeg = cap) (hcb : cap * 8 ≤ 536870912)
    {pc : Nat} {Ls : Array Slot} {rest : List Value} (hd : decode bytes pc = .ok (.anewarray index, 3)) (hc : cells + 1 ≤ R.cells) (hl : slots + cap ≤ R.slots)
    (k : ∀ T' h' a, a = h.size → Stand p l e R s m args below meth c T' locs (cells + 1) (slots + cap) → T'.heap = h' → Ext h h' → own_RArr Z h' a C cap → own_Fin p e below P T' (mkF m (pc + 3) Ls (.ref a :: rest))) : own_Fin p e below P T (mkF m pc Ls (.int z :: rest)) := by
  obtain ⟨hx, hZ, hby, hml, hown, -⟩ := K
  obtain ⟨T', h', cA, X', e', E, A, O, st⟩ := newR X hx hZ hown w1 w2 eT (g := mkF m pc Ls (.int z :: rest)) rfl (hb hby hd) rfl hn (Nat.le_of_eq hcap) hcb hc hl
  exact own_seg st (k T' h' _ rfl X' e' E ⟨_, A, by rw [sz_new]; exact hcap, O⟩)
end RArrs
def own_L (n : Nat) (f : Nat → Int32) : List Value := (List.range n).map fun i => Value.int (f i)
theorem own_L_len (n : Nat) (f : Nat → Int32) : (own_L n f).length = n := by simp [own_L]
theorem own_L_at {n : Nat} {f : Nat → Int32} {i : Nat} (h : i < n) : (own_L n f)[i]? = some (.int (f i)) := by simp [own_L, h]
theorem own_L_set {n : Nat} {f : Nat → Int32} {i : Nat} {v : Int32} (h : i < n) : (own_L n f).set i (.int v) = own_L n (fun j => if j = i then v else f j) := by
  apply List.ext_getElem?
  intro j
  by_cases e : i = j
  · subst e
    rw [List.getElem?_set_self (by rw [own_L_len]; exact h), own_L_at h, if_pos rfl]
  · rw [List.getElem?_set_ne e]
    by_cases q : j < n
    · rw [own_L_at q, own_L_at q, if_neg (Ne.symm e)]
    · rw [List.getElem?_eq_none (by rw [own_L_len]; omega), List.getElem?_eq_none (by rw [own_L_len]; omega)]
theorem own_L_rep (n : Nat) : List.replicate n (Value.int 0) = own_L n (fun _ => 0) := by
  apply List.ext_getElem?
  intro j
  by_cases q : j < n
  · rw [own_L_at q, List.getElem?_replicate, if_pos q]
  · rw [List.getElem?_replicate, if_neg q, List.getElem?_eq_none (by rw [own_L_len]; omega)]
/-! ## doubles, moved and compared -/
section Dbl
variable {tb : Tables} [Ours tb] {e : Env} {below : List Frame} {T target : State} {m : MethodId} {c : Code} {g : JFrame}
theorem own_dloadN (h : At T m c below) (hx : tb.exec = Jvm.exec) (hg : g.method = m) {k : Fin 4} {v : UInt64} (hd : decode c.code g.pc = .ok (.dload_n k, 1)) (hl : g.locals[k.val]? = some (.val (.double v)))
    (hr : Steps tb e below (T.setTop { g with pc := g.pc + 1, stack := .double v :: g.stack }) target) : Steps tb e below (T.setTop g) target := by
  subst hg
  jvm_step h [h.top, hx, hd, hl]
  exact hr
theorem own_dload (h : At T m c below) (hx : tb.exec = Jvm.exec) (hg : g.method = m) {k : Nat} {v : UInt64} (hd : decode c.code g.pc = .ok (.dload k, 2)) (hl : g.locals[k]? = some (.val (.double v)))
    (hr : Steps tb e below (T.setTop { g with pc := g.pc + 2, stack := .double v :: g.stack }) target) : Steps tb e below (T.setTop g) target := by
  subst hg
  jvm_step h [h.top, hx, hd, hl]
  exact hr
theorem own_dstore (h : At T m c below) (hx : tb.exec = Jvm.exec) (hg : g.method = m) {k : Nat} {x : UInt64} {rest : List Value} {l' : Array Slot} (hd : decode c.code g.pc = .ok (.dstore k, 2)) (hs : g.stack = .double x :: rest) (hl : storeLocals g.locals k (.double x) = some l')
    (hr : Steps tb e below (T.setTop { g with pc := g.pc + 2, stack := rest, locals := l' }) target) : Steps tb e below (T.setTop g) target := by
  subst hg
  jvm_step h [h.top, hx, hd, hs, hl]
  exact hr
theorem own_i2d (h : At T m c below) (hx : tb.exec = Jvm.exec) (hg : g.method = m) {x : Int32} {rest : List Value} (hd : decode c.code g.pc = .ok (.i2d, 1)) (hs : g.stack = .int x :: rest)
    (hr : Steps tb e below (T.setTop { g with pc := g.pc + 1, stack := .double (FP.i2d x) :: rest }) target) : Steps tb e below (T.setTop g) target := by
  subst hg
  jvm_step h [h.top, hx, hd, hs, i2d.wp_sem]
  exact hr
theorem own_dconst0 (h : At T m c below) (hx : tb.exec = Jvm.exec) (hg : g.method = m) (hd : decode c.code g.pc = .ok (.dconst 0, 1))
    (hr : Steps tb e below (T.setTop { g with pc := g.pc + 1, stack := .double 0 :: g.stack }) target) : Steps tb e below (T.setTop g) target := by
  subst hg
  jvm_step h [h.top, hx, hd, dconst.wp_sem]
  exact hr
theorem own_dcmpl (h : At T m c below) (hx : tb.exec = Jvm.exec) (hg : g.method = m) {x y : UInt64} {rest : List Value} (hd : decode c.code g.pc = .ok (.dcmp .l, 1)) (hs : g.stack = .double y :: .double x :: rest)
    (hr : Steps tb e below (T.setTop { g with pc := g.pc + 1, stack := .int (FP.cmpInt (-1) (FP.dcmp x y)) :: rest }) target) : Steps tb e below (T.setTop g) target := by
  subst hg
  have q : cmpValue (FP.dcmp x y) .l = FP.cmpInt (-1) (FP.dcmp x y) := by
    cases FP.dcmp x y with
    | none => rfl
    | some o => cases o <;> rfl
  rw [← q] at hr
  jvm_step h [h.top, hx, hd, hs, dcmp.wp_sem]
  exact hr
end Dbl
section DblK
variable {p : Program} {l : Launch} {e : Env} {R : Room} {s : State} {m : MethodId} {args : Array Value} {below : List Frame} {meth : Method} {c : Code} {T : State} {locs : List Loc} {cells slots : Nat} {Z : State} {a0 : Array Value} {h : Heap}
  {P : Outcome → State → Prop} {cls : String} {bytes : ByteArray} {maxL : Nat} {ret : Option FieldType} {nm : String} {Q : Option Value → Heap → List Loc → Prop} {a : Addr}
def own_QD (r : UInt64) (h0 : Heap) (n0 : Nat) (v : Option Value) (h : Heap) (L : List Loc) : Prop := v = some (.double r) ∧ Fr n0 L ∧ h = h0
theorem own_retD (K : own_Ctx p Z s m meth c cls bytes maxL (some .double) nm) (X : Stand p l e R s m args below meth c T locs cells slots) {pc : Nat} {Ls : Array Slot} {z : UInt64} {rest : List Value}
    (hd : decode bytes pc = .ok (.dreturn, 1)) (hQ : Q (some (.double z)) T.heap locs) (hc : cells ≤ R.cells) (hs : slots ≤ R.slots) : own_Fin p e below (own_P s R Q) T (mkF m pc Ls (.double z :: rest)) :=
  own_retO K X rfl (Or.inr (Or.inr (Or.inl ⟨rfl, rfl, z, rfl⟩))) hd hQ hc hs
theorem own_castY (K : own_Ctx p Z s m meth c cls bytes maxL ret nm) (X : Stand p l e R s m args below meth c T locs cells slots) (eT : T.heap = h) {C : String} {index : Nat} (w : (Jvm.Cond.classLink cls index C).before a0 Z = true) (I : Ins Z h a C true)
    {pc : Nat} {Ls : Array Slot} {rest : List Value} (hd : decode bytes pc = .ok (.checkcast index, 3)) (k : ∀ T', Stand p l e R s m args below meth c T' locs cells slots → T'.heap = h → own_Fin p e below P T' (mkF m (pc + 3) Ls (.ref a :: rest))) : own_Fin p e below P T (mkF m pc Ls (.ref a :: rest)) := by
  obtain ⟨hx, hZ, hby, hml, hown, -⟩ := K
  obtain ⟨T', X', e', st⟩ := castY X hx hZ hown w eT I (g := mkF m pc Ls (.ref a :: rest)) rfl rfl (hb hby hd)
  exact own_seg st (k T' X' e')
theorem own_instY (K : own_Ctx p Z s m meth c cls bytes maxL ret nm) (X : Stand p l e R s m args below meth c T locs cells slots) (eT : T.heap = h) {C : String} {index : Nat} (w : (Jvm.Cond.classLink cls index C).before a0 Z = true) (I : Ins Z h a C true)
    {pc : Nat} {Ls : Array Slot} {rest : List Value} (hd : decode bytes pc = .ok (.instanceof index, 3)) (k : ∀ T', Stand p l e R s m args below meth c T' locs cells slots → T'.heap = h → own_Fin p e below P T' (mkF m (pc + 3) Ls (.int 1 :: rest))) : own_Fin p e below P T (mkF m pc Ls (.ref a :: rest)) := by
  obtain ⟨hx, hZ, hby, hml, hown, -⟩ := K
  obtain ⟨T', X', e', st⟩ := instY X hx hZ hown w eT I (g := mkF m pc Ls (.ref a :: rest)) rfl rfl (hb hby hd)
  exact own_seg st (k T' X' e')
/-- instanceof, whatever the answer -/
theorem own_instAny (K : own_Ctx p Z s m meth c cls bytes maxL ret nm) (X : Stand p l e R s m args below meth c T locs cells slots) (eT : T.heap = h) {C D : String} {index : Nat} (w : (Jvm.Cond.classLink cls index D).before a0 Z = true) (E : Exa Z h a C)
    {pc : Nat} {Ls : Array Slot} {rest : List Value} (hd : decode bytes pc = .ok (.instanceof index, 3)) (k1 : ∀ T', Stand p l e R s m args below meth c T' locs cells slots → T'.heap = h → own_Fin p e below P T' (mkF m (pc + 3) Ls (.int 1 :: rest)))
    (k0 : ∀ T', Stand p l e R s m args below meth c T' locs cells slots → T'.heap = h → own_Fin p e below P T' (mkF m (pc + 3) Ls (.int 0 :: rest))) : own_Fin p e below P T (mkF m pc Ls (.ref a :: rest)) := by
  obtain ⟨cT, hT⟩ : ∃ cT, Z.vm.findClass D = some cT := by
    cases hc : Z.vm.findClass D with
    | some c => exact ⟨c, rfl⟩
    | none => simp [Cond.before, Cond.holds, Cond.value, State.classLinks, hc] at w
  obtain ⟨cell, kc, h1, h2, h3, h4, h5⟩ := E
  by_cases q : Z.vm.assignable cell.cls cT = true
  · exact own_instY K X eT w ⟨cell, cT, h1, hT, by simp [h4, q]⟩ hd k1
  · obtain ⟨hx, hZ, hby, hml, hown, -⟩ := K
    obtain ⟨T', X', e', st⟩ := instNo X hx hZ hown w eT ⟨cell, kc, h1, h2, h3, h4, h5⟩ ⟨cell.cls, cT, h2, hT, by simpa using q⟩ (g := mkF m pc Ls (.ref a :: rest)) rfl rfl (hb hby hd)
    exact own_seg st (k0 T' X' e')
/-- getfield by an entry that has been resolved -/
theorem own_getFRef (K : own_Ctx p Z s m meth c cls bytes maxL ret nm) (X : Stand p l e R s m args below meth c T locs cells slots) (eT : T.heap = h) {index : Nat} {O n d : String} {v : Value} (w : (Jvm.Cond.fieldRef cls index O n d).before a0 Z = true) (F : Fld Z h a O n d v)
    {pc : Nat} {Ls : Array Slot} {rest : List Value} (hd : decode bytes pc = .ok (.getfield index, 3)) (k : own_Fin p e below P T (mkF m (pc + 3) Ls (v :: rest))) : own_Fin p e below P T (mkF m pc Ls (.ref a :: rest)) := by
  obtain ⟨hx, hZ, hby, hml, hown, -⟩ := K
  have hT : Z.Warmed39 T.vm := wtrans hZ X.warmed
  have w2 : (Jvm.Cond.fieldRef cls index O n d).before a0 (Z.setVm T.vm) = true := Cond.fieldRef_warmed39 hT w
  have hcl : (Z.setVm T.vm).vm.findClass cls = some m.cls := by
    show T.vm.findClass cls = _
    rw [X.warmed.alike.findClass]; exact hown
  obtain ⟨cf, k', i, f, h1, hr⟩ := Cond.fieldRef_spec hcl w2
  obtain ⟨cell, cf0, k0, i0, f0, g1, g2, g3, g4, -, -, g7⟩ := F
  obtain ⟨k2, hi, -⟩ := State.fieldFound?_setVm (s := Z) hT.alike g2
  cases h1.symm.trans hi
  refine own_seg (fun t u => ?_) k
  jvm_step X.here [hx, hb hby hd, getfield.wp_ready (e := e) (s := T) (c := cf) (field := f) (a := a) (rest := rest) (cell := cell) (v := v) (f := mkF m pc Ls (.ref a :: rest)) X.here.top hr g3 rfl (by rw [eT]; exact g1) g4 g7]
  exact u
theorem own_bastore (K : own_Ctx p Z s m meth c cls bytes maxL ret nm) (X : Stand p l e R s m args below meth c T locs cells slots) (eT : T.heap = h) {vs : List Value} (A : own_Arr Z h a .byte vs) {j x : Int32} (hj : ¬ j < 0) (hv : j.toNatClampNeg < vs.length)
    {pc : Nat} {Ls : Array Slot} {rest : List Value} (hd : decode bytes pc = .ok (.bastore, 1)) (k : ∀ T' h' v', Stand p l e R s m args below meth c T' (locs ++ [⟨a, j.toNatClampNeg⟩]) cells slots → T'.heap = h' → Wr h h' a j.toNatClampNeg v' → own_Fin p e below P T' (mkF m (pc + 1) Ls rest)) : own_Fin p e below P T (mkF m pc Ls (.int x :: .int j :: .ref a :: rest)) := by
  obtain ⟨hx, hZ, hby, -⟩ := K
  obtain ⟨cl, A, q⟩ := A
  obtain ⟨T', h', X', e', W, st⟩ := stB X hx hZ eT A (j := j) (x := x) (own_in q hj (List.getElem?_eq_getElem hv)) (g := mkF m pc Ls (.int x :: .int j :: .ref a :: rest)) rfl rfl (hb hby hd)
  exact own_seg st (k T' h' _ X' e' W)
end DblK
theorem own_pn2 : plainName "java/lang/StringLatin1" = true := by first | (simp [plainName, overriddenIn]; done) | decide +kernel
theorem d2_0 : decode jdk_43_method_3_code 0 = .ok (.iload_n 0, 1) := by decide +kernel
theorem d2_1 : decode jdk_43_method_3_code 1 = .ok (.sipush 255, 3) := by decide +kernel
theorem d2_4 : decode jdk_43_method_3_code 4 = .ok (.if_icmp .gt 7, 3) := by decide +kernel
theorem d2_7 : decode jdk_43_method_3_code 7 = .ok (.iconst 1, 1) := by decide +kernel
theorem d2_8 : decode jdk_43_method_3_code 8 = .ok (.goto 4, 3) := by decide +kernel
theorem d2_12 : decode jdk_43_method_3_code 12 = .ok (.ireturn, 1) := by decide +kernel
set_option maxRecDepth 65536 in
set_option maxHeartbeats 40000000 in
theorem rmE (l : Launch) (Z : State) (a0 : Array Value) (hw : ∀ d ∈ tables_1, d.before a0 Z = true) (p1 : Int32) (h0 : Heap) (n0 : Nat) (Z0 : n0 ≤ h0.size) (hc : ¬ (255 : Int32) < p1) :
    own_Met l Z (⟨"java/lang/StringLatin1", "canEncode", "(C)Z"⟩ : MethodName) jdk_43_method_3_code 1 (some .boolean) ({ frames := 0, cells := 0, slots := 0, locals := 0 } : Room) #[(.int p1)] h0 (own_QI 1 h0 n0) := by
  refine own_enter (plainFor_of_name own_pn2) (fun m => by first | (simp [entryFrame, mkF, argsToLocals, Value.category, maxLocals]; done) | rfl) (Ls := #[.val (.int p1)]) ?_
  intro p e s m below meth c T0 K X0 e0
  have hx := K.1
  have hZ := K.2.1
  have hby := K.2.2.1
  have hown := K.2.2.2.2.1
  have N0 := Fr.nil n0
  show own_Fin p e below _ T0 (mkF m 0 #[.val (.int p1)] [])
  refine own_seg (T' := T0) (g' := (mkF m 4 #[.val (.int p1)] [(.int (255 : Int32)), (.int p1)])) (fun tg kt => ?_) ?_
  · show Steps p.tables e below (T0.setTop (mkF m 0 #[.val (.int p1)] [])) tg
    refine XS.iloadN X0.here hx rfl (hb hby d2_0) rfl ?_
    show Steps p.tables e below (T0.setTop (mkF m 1 #[.val (.int p1)] [(.int p1)])) tg
    refine XS.sipush X0.here hx rfl (hb hby d2_1) ?_
    exact kt
  have hc4 : ¬ ((255 : Int32) < p1) := hc
  refine own_seg (T' := T0) (g' := (mkF m 7 #[.val (.int p1)] [])) (fun tg kt => XS.icmpNo X0.here hx rfl (hb hby d2_4) rfl (flt hc4).2.2.1 kt) ?_
  refine own_seg (T' := T0) (g' := (mkF m 12 #[.val (.int p1)] [(.int (1 : Int32))])) (fun tg kt => ?_) ?_
  · show Steps p.tables e below (T0.setTop (mkF m 7 #[.val (.int p1)] [])) tg
    refine XS.iconst X0.here hx rfl (hb hby d2_7) ?_
    show Steps p.tables e below (T0.setTop (mkF m 8 #[.val (.int p1)] [(.int (1 : Int32))])) tg
    refine XS.goto X0.here hx rfl (pc0 := 8) (pc' := 12) rfl (hb hby d2_8) (by decide) (by decide) ?_
    exact kt
  exact own_retN K (by simp) X0 d2_12 (⟨rfl, N0, e0⟩) (by decide) (by decide)
def QB (h0 : Heap) (n0 : Nat) (v : Option Value) (h : Heap) (L : List Loc) : Prop := ∃ b : Addr, v = some (.ref b) ∧ Fr n0 L ∧ Keep h0 h [] ∧ n0 ≤ b
theorem own_pn3 : plainName "java/lang/StringLatin1" = true := by first | (simp [plainName, overriddenIn]; done) | decide +kernel
theorem d3_0 : decode jdk_43_method_46_code 0 = .ok (.iconst 1, 1) := by decide +kernel
theorem d3_1 : decode jdk_43_method_46_code 1 = .ok (.newarray .byte, 2) := by decide +kernel
theorem d3_3 : decode jdk_43_method_46_code 3 = .ok (.dup, 1) := by decide +kernel
theorem d3_4 : decode jdk_43_method_46_code 4 = .ok (.iconst 0, 1) := by decide +kernel
theorem d3_5 : decode jdk_43_method_46_code 5 = .ok (.iload_n 0, 1) := by decide +kernel
theorem d3_6 : decode jdk_43_method_46_code 6 = .ok (.i2b, 1) := by decide +kernel
theorem d3_7 : decode jdk_43_method_46_code 7 = .ok (.bastore, 1) := by decide +kernel
theorem d3_8 : decode jdk_43_method_46_code 8 = .ok (.areturn, 1) := by decide +kernel
set_option maxRecDepth 65536 in
set_option maxHeartbeats 40000000 in
theorem rmB (l : Launch) (Z : State) (a0 : Array Value) (hw : ∀ d ∈ tables_1, d.before a0 Z = true) (p1 : Int32) (h0 : Heap) (n0 : Nat) (Z0 : n0 ≤ h0.size)  :
    own_Met l Z (⟨"java/lang/StringLatin1", "toBytes", "(C)[B"⟩ : MethodName) jdk_43_method_46_code 1 (some (.array .byte)) ({ frames := 0, cells := 1, slots := 1, locals := 0 } : Room) #[(.int p1)] h0 (QB h0 n0) := by
  refine own_enter (plainFor_of_name own_pn3) (fun m => by first | (simp [entryFrame, mkF, argsToLocals, Value.category, maxLocals]; done) | rfl) (Ls := #[.val (.int p1)]) ?_
  intro p e s m below meth c T0 K X0 e0
  have hx := K.1
  have hZ := K.2.1
  have hby := K.2.2.1
  have hown := K.2.2.2.2.1
  have N0 := Fr.nil n0
  have K0 : Keep h0 h0 [] := Keep.refl _ _
  show own_Fin p e below _ T0 (mkF m 0 #[.val (.int p1)] [])
  refine own_seg (T' := T0) (g' := (mkF m 1 #[.val (.int p1)] [(.int (1 : Int32))])) (fun tg kt => ?_) ?_
  · show Steps p.tables e below (T0.setTop (mkF m 0 #[.val (.int p1)] [])) tg
    refine XS.iconst X0.here hx rfl (hb hby d3_0) ?_
    exact kt
  refine own_newP K X0 e0 (hw _ (List.mem_of_getElem? (i := 14) rfl)) (by decide) 1 (by decide) (by decide) d3_1 (by decide) (by decide) ?_
  intro T1 h1 b1 g1 X1 e1 E1 A1
  have f_b1 : n0 ≤ b1 := Nat.le_trans Z0 (Nat.le_of_eq g1.symm)
  have Z1 : n0 ≤ h1.size := Nat.le_trans Z0 E1.1
  have sz_b1 : h0.size ≤ b1 := Nat.le_trans K0.1 (Nat.le_of_eq g1.symm)
  have K1 := K0.ext E1
  have O_b1_1 : own_Arr Z h1 b1 .byte [.int 0] := A1
  show own_Fin p e below _ T1 (mkF m 3 #[.val (.int p1)] [(.ref b1)])
  refine own_seg (T' := T1) (g' := (mkF m 7 #[.val (.int p1)] [(.int (p1.toInt8.toInt32)), (.int (0 : Int32)), (.ref b1), (.ref b1)])) (fun tg kt => ?_) ?_
  · show Steps p.tables e below (T1.setTop (mkF m 3 #[.val (.int p1)] [(.ref b1)])) tg
    refine XS.dup X1.here hx rfl (hb hby d3_3) rfl rfl ?_
    show Steps p.tables e below (T1.setTop (mkF m 4 #[.val (.int p1)] [(.ref b1), (.ref b1)])) tg
    refine XS.iconst X1.here hx rfl (hb hby d3_4) ?_
    show Steps p.tables e below (T1.setTop (mkF m 5 #[.val (.int p1)] [(.int (0 : Int32)), (.ref b1), (.ref b1)])) tg
    refine XS.iloadN X1.here hx rfl (hb hby d3_5) rfl ?_
    show Steps p.tables e below (T1.setTop (mkF m 6 #[.val (.int p1)] [(.int p1), (.int (0 : Int32)), (.ref b1), (.ref b1)])) tg
    refine XS.i2b X1.here hx rfl (hb hby d3_6) rfl ?_
    exact kt
  refine own_bastore K X1 e1 O_b1_1 (by decide) (by decide) d3_7 ?_
  intro T2 h2 w2 X2 e2 W2
  have N2 := Fr.snoc X2 N0 f_b1
  have K2 := K1.wr W2 (Or.inr sz_b1)
  show own_Fin p e below _ T2 (mkF m 8 #[.val (.int p1)] [(.ref b1)])
  exact own_retA K rfl X2 rfl d3_8 (by rw [e2]; exact ⟨_, rfl, N2, K2, f_b1⟩) (by decide) (by decide)
def QS (a1 : Addr) (h0 : Heap) (n0 : Nat) (v : Option Value) (h : Heap) (L : List Loc) : Prop := v = none ∧ Fr n0 L ∧ Keep h0 h [a1]
theorem own_pn4 : plainName "java/lang/String" = true := by first | (simp [plainName, overriddenIn]; done) | decide +kernel
theorem d4_0 : decode jdk_42_method_151_code 0 = .ok (.aload_n 0, 1) := by decide +kernel
theorem d4_1 : decode jdk_42_method_151_code 1 = .ok (.invokespecial 1, 3) := by decide +kernel
theorem d4_4 : decode jdk_42_method_151_code 4 = .ok (.aload_n 0, 1) := by decide +kernel
theorem d4_5 : decode jdk_42_method_151_code 5 = .ok (.aload_n 1, 1) := by decide +kernel
theorem d4_6 : decode jdk_42_method_151_code 6 = .ok (.putfield 9, 3) := by decide +kernel
theorem own_lay_String {Z : State} {a0 : Array Value} (hw : ∀ d ∈ tables_1, d.before a0 Z = true) : own_Lay Z a0 "java/lang/String" [("java/lang/String", "value", "[B"), ("java/lang/String", "coder", "B")] := by
  intro q hq
  simp only [List.mem_cons, List.not_mem_nil, or_false] at hq
  rcases hq with rfl | rfl
  · exact ⟨Or.inr (hw _ (List.mem_of_getElem? (i := 23) rfl)), _, (by decide : parseFieldDescriptor "[B" = some (.array .byte))⟩
  · exact ⟨Or.inr (hw _ (List.mem_of_getElem? (i := 25) rfl)), _, (by decide : parseFieldDescriptor "B" = some .byte)⟩
theorem own_nd_String : ((([("java/lang/String", "value", "[B"), ("java/lang/String", "coder", "B")] : List (String × String × String))).map (fun q => q.2.1)).Nodup := by decide +kernel
theorem d4_9 : decode jdk_42_method_151_code 9 = .ok (.aload_n 0, 1) := by decide +kernel
theorem d4_10 : decode jdk_42_method_151_code 10 = .ok (.iload_n 2, 1) := by decide +kernel
theorem d4_11 : decode jdk_42_method_151_code 11 = .ok (.putfield 15, 3) := by decide +kernel
theorem d4_14 : decode jdk_42_method_151_code 14 = .ok (.return_, 1) := by decide +kernel
set_option maxRecDepth 65536 in
set_option maxHeartbeats 40000000 in
theorem rmS (l : Launch) (Z : State) (a0 : Array Value) (hw : ∀ d ∈ tables_1, d.before a0 Z = true) (a1 a2 : Addr) (h0 : Heap) (n0 : Nat) (Z0 : n0 ≤ h0.size) (f_a1 : n0 ≤ a1) (O_a1 : own_Obj Z h0 a1 "java/lang/String" [("java/lang/String", "value", "[B", .null), ("java/lang/String", "coder", "B", (.int (0 : Int32)))]) :
    own_Met l Z (⟨"java/lang/String", "<init>", "([BB)V"⟩ : MethodName) jdk_42_method_151_code 3 none ({ frames := 1, cells := 0, slots := 0, locals := 12 } : Room) #[(.ref a1), (.ref a2), (.int (0 : Int32))] h0 (QS a1 h0 n0) := by
  refine own_enter (plainFor_of_name own_pn4) (fun m => by first | (simp [entryFrame, mkF, argsToLocals, Value.category, maxLocals]; done) | rfl) (Ls := #[.val (.ref a1), .val (.ref a2), .val (.int (0 : Int32))]) ?_
  intro p e s m below meth c T0 K X0 e0
  have hx := K.1
  have hZ := K.2.1
  have hby := K.2.2.1
  have hown := K.2.2.2.2.1
  have N0 := Fr.nil n0
  have K0 : Keep h0 h0 [a1] := Keep.refl _ _
  show own_Fin p e below _ T0 (mkF m 0 #[.val (.ref a1), .val (.ref a2), .val (.int (0 : Int32))] [])
  refine own_seg (T' := T0) (g' := (mkF m 1 #[.val (.ref a1), .val (.ref a2), .val (.int (0 : Int32))] [(.ref a1)])) (fun tg kt => ?_) ?_
  · show Steps p.tables e below (T0.setTop (mkF m 0 #[.val (.ref a1), .val (.ref a2), .val (.int (0 : Int32))] [])) tg
    refine XS.aloadN X0.here hx rfl (hb hby d4_0) rfl rfl ?_
    exact kt
  refine own_initO K X0 e0 (hw _ (List.mem_of_getElem? (i := 19) rfl)) (hw _ (List.mem_of_getElem? (i := 20) rfl)) (hw _ (List.mem_of_getElem? (i := 21) rfl)) rfl d4_1 (by decide) (Nat.le_of_ble_eq_true rfl) ?_
  intro T1 X1 e1
  show own_Fin p e below _ T1 (mkF m 4 #[.val (.ref a1), .val (.ref a2), .val (.int (0 : Int32))] [])
  refine own_seg (T' := T1) (g' := (mkF m 6 #[.val (.ref a1), .val (.ref a2), .val (.int (0 : Int32))] [(.ref a2), (.ref a1)])) (fun tg kt => ?_) ?_
  · show Steps p.tables e below (T1.setTop (mkF m 4 #[.val (.ref a1), .val (.ref a2), .val (.int (0 : Int32))] [])) tg
    refine XS.aloadN X1.here hx rfl (hb hby d4_4) rfl rfl ?_
    show Steps p.tables e below (T1.setTop (mkF m 5 #[.val (.ref a1), .val (.ref a2), .val (.int (0 : Int32))] [(.ref a1)])) tg
    refine XS.aloadN X1.here hx rfl (hb hby d4_5) rfl rfl ?_
    exact kt
  refine own_putF K X1 e1 (host := "") (Or.inl (hw _ (List.mem_of_getElem? (i := 22) rfl))) Via.refl (O_a1.get 0 rfl) O_a1.exa (Or.inr ⟨(hw _ (List.mem_of_getElem? (i := 23) rfl)), rfl, rfl⟩) (hw _ (List.mem_of_getElem? (i := 10) rfl)) (ty := (.array .byte)) (by decide) rfl rfl d4_6 ?_
  intro T2 h2 X2 e2 W2
  have O_a1_2 : own_Obj Z h2 a1 "java/lang/String" [("java/lang/String", "value", "[B", (.ref a2)), ("java/lang/String", "coder", "B", (.int (0 : Int32)))] := O_a1.put (own_lay_String hw) rfl own_nd_String 0 rfl W2
  have Z2 : n0 ≤ h2.size := by rw [Wr.size W2]; exact Z0
  have N2 := Fr.snoc X2 N0 f_a1
  have K2 := K0.wr W2 (Or.inl (List.mem_of_getElem? (i := 0) rfl))
  show own_Fin p e below _ T2 (mkF m 9 #[.val (.ref a1), .val (.ref a2), .val (.int (0 : Int32))] [])
  refine own_seg (T' := T2) (g' := (mkF m 11 #[.val (.ref a1), .val (.ref a2), .val (.int (0 : Int32))] [(.int (0 : Int32)), (.ref a1)])) (fun tg kt => ?_) ?_
  · show Steps p.tables e below (T2.setTop (mkF m 9 #[.val (.ref a1), .val (.ref a2), .val (.int (0 : Int32))] [])) tg
    refine XS.aloadN X2.here hx rfl (hb hby d4_9) rfl rfl ?_
    show Steps p.tables e below (T2.setTop (mkF m 10 #[.val (.ref a1), .val (.ref a2), .val (.int (0 : Int32))] [(.ref a1)])) tg
    refine XS.iloadN X2.here hx rfl (hb hby d4_10) rfl ?_
    exact kt
  refine own_putF K X2 e2 (host := "") (Or.inl (hw _ (List.mem_of_getElem? (i := 24) rfl))) Via.refl (O_a1_2.get 1 rfl) O_a1_2.exa (Or.inr ⟨(hw _ (List.mem_of_getElem? (i := 25) rfl)), rfl, rfl⟩) (hw _ (List.mem_of_getElem? (i := 10) rfl)) (ty := .byte) (by decide) rfl rfl d4_11 ?_
  intro T3 h3 X3 e3 W3
  have O_a1_3 : own_Obj Z h3 a1 "java/lang/String" [("java/lang/String", "value", "[B", (.ref a2)), ("java/lang/String", "coder", "B", (.int (0 : Int32)))] := O_a1_2.put (own_lay_String hw) rfl own_nd_String 1 rfl W3
  have Z3 : n0 ≤ h3.size := by rw [Wr.size W3]; exact Z2
  have N3 := Fr.snoc X3 N2 f_a1
  have K3 := K2.wr W3 (Or.inl (List.mem_of_getElem? (i := 0) rfl))
  show own_Fin p e below _ T3 (mkF m 14 #[.val (.ref a1), .val (.ref a2), .val (.int (0 : Int32))] [])
  exact own_retV K X3 d4_14 (by rw [e3]; exact ⟨rfl, N3, K3⟩) (by decide) (by decide)
theorem own_pn1 : plainName "java/lang/String" = true := by first | (simp [plainName, overriddenIn]; done) | decide +kernel
theorem d1_0 : decode jdk_42_method_139_code 0 = .ok (.getstatic 38, 3) := by decide +kernel
theorem d1_3 : decode jdk_42_method_139_code 3 = .ok (.ifCond .eq 23, 3) := by decide +kernel
theorem d1_6 : decode jdk_42_method_139_code 6 = .ok (.iload_n 0, 1) := by decide +kernel
theorem d1_7 : decode jdk_42_method_139_code 7 = .ok (.invokestatic 1015, 3) := by decide +kernel
theorem own_pd0 : parseMethodDescriptor "(C)Z" = some ⟨[.char], some .boolean⟩ := by decide +kernel
theorem d1_10 : decode jdk_42_method_139_code 10 = .ok (.ifCond .eq 16, 3) := by decide +kernel
theorem d1_13 : decode jdk_42_method_139_code 13 = .ok (.new 10, 3) := by decide +kernel
theorem d1_16 : decode jdk_42_method_139_code 16 = .ok (.dup, 1) := by decide +kernel
theorem d1_17 : decode jdk_42_method_139_code 17 = .ok (.iload_n 0, 1) := by decide +kernel
theorem d1_18 : decode jdk_42_method_139_code 18 = .ok (.invokestatic 1018, 3) := by decide +kernel
theorem own_pd1 : parseMethodDescriptor "(C)[B" = some ⟨[.char], some (.array .byte)⟩ := by decide +kernel
theorem d1_21 : decode jdk_42_method_139_code 21 = .ok (.iconst 0, 1) := by decide +kernel
theorem d1_22 : decode jdk_42_method_139_code 22 = .ok (.invokespecial 209, 3) := by decide +kernel
theorem own_pd2 : parseMethodDescriptor "([BB)V" = some ⟨[(.array .byte), .byte], none⟩ := by decide +kernel
theorem d1_25 : decode jdk_42_method_139_code 25 = .ok (.areturn, 1) := by decide +kernel
set_option maxRecDepth 65536 in
set_option maxHeartbeats 40000000 in
theorem rmV (l : Launch) (Z : State) (a0 : Array Value) (hw : ∀ d ∈ tables_1, d.before a0 Z = true) (p1 cs : Int32) (h0 : Heap) (n0 : Nat) (Z0 : n0 ≤ h0.size) (hc : ¬ (255 : Int32) < p1) (S_cs : Sta Z h0 "java/lang/String" "COMPACT_STRINGS" "Z" (.int cs)) (hcs : ¬ cs = (0 : Int32)) :
    own_Met l Z (⟨"java/lang/String", "valueOf", "(C)Ljava/lang/String;"⟩ : MethodName) jdk_42_method_139_code 1 (some (.object "java/lang/String")) ({ frames := 2, cells := 2, slots := 5, locals := 32 } : Room) #[(.int p1)] h0 (QB h0 n0) := by
  refine own_enter (plainFor_of_name own_pn1) (fun m => by first | (simp [entryFrame, mkF, argsToLocals, Value.category, maxLocals]; done) | rfl) (Ls := #[.val (.int p1)]) ?_
  intro p e s m below meth c T0 K X0 e0
  have hx := K.1
  have hZ := K.2.1
  have hby := K.2.2.1
  have hown := K.2.2.2.2.1
  have N0 := Fr.nil n0
  have K0 : Keep h0 h0 [] := Keep.refl _ _
  show own_Fin p e below _ T0 (mkF m 0 #[.val (.int p1)] [])
  refine own_getS K X0 e0 (host := "") (Or.inl (hw _ (List.mem_of_getElem? (i := 4) rfl))) Via.refl S_cs d1_0 ?_
  intro T1 X1 e1
  show own_Fin p e below _ T1 (mkF m 3 #[.val (.int p1)] [(.int cs)])
  have hc3 : ¬ (cs = (0 : Int32)) := hcs
  refine own_seg (T' := T1) (g' := (mkF m 6 #[.val (.int p1)] [])) (fun tg kt => XS.ifNo X1.here hx rfl (hb hby d1_3) rfl ((if0 _ _).trans (feq hc3).1) kt) ?_
  refine own_seg (T' := T1) (g' := (mkF m 7 #[.val (.int p1)] [(.int p1)])) (fun tg kt => ?_) ?_
  · show Steps p.tables e below (T1.setTop (mkF m 6 #[.val (.int p1)] [])) tg
    refine XS.iloadN X1.here hx rfl (hb hby d1_6) rfl ?_
    exact kt
  refine own_callS K X1 e1 (rmE l Z a0 hw p1 h0 n0 Z0 hc) (hw _ (List.mem_of_getElem? (i := 5) rfl)) (hw _ (List.mem_of_getElem? (i := 6) rfl)) (hw _ (List.mem_of_getElem? (i := 7) rfl)) (hw _ (List.mem_of_getElem? (i := 8) rfl)) (by decide) [(.int p1)] [] own_pd0 rfl rfl rfl rfl d1_7 (by decide) (Nat.le_of_ble_eq_true rfl) (by decide) (by decide) ?_
  intro T2 L2 v2 X2 hQ2
  obtain ⟨rfl, Nq2, e2⟩ := hQ2
  have N2 := Fr.app N0 Nq2
  show own_Fin p e below _ T2 (mkF m 10 #[.val (.int p1)] [(.int (1 : Int32))])
  have hc10 : ¬ ((1 : Int32) = (0 : Int32)) := by decide
  refine own_seg (T' := T2) (g' := (mkF m 13 #[.val (.int p1)] [])) (fun tg kt => XS.ifNo X2.here hx rfl (hb hby d1_10) rfl ((if0 _ _).trans (feq hc10).1) kt) ?_
  refine own_newO K X2 e2 (hw _ (List.mem_of_getElem? (i := 9) rfl)) (hw _ (List.mem_of_getElem? (i := 10) rfl)) (hw _ (List.mem_of_getElem? (i := 2) rfl)) d1_13 (by decide) (by decide) ?_
  intro T3 h3 b3 g3 X3 e3 E3 A3 D3
  have SCOMPACT_STRINGS_3 : Sta Z h3 "java/lang/String" "COMPACT_STRINGS" "Z" (.int cs) := S_cs.ext E3
  have f_b3 : n0 ≤ b3 := Nat.le_trans Z0 (Nat.le_of_eq g3.symm)
  have Z3 : n0 ≤ h3.size := Nat.le_trans Z0 E3.1
  have sz_b3 : h0.size ≤ b3 := Nat.le_trans K0.1 (Nat.le_of_eq g3.symm)
  have K3 := K0.ext E3
  have O_b3_3 : own_Obj Z h3 b3 "java/lang/String" [("java/lang/String", "value", "[B", .null), ("java/lang/String", "coder", "B", (.int (0 : Int32)))] := ⟨A3, by
    intro q hq
    simp only [List.mem_cons, List.not_mem_nil, or_false] at hq
    rcases hq with rfl | rfl
    · exact D3 (Or.inr (hw _ (List.mem_of_getElem? (i := 23) rfl))) (ty := (.array .byte)) (by decide)
    · exact D3 (Or.inr (hw _ (List.mem_of_getElem? (i := 25) rfl))) (ty := .byte) (by decide)⟩
  show own_Fin p e below _ T3 (mkF m 16 #[.val (.int p1)] [(.ref b3)])
  refine own_seg (T' := T3) (g' := (mkF m 18 #[.val (.int p1)] [(.int p1), (.ref b3), (.ref b3)])) (fun tg kt => ?_) ?_
  · show Steps p.tables e below (T3.setTop (mkF m 16 #[.val (.int p1)] [(.ref b3)])) tg
    refine XS.dup X3.here hx rfl (hb hby d1_16) rfl rfl ?_
    show Steps p.tables e below (T3.setTop (mkF m 17 #[.val (.int p1)] [(.ref b3), (.ref b3)])) tg
    refine XS.iloadN X3.here hx rfl (hb hby d1_17) rfl ?_
    exact kt
  refine own_callS K X3 e3 (rmB l Z a0 hw p1 h3 n0 Z3) (hw _ (List.mem_of_getElem? (i := 11) rfl)) (hw _ (List.mem_of_getElem? (i := 12) rfl)) (hw _ (List.mem_of_getElem? (i := 7) rfl)) (hw _ (List.mem_of_getElem? (i := 13) rfl)) (by decide) [(.int p1)] [(.ref b3), (.ref b3)] own_pd1 rfl rfl rfl rfl d1_18 (by decide) (Nat.le_of_ble_eq_true rfl) (by decide) (by decide) ?_
  intro T4 L4 v4 X4 hQ4
  obtain ⟨h4, e4⟩ : ∃ z, T4.heap = z := ⟨_, rfl⟩
  rw [e4] at hQ4
  obtain ⟨b4, rfl, Nq4, Kq4, f_b4⟩ := hQ4
  have N4 := Fr.app N2 Nq4
  have O_b3_4 : own_Obj Z h4 b3 "java/lang/String" [("java/lang/String", "value", "[B", .null), ("java/lang/String", "coder", "B", (.int (0 : Int32)))] := O_b3_3.keep Kq4 nin0
  have Z4 : n0 ≤ h4.size := Nat.le_trans Z3 Kq4.1
  have K4 := Keep.trans K3 Kq4 all0
  show own_Fin p e below _ T4 (mkF m 21 #[.val (.int p1)] [(.ref b4), (.ref b3), (.ref b3)])
  refine own_seg (T' := T4) (g' := (mkF m 22 #[.val (.int p1)] [(.int (0 : Int32)), (.ref b4), (.ref b3), (.ref b3)])) (fun tg kt => ?_) ?_
  · show Steps p.tables e below (T4.setTop (mkF m 21 #[.val (.int p1)] [(.ref b4), (.ref b3), (.ref b3)])) tg
    refine XS.iconst X4.here hx rfl (hb hby d1_21) ?_
    exact kt
  refine own_callI K X4 e4 (rmS l Z a0 hw b3 b4 h4 n0 Z4 f_b3 O_b3_4) rfl (hw _ (List.mem_of_getElem? (i := 15) rfl)) (hw _ (List.mem_of_getElem? (i := 16) rfl)) (hw _ (List.mem_of_getElem? (i := 2) rfl)) (hw _ (List.mem_of_getElem? (i := 18) rfl)) (by decide) b3 [(.ref b4), (.int (0 : Int32))] [(.ref b3)] own_pd2 rfl rfl rfl rfl d1_22 (by decide) (Nat.le_of_ble_eq_true rfl) (by decide) (by decide) ?_
  intro T5 L5 v5 X5 hQ5
  obtain ⟨h5, e5⟩ : ∃ z, T5.heap = z := ⟨_, rfl⟩
  rw [e5] at hQ5
  obtain ⟨rfl, Nq5, Kq5⟩ := hQ5
  have N5 := Fr.app N4 Nq5
  have Z5 : n0 ≤ h5.size := Nat.le_trans Z4 Kq5.1
  have K5 := Keep.trans K4 Kq5 (allS (Or.inr sz_b3) all0)
  show own_Fin p e below _ T5 (mkF m 25 #[.val (.int p1)] [(.ref b3)])
  exact own_retA K rfl X5 rfl d1_25 (by rw [e5]; exact ⟨_, rfl, N5, K5, f_b3⟩) (by decide) (by decide)
def QW (Z : State) (a1 : Addr) (x y : UInt64) (h0 : Heap) (n0 : Nat) (v : Option Value) (h : Heap) (L : List Loc) : Prop := v = none ∧ Fr n0 L ∧ Keep h0 h [a1] ∧ own_Obj Z h a1 "com/example/murmuration/murmuration/Place$Window" [("com/example/murmuration/murmuration/Place$Window", "earliest", "D", (.double x)), ("com/example/murmuration/murmuration/Place$Window", "latest", "D", (.double y))]
theorem own_pn16 : plainName "com/example/murmuration/murmuration/Place$Window" = true := by first | (simp [plainName, overriddenIn]; done) | decide +kernel
theorem d16_0 : decode prog_11_method_1_code 0 = .ok (.aload_n 0, 1) := by decide +kernel
theorem d16_1 : decode prog_11_method_1_code 1 = .ok (.invokespecial 1, 3) := by decide +kernel
theorem d16_4 : decode prog_11_method_1_code 4 = .ok (.aload_n 0, 1) := by decide +kernel
theorem d16_5 : decode prog_11_method_1_code 5 = .ok (.dload_n 1, 1) := by decide +kernel
theorem d16_6 : decode prog_11_method_1_code 6 = .ok (.putfield 7, 3) := by decide +kernel
theorem own_lay_Place_Window {Z : State} {a0 : Array Value} (hw : ∀ d ∈ tables_1, d.before a0 Z = true) : own_Lay Z a0 "com/example/murmuration/murmuration/Place$Window" [("com/example/murmuration/murmuration/Place$Window", "earliest", "D"), ("com/example/murmuration/murmuration/Place$Window", "latest", "D")] := by
  intro q hq
  simp only [List.mem_cons, List.not_mem_nil, or_false] at hq
  rcases hq with rfl | rfl
  · exact ⟨Or.inr (hw _ (List.mem_of_getElem? (i := 110) rfl)), _, (by decide : parseFieldDescriptor "D" = some .double)⟩
  · exact ⟨Or.inr (hw _ (List.mem_of_getElem? (i := 112) rfl)), _, (by decide : parseFieldDescriptor "D" = some .double)⟩
theorem own_nd_Place_Window : ((([("com/example/murmuration/murmuration/Place$Window", "earliest", "D"), ("com/example/murmuration/murmuration/Place$Window", "latest", "D")] : List (String × String × String))).map (fun q => q.2.1)).Nodup := by decide +kernel
theorem d16_9 : decode prog_11_method_1_code 9 = .ok (.aload_n 0, 1) := by decide +kernel
theorem d16_10 : decode prog_11_method_1_code 10 = .ok (.dload_n 3, 1) := by decide +kernel
theorem d16_11 : decode prog_11_method_1_code 11 = .ok (.putfield 13, 3) := by decide +kernel
theorem d16_14 : decode prog_11_method_1_code 14 = .ok (.return_, 1) := by decide +kernel
set_option maxRecDepth 65536 in
set_option maxHeartbeats 40000000 in
theorem rmW (l : Launch) (Z : State) (a0 : Array Value) (hw : ∀ d ∈ tables_1, d.before a0 Z = true) (a1 : Addr) (x y : UInt64) (h0 : Heap) (n0 : Nat) (Z0 : n0 ≤ h0.size) (f_a1 : n0 ≤ a1) (O_a1 : own_Obj Z h0 a1 "com/example/murmuration/murmuration/Place$Window" [("com/example/murmuration/murmuration/Place$Window", "earliest", "D", (.double 0)), ("com/example/murmuration/murmuration/Place$Window", "latest", "D", (.double 0))]) :
    own_Met l Z (⟨"com/example/murmuration/murmuration/Place$Window", "<init>", "(DD)V"⟩ : MethodName) prog_11_method_1_code 5 none ({ frames := 1, cells := 0, slots := 0, locals := 12 } : Room) #[(.ref a1), (.double x), (.double y)] h0 (QW Z a1 x y h0 n0) := by
  refine own_enter (plainFor_of_name own_pn16) (fun m => by first | (simp [entryFrame, mkF, argsToLocals, Value.category, maxLocals]; done) | rfl) (Ls := #[.val (.ref a1), .val (.double x), .second, .val (.double y), .second]) ?_
  intro p e s m below meth c T0 K X0 e0
  have hx := K.1
  have hZ := K.2.1
  have hby := K.2.2.1
  have hown := K.2.2.2.2.1
  have N0 := Fr.nil n0
  have K0 : Keep h0 h0 [a1] := Keep.refl _ _
  show own_Fin p e below _ T0 (mkF m 0 #[.val (.ref a1), .val (.double x), .second, .val (.double y), .second] [])
  refine own_seg (T' := T0) (g' := (mkF m 1 #[.val (.ref a1), .val (.double x), .second, .val (.double y), .second] [(.ref a1)])) (fun tg kt => ?_) ?_
  · show Steps p.tables e below (T0.setTop (mkF m 0 #[.val (.ref a1), .val (.double x), .second, .val (.double y), .second] [])) tg
    refine XS.aloadN X0.here hx rfl (hb hby d16_0) rfl rfl ?_
    exact kt
  refine own_initO K X0 e0 (hw _ (List.mem_of_getElem? (i := 108) rfl)) (hw _ (List.mem_of_getElem? (i := 20) rfl)) (hw _ (List.mem_of_getElem? (i := 21) rfl)) rfl d16_1 (by decide) (Nat.le_of_ble_eq_true rfl) ?_
  intro T1 X1 e1
  show own_Fin p e below _ T1 (mkF m 4 #[.val (.ref a1), .val (.double x), .second, .val (.double y), .second] [])
  refine own_seg (T' := T1) (g' := (mkF m 6 #[.val (.ref a1), .val (.double x), .second, .val (.double y), .second] [(.double x), (.ref a1)])) (fun tg kt => ?_) ?_
  · show Steps p.tables e below (T1.setTop (mkF m 4 #[.val (.ref a1), .val (.double x), .second, .val (.double y), .second] [])) tg
    refine XS.aloadN X1.here hx rfl (hb hby d16_4) rfl rfl ?_
    show Steps p.tables e below (T1.setTop (mkF m 5 #[.val (.ref a1), .val (.double x), .second, .val (.double y), .second] [(.ref a1)])) tg
    refine own_dloadN X1.here hx rfl (hb hby d16_5) rfl ?_
    exact kt
  refine own_putF K X1 e1 (host := "") (Or.inl (hw _ (List.mem_of_getElem? (i := 109) rfl))) Via.refl (O_a1.get 0 rfl) O_a1.exa (Or.inr ⟨(hw _ (List.mem_of_getElem? (i := 110) rfl)), rfl, rfl⟩) (hw _ (List.mem_of_getElem? (i := 103) rfl)) (ty := .double) (by decide) rfl rfl d16_6 ?_
  intro T2 h2 X2 e2 W2
  have O_a1_2 : own_Obj Z h2 a1 "com/example/murmuration/murmuration/Place$Window" [("com/example/murmuration/murmuration/Place$Window", "earliest", "D", (.double x)), ("com/example/murmuration/murmuration/Place$Window", "latest", "D", (.double 0))] := O_a1.put (own_lay_Place_Window hw) rfl own_nd_Place_Window 0 rfl W2
  have Z2 : n0 ≤ h2.size := by rw [Wr.size W2]; exact Z0
  have N2 := Fr.snoc X2 N0 f_a1
  have K2 := K0.wr W2 (Or.inl (List.mem_of_getElem? (i := 0) rfl))
  show own_Fin p e below _ T2 (mkF m 9 #[.val (.ref a1), .val (.double x), .second, .val (.double y), .second] [])
  refine own_seg (T' := T2) (g' := (mkF m 11 #[.val (.ref a1), .val (.double x), .second, .val (.double y), .second] [(.double y), (.ref a1)])) (fun tg kt => ?_) ?_
  · show Steps p.tables e below (T2.setTop (mkF m 9 #[.val (.ref a1), .val (.double x), .second, .val (.double y), .second] [])) tg
    refine XS.aloadN X2.here hx rfl (hb hby d16_9) rfl rfl ?_
    show Steps p.tables e below (T2.setTop (mkF m 10 #[.val (.ref a1), .val (.double x), .second, .val (.double y), .second] [(.ref a1)])) tg
    refine own_dloadN X2.here hx rfl (hb hby d16_10) rfl ?_
    exact kt
  refine own_putF K X2 e2 (host := "") (Or.inl (hw _ (List.mem_of_getElem? (i := 111) rfl))) Via.refl (O_a1_2.get 1 rfl) O_a1_2.exa (Or.inr ⟨(hw _ (List.mem_of_getElem? (i := 112) rfl)), rfl, rfl⟩) (hw _ (List.mem_of_getElem? (i := 103) rfl)) (ty := .double) (by decide) rfl rfl d16_11 ?_
  intro T3 h3 X3 e3 W3
  have O_a1_3 : own_Obj Z h3 a1 "com/example/murmuration/murmuration/Place$Window" [("com/example/murmuration/murmuration/Place$Window", "earliest", "D", (.double x)), ("com/example/murmuration/murmuration/Place$Window", "latest", "D", (.double y))] := O_a1_2.put (own_lay_Place_Window hw) rfl own_nd_Place_Window 1 rfl W3
  have Z3 : n0 ≤ h3.size := by rw [Wr.size W3]; exact Z2
  have N3 := Fr.snoc X3 N2 f_a1
  have K3 := K2.wr W3 (Or.inl (List.mem_of_getElem? (i := 0) rfl))
  show own_Fin p e below _ T3 (mkF m 14 #[.val (.ref a1), .val (.double x), .second, .val (.double y), .second] [])
  exact own_retV K X3 d16_14 (by rw [e3]; exact ⟨rfl, N3, K3, O_a1_3⟩) (by decide) (by decide)
def QP (Z : State) (a1 : Addr) (fs : List (String × String × String × Value)) (h0 : Heap) (n0 : Nat) (v : Option Value) (h : Heap) (L : List Loc) : Prop := v = none ∧ Fr n0 L ∧ Keep h0 h [a1] ∧ own_Obj Z h a1 "com/example/murmuration/murmuration/Place" fs
theorem own_pn9 : plainName "com/example/murmuration/murmuration/Site" = true := by first | (simp [plainName, overriddenIn]; done) | decide +kernel
theorem d9_0 : decode prog_15_method_1_code 0 = .ok (.aload_n 0, 1) := by decide +kernel
theorem d9_1 : decode prog_15_method_1_code 1 = .ok (.invokespecial 1, 3) := by decide +kernel
theorem d9_4 : decode prog_15_method_1_code 4 = .ok (.aload_n 0, 1) := by decide +kernel
theorem d9_5 : decode prog_15_method_1_code 5 = .ok (.aload_n 1, 1) := by decide +kernel
theorem d9_6 : decode prog_15_method_1_code 6 = .ok (.putfield 7, 3) := by decide +kernel
theorem own_lay_Place {Z : State} {a0 : Array Value} (hw : ∀ d ∈ tables_1, d.before a0 Z = true) : own_Lay Z a0 "com/example/murmuration/murmuration/Place" [("com/example/murmuration/murmuration/Site", "id", "Ljava/lang/String;"), ("com/example/murmuration/murmuration/Site", "first", "D"), ("com/example/murmuration/murmuration/Site", "second", "D"), ("com/example/murmuration/murmuration/Place", "value", "D"), ("com/example/murmuration/murmuration/Place", "needs", "Ljava/util/List;"), ("com/example/murmuration/murmuration/Place", "paths", "Ljava/util/List;"), ("com/example/murmuration/murmuration/Place", "detect", "D"), ("com/example/murmuration/murmuration/Place", "window", "Lcom/example/murmuration/murmuration/Place$Window;"), ("com/example/murmuration/murmuration/Place", "duration", "D")] := by
  intro q hq
  simp only [List.mem_cons, List.not_mem_nil, or_false] at hq
  rcases hq with rfl | rfl | rfl | rfl | rfl | rfl | rfl | rfl | rfl
  · exact ⟨Or.inr (hw _ (List.mem_of_getElem? (i := 48) rfl)), _, (by decide : parseFieldDescriptor "Ljava/lang/String;" = some (.object "java/lang/String"))⟩
  · exact ⟨Or.inr (hw _ (List.mem_of_getElem? (i := 50) rfl)), _, (by decide : parseFieldDescriptor "D" = some .double)⟩
  · exact ⟨Or.inr (hw _ (List.mem_of_getElem? (i := 52) rfl)), _, (by decide : parseFieldDescriptor "D" = some .double)⟩
  · exact ⟨Or.inr (hw _ (List.mem_of_getElem? (i := 54) rfl)), _, (by decide : parseFieldDescriptor "D" = some .double)⟩
  · exact ⟨Or.inr (hw _ (List.mem_of_getElem? (i := 74) rfl)), _, (by decide : parseFieldDescriptor "Ljava/util/List;" = some (.object "java/util/List"))⟩
  · exact ⟨Or.inr (hw _ (List.mem_of_getElem? (i := 76) rfl)), _, (by decide : parseFieldDescriptor "Ljava/util/List;" = some (.object "java/util/List"))⟩
  · exact ⟨Or.inr (hw _ (List.mem_of_getElem? (i := 78) rfl)), _, (by decide : parseFieldDescriptor "D" = some .double)⟩
  · exact ⟨Or.inr (hw _ (List.mem_of_getElem? (i := 80) rfl)), _, (by decide : parseFieldDescriptor "Lcom/example/murmuration/murmuration/Place$Window;" = some (.object "com/example/murmuration/murmuration/Place$Window"))⟩
  · exact ⟨Or.inr (hw _ (List.mem_of_getElem? (i := 82) rfl)), _, (by decide : parseFieldDescriptor "D" = some .double)⟩
theorem own_nd_Place : ((([("com/example/murmuration/murmuration/Site", "id", "Ljava/lang/String;"), ("com/example/murmuration/murmuration/Site", "first", "D"), ("com/example/murmuration/murmuration/Site", "second", "D"), ("com/example/murmuration/murmuration/Place", "value", "D"), ("com/example/murmuration/murmuration/Place", "needs", "Ljava/util/List;"), ("com/example/murmuration/murmuration/Place", "paths", "Ljava/util/List;"), ("com/example/murmuration/murmuration/Place", "detect", "D"), ("com/example/murmuration/murmuration/Place", "window", "Lcom/example/murmuration/murmuration/Place$Window;"), ("com/example/murmuration/murmuration/Place", "duration", "D")] : List (String × String × String))).map (fun q => q.2.1)).Nodup := by decide +kernel
theorem d9_9 : decode prog_15_method_1_code 9 = .ok (.aload_n 0, 1) := by decide +kernel
theorem d9_10 : decode prog_15_method_1_code 10 = .ok (.dload_n 2, 1) := by decide +kernel
theorem d9_11 : decode prog_15_method_1_code 11 = .ok (.putfield 13, 3) := by decide +kernel
theorem d9_14 : decode prog_15_method_1_code 14 = .ok (.aload_n 0, 1) := by decide +kernel
theorem d9_15 : decode prog_15_method_1_code 15 = .ok (.dload 4, 2) := by decide +kernel
theorem d9_17 : decode prog_15_method_1_code 17 = .ok (.putfield 17, 3) := by decide +kernel
theorem d9_20 : decode prog_15_method_1_code 20 = .ok (.return_, 1) := by decide +kernel
set_option maxRecDepth 65536 in
set_option maxHeartbeats 40000000 in
theorem rmSi (l : Launch) (Z : State) (a0 : Array Value) (hw : ∀ d ∈ tables_1, d.before a0 Z = true) (a1 sid : Addr) (x y : UInt64) (h0 : Heap) (n0 : Nat) (Z0 : n0 ≤ h0.size) (f_a1 : n0 ≤ a1) (O_a1 : own_Obj Z h0 a1 "com/example/murmuration/murmuration/Place" [("com/example/murmuration/murmuration/Site", "id", "Ljava/lang/String;", .null), ("com/example/murmuration/murmuration/Site", "first", "D", (.double 0)), ("com/example/murmuration/murmuration/Site", "second", "D", (.double 0)), ("com/example/murmuration/murmuration/Place", "value", "D", (.double 0)), ("com/example/murmuration/murmuration/Place", "needs", "Ljava/util/List;", .null), ("com/example/murmuration/murmuration/Place", "paths", "Ljava/util/List;", .null), ("com/example/murmuration/murmuration/Place", "detect", "D", (.double 0)), ("com/example/murmuration/murmuration/Place", "window", "Lcom/example/murmuration/murmuration/Place$Window;", .null), ("com/example/murmuration/murmuration/Place", "duration", "D", (.double 0))]) :
    own_Met l Z (⟨"com/example/murmuration/murmuration/Site", "<init>", "(Ljava/lang/String;DD)V"⟩ : MethodName) prog_15_method_1_code 6 none ({ frames := 1, cells := 0, slots := 0, locals := 12 } : Room) #[(.ref a1), (.ref sid), (.double x), (.double y)] h0 (QP Z a1 [("com/example/murmuration/murmuration/Site", "id", "Ljava/lang/String;", (.ref sid)), ("com/example/murmuration/murmuration/Site", "first", "D", (.double x)), ("com/example/murmuration/murmuration/Site", "second", "D", (.double y)), ("com/example/murmuration/murmuration/Place", "value", "D", (.double 0)), ("com/example/murmuration/murmuration/Place", "needs", "Ljava/util/List;", .null), ("com/example/murmuration/murmuration/Place", "paths", "Ljava/util/List;", .null), ("com/example/murmuration/murmuration/Place", "detect", "D", (.double 0)), ("com/example/murmuration/murmuration/Place", "window", "Lcom/example/murmuration/murmuration/Place$Window;", .null), ("com/example/murmuration/murmuration/Place", "duration", "D", (.double 0))] h0 n0) := by
  refine own_enter (plainFor_of_name own_pn9) (fun m => by first | (simp [entryFrame, mkF, argsToLocals, Value.category, maxLocals]; done) | rfl) (Ls := #[.val (.ref a1), .val (.ref sid), .val (.double x), .second, .val (.double y), .second]) ?_
  intro p e s m below meth c T0 K X0 e0
  have hx := K.1
  have hZ := K.2.1
  have hby := K.2.2.1
  have hown := K.2.2.2.2.1
  have N0 := Fr.nil n0
  have K0 : Keep h0 h0 [a1] := Keep.refl _ _
  show own_Fin p e below _ T0 (mkF m 0 #[.val (.ref a1), .val (.ref sid), .val (.double x), .second, .val (.double y), .second] [])
  refine own_seg (T' := T0) (g' := (mkF m 1 #[.val (.ref a1), .val (.ref sid), .val (.double x), .second, .val (.double y), .second] [(.ref a1)])) (fun tg kt => ?_) ?_
  · show Steps p.tables e below (T0.setTop (mkF m 0 #[.val (.ref a1), .val (.ref sid), .val (.double x), .second, .val (.double y), .second] [])) tg
    refine XS.aloadN X0.here hx rfl (hb hby d9_0) rfl rfl ?_
    exact kt
  refine own_initO K X0 e0 (hw _ (List.mem_of_getElem? (i := 46) rfl)) (hw _ (List.mem_of_getElem? (i := 20) rfl)) (hw _ (List.mem_of_getElem? (i := 21) rfl)) rfl d9_1 (by decide) (Nat.le_of_ble_eq_true rfl) ?_
  intro T1 X1 e1
  show own_Fin p e below _ T1 (mkF m 4 #[.val (.ref a1), .val (.ref sid), .val (.double x), .second, .val (.double y), .second] [])
  refine own_seg (T' := T1) (g' := (mkF m 6 #[.val (.ref a1), .val (.ref sid), .val (.double x), .second, .val (.double y), .second] [(.ref sid), (.ref a1)])) (fun tg kt => ?_) ?_
  · show Steps p.tables e below (T1.setTop (mkF m 4 #[.val (.ref a1), .val (.ref sid), .val (.double x), .second, .val (.double y), .second] [])) tg
    refine XS.aloadN X1.here hx rfl (hb hby d9_4) rfl rfl ?_
    show Steps p.tables e below (T1.setTop (mkF m 5 #[.val (.ref a1), .val (.ref sid), .val (.double x), .second, .val (.double y), .second] [(.ref a1)])) tg
    refine XS.aloadN X1.here hx rfl (hb hby d9_5) rfl rfl ?_
    exact kt
  refine own_putF K X1 e1 (host := "") (Or.inl (hw _ (List.mem_of_getElem? (i := 47) rfl))) Via.refl (O_a1.get 0 rfl) O_a1.exa (Or.inr ⟨(hw _ (List.mem_of_getElem? (i := 48) rfl)), rfl, rfl⟩) (hw _ (List.mem_of_getElem? (i := 27) rfl)) (ty := (.object "java/lang/String")) (by decide) rfl rfl d9_6 ?_
  intro T2 h2 X2 e2 W2
  have O_a1_2 : own_Obj Z h2 a1 "com/example/murmuration/murmuration/Place" [("com/example/murmuration/murmuration/Site", "id", "Ljava/lang/String;", (.ref sid)), ("com/example/murmuration/murmuration/Site", "first", "D", (.double 0)), ("com/example/murmuration/murmuration/Site", "second", "D", (.double 0)), ("com/example/murmuration/murmuration/Place", "value", "D", (.double 0)), ("com/example/murmuration/murmuration/Place", "needs", "Ljava/util/List;", .null), ("com/example/murmuration/murmuration/Place", "paths", "Ljava/util/List;", .null), ("com/example/murmuration/murmuration/Place", "detect", "D", (.double 0)), ("com/example/murmuration/murmuration/Place", "window", "Lcom/example/murmuration/murmuration/Place$Window;", .null), ("com/example/murmuration/murmuration/Place", "duration", "D", (.double 0))] := O_a1.put (own_lay_Place hw) rfl own_nd_Place 0 rfl W2
  have Z2 : n0 ≤ h2.size := by rw [Wr.size W2]; exact Z0
  have N2 := Fr.snoc X2 N0 f_a1
  have K2 := K0.wr W2 (Or.inl (List.mem_of_getElem? (i := 0) rfl))
  show own_Fin p e below _ T2 (mkF m 9 #[.val (.ref a1), .val (.ref sid), .val (.double x), .second, .val (.double y), .second] [])
  refine own_seg (T' := T2) (g' := (mkF m 11 #[.val (.ref a1), .val (.ref sid), .val (.double x), .second, .val (.double y), .second] [(.double x), (.ref a1)])) (fun tg kt => ?_) ?_
  · show Steps p.tables e below (T2.setTop (mkF m 9 #[.val (.ref a1), .val (.ref sid), .val (.double x), .second, .val (.double y), .second] [])) tg
    refine XS.aloadN X2.here hx rfl (hb hby d9_9) rfl rfl ?_
    show Steps p.tables e below (T2.setTop (mkF m 10 #[.val (.ref a1), .val (.ref sid), .val (.double x), .second, .val (.double y), .second] [(.ref a1)])) tg
    refine own_dloadN X2.here hx rfl (hb hby d9_10) rfl ?_
    exact kt
  refine own_putF K X2 e2 (host := "") (Or.inl (hw _ (List.mem_of_getElem? (i := 49) rfl))) Via.refl (O_a1_2.get 1 rfl) O_a1_2.exa (Or.inr ⟨(hw _ (List.mem_of_getElem? (i := 50) rfl)), rfl, rfl⟩) (hw _ (List.mem_of_getElem? (i := 27) rfl)) (ty := .double) (by decide) rfl rfl d9_11 ?_
  intro T3 h3 X3 e3 W3
  have O_a1_3 : own_Obj Z h3 a1 "com/example/murmuration/murmuration/Place" [("com/example/murmuration/murmuration/Site", "id", "Ljava/lang/String;", (.ref sid)), ("com/example/murmuration/murmuration/Site", "first", "D", (.double x)), ("com/example/murmuration/murmuration/Site", "second", "D", (.double 0)), ("com/example/murmuration/murmuration/Place", "value", "D", (.double 0)), ("com/example/murmuration/murmuration/Place", "needs", "Ljava/util/List;", .null), ("com/example/murmuration/murmuration/Place", "paths", "Ljava/util/List;", .null), ("com/example/murmuration/murmuration/Place", "detect", "D", (.double 0)), ("com/example/murmuration/murmuration/Place", "window", "Lcom/example/murmuration/murmuration/Place$Window;", .null), ("com/example/murmuration/murmuration/Place", "duration", "D", (.double 0))] := O_a1_2.put (own_lay_Place hw) rfl own_nd_Place 1 rfl W3
  have Z3 : n0 ≤ h3.size := by rw [Wr.size W3]; exact Z2
  have N3 := Fr.snoc X3 N2 f_a1
  have K3 := K2.wr W3 (Or.inl (List.mem_of_getElem? (i := 0) rfl))
  show own_Fin p e below _ T3 (mkF m 14 #[.val (.ref a1), .val (.ref sid), .val (.double x), .second, .val (.double y), .second] [])
  refine own_seg (T' := T3) (g' := (mkF m 17 #[.val (.ref a1), .val (.ref sid), .val (.double x), .second, .val (.double y), .second] [(.double y), (.ref a1)])) (fun tg kt => ?_) ?_
  · show Steps p.tables e below (T3.setTop (mkF m 14 #[.val (.ref a1), .val (.ref sid), .val (.double x), .second, .val (.double y), .second] [])) tg
    refine XS.aloadN X3.here hx rfl (hb hby d9_14) rfl rfl ?_
    show Steps p.tables e below (T3.setTop (mkF m 15 #[.val (.ref a1), .val (.ref sid), .val (.double x), .second, .val (.double y), .second] [(.ref a1)])) tg
    refine own_dload X3.here hx rfl (hb hby d9_15) rfl ?_
    exact kt
  refine own_putF K X3 e3 (host := "") (Or.inl (hw _ (List.mem_of_getElem? (i := 51) rfl))) Via.refl (O_a1_3.get 2 rfl) O_a1_3.exa (Or.inr ⟨(hw _ (List.mem_of_getElem? (i := 52) rfl)), rfl, rfl⟩) (hw _ (List.mem_of_getElem? (i := 27) rfl)) (ty := .double) (by decide) rfl rfl d9_17 ?_
  intro T4 h4 X4 e4 W4
  have O_a1_4 : own_Obj Z h4 a1 "com/example/murmuration/murmuration/Place" [("com/example/murmuration/murmuration/Site", "id", "Ljava/lang/String;", (.ref sid)), ("com/example/murmuration/murmuration/Site", "first", "D", (.double x)), ("com/example/murmuration/murmuration/Site", "second", "D", (.double y)), ("com/example/murmuration/murmuration/Place", "value", "D", (.double 0)), ("com/example/murmuration/murmuration/Place", "needs", "Ljava/util/List;", .null), ("com/example/murmuration/murmuration/Place", "paths", "Ljava/util/List;", .null), ("com/example/murmuration/murmuration/Place", "detect", "D", (.double 0)), ("com/example/murmuration/murmuration/Place", "window", "Lcom/example/murmuration/murmuration/Place$Window;", .null), ("com/example/murmuration/murmuration/Place", "duration", "D", (.double 0))] := O_a1_3.put (own_lay_Place hw) rfl own_nd_Place 2 rfl W4
  have Z4 : n0 ≤ h4.size := by rw [Wr.size W4]; exact Z3
  have N4 := Fr.snoc X4 N3 f_a1
  have K4 := K3.wr W4 (Or.inl (List.mem_of_getElem? (i := 0) rfl))
  show own_Fin p e below _ T4 (mkF m 20 #[.val (.ref a1), .val (.ref sid), .val (.double x), .second, .val (.double y), .second] [])
  exact own_retV K X4 d9_20 (by rw [e4]; exact ⟨rfl, N4, K4, O_a1_4⟩) (by decide) (by decide)
theorem own_pn7 : plainName "java/util/List" = true := by first | (simp [plainName, overriddenIn]; done) | decide +kernel
theorem d7_0 : decode jdk_40_method_36_code 0 = .ok (.getstatic 90, 3) := by decide +kernel
theorem d7_3 : decode jdk_40_method_36_code 3 = .ok (.areturn, 1) := by decide +kernel
set_option maxRecDepth 65536 in
set_option maxHeartbeats 40000000 in
theorem rmO (l : Launch) (Z : State) (a0 : Array Value) (hw : ∀ d ∈ tables_1, d.before a0 Z = true) (el : Addr) (h0 : Heap) (n0 : Nat) (Z0 : n0 ≤ h0.size) (S_el : Sta Z h0 "java/util/ImmutableCollections" "EMPTY_LIST" "Ljava/util/ImmutableCollections$ListN;" (.ref el)) :
    own_Met l Z (⟨"java/util/List", "of", "()Ljava/util/List;"⟩ : MethodName) jdk_40_method_36_code 0 (some (.object "java/util/List")) ({ frames := 0, cells := 0, slots := 0, locals := 0 } : Room) #[] h0 (own_QR (.ref el) h0 n0) := by
  refine own_enter (plainFor_of_name own_pn7) (fun m => by first | (simp [entryFrame, mkF, argsToLocals, Value.category, maxLocals]; done) | rfl) (Ls := #[]) ?_
  intro p e s m below meth c T0 K X0 e0
  have hx := K.1
  have hZ := K.2.1
  have hby := K.2.2.1
  have hown := K.2.2.2.2.1
  have N0 := Fr.nil n0
  show own_Fin p e below _ T0 (mkF m 0 #[] [])
  refine own_getS K X0 e0 (host := "") (Or.inl (hw _ (List.mem_of_getElem? (i := 36) rfl))) Via.refl S_el d7_0 ?_
  intro T1 X1 e1
  show own_Fin p e below _ T1 (mkF m 3 #[] [(.ref el)])
  exact own_retA K rfl X1 rfl d7_3 (⟨rfl, N0, e1⟩) (by decide) (by decide)
theorem own_pn11 : plainName "java/util/ImmutableCollections" = true := by first | (simp [plainName, overriddenIn]; done) | decide +kernel
theorem d11_0 : decode jdk_56_method_3_code 0 = .ok (.aload_n 0, 1) := by decide +kernel
theorem d11_1 : decode jdk_56_method_3_code 1 = .ok (.instanceof 10, 3) := by decide +kernel
theorem d11_4 : decode jdk_56_method_3_code 4 = .ok (.ifCond .ne 22, 3) := by decide +kernel
theorem d11_26 : decode jdk_56_method_3_code 26 = .ok (.aload_n 0, 1) := by decide +kernel
theorem d11_27 : decode jdk_56_method_3_code 27 = .ok (.checkcast 18, 3) := by decide +kernel
theorem d11_30 : decode jdk_56_method_3_code 30 = .ok (.areturn, 1) := by decide +kernel
theorem d11_7 : decode jdk_56_method_3_code 7 = .ok (.aload_n 0, 1) := by decide +kernel
theorem d11_8 : decode jdk_56_method_3_code 8 = .ok (.instanceof 12, 3) := by decide +kernel
theorem d11_11 : decode jdk_56_method_3_code 11 = .ok (.ifCond .eq 20, 3) := by decide +kernel
theorem d11_14 : decode jdk_56_method_3_code 14 = .ok (.aload_n 0, 1) := by decide +kernel
theorem d11_15 : decode jdk_56_method_3_code 15 = .ok (.checkcast 12, 3) := by decide +kernel
theorem d11_18 : decode jdk_56_method_3_code 18 = .ok (.astore_n 1, 1) := by decide +kernel
theorem d11_19 : decode jdk_56_method_3_code 19 = .ok (.aload_n 1, 1) := by decide +kernel
theorem d11_20 : decode jdk_56_method_3_code 20 = .ok (.getfield 14, 3) := by decide +kernel
theorem d11_23 : decode jdk_56_method_3_code 23 = .ok (.ifCond .ne 8, 3) := by decide +kernel
set_option maxRecDepth 65536 in
set_option maxHeartbeats 40000000 in
theorem rmL (l : Launch) (Z : State) (a0 : Array Value) (hw : ∀ d ∈ tables_1, d.before a0 Z = true) (el : Addr) (h0 : Heap) (n0 : Nat) (Z0 : n0 ≤ h0.size) (O_el : own_Obj Z h0 el "java/util/ImmutableCollections$ListN" [("java/util/ImmutableCollections$ListN", "allowNulls", "Z", (.int (0 : Int32)))]) :
    own_Met l Z (⟨"java/util/ImmutableCollections", "listCopy", "(Ljava/util/Collection;)Ljava/util/List;"⟩ : MethodName) jdk_56_method_3_code 2 (some (.object "java/util/List")) ({ frames := 0, cells := 0, slots := 0, locals := 0 } : Room) #[(.ref el)] h0 (own_QR (.ref el) h0 n0) := by
  refine own_enter (plainFor_of_name own_pn11) (fun m => by first | (simp [entryFrame, mkF, argsToLocals, Value.category, maxLocals]; done) | rfl) (Ls := #[.val (.ref el), .unset]) ?_
  intro p e s m below meth c T0 K X0 e0
  have hx := K.1
  have hZ := K.2.1
  have hby := K.2.2.1
  have hown := K.2.2.2.2.1
  have N0 := Fr.nil n0
  show own_Fin p e below _ T0 (mkF m 0 #[.val (.ref el), .unset] [])
  refine own_seg (T' := T0) (g' := (mkF m 1 #[.val (.ref el), .unset] [(.ref el)])) (fun tg kt => ?_) ?_
  · show Steps p.tables e below (T0.setTop (mkF m 0 #[.val (.ref el), .unset] [])) tg
    refine XS.aloadN X0.here hx rfl (hb hby d11_0) rfl rfl ?_
    exact kt
  refine own_instAny K X0 e0 (hw _ (List.mem_of_getElem? (i := 61) rfl)) O_el.exa d11_1 ?_ ?_
  · skip
    intro T1 X1 e1
    show own_Fin p e below _ T1 (mkF m 4 #[.val (.ref el), .unset] [(.int (1 : Int32))])
    have hc4 : ¬ ((1 : Int32) = (0 : Int32)) := by decide
    refine own_seg (T' := T1) (g' := (mkF m 26 #[.val (.ref el), .unset] [])) (fun tg kt => XS.ifYes X1.here hx rfl (pc0 := 4) (pc' := 26) rfl (hb hby d11_4) rfl ((if0 _ _).trans (feq hc4).2) (by decide) (by decide) kt) ?_
    refine own_seg (T' := T1) (g' := (mkF m 27 #[.val (.ref el), .unset] [(.ref el)])) (fun tg kt => ?_) ?_
    · show Steps p.tables e below (T1.setTop (mkF m 26 #[.val (.ref el), .unset] [])) tg
      refine XS.aloadN X1.here hx rfl (hb hby d11_26) rfl rfl ?_
      exact kt
    refine own_castY K X1 e1 (hw _ (List.mem_of_getElem? (i := 71) rfl)) (Ins.of_exa O_el.exa (hw _ (List.mem_of_getElem? (i := 72) rfl))) d11_27 ?_
    intro T2 X2 e2
    show own_Fin p e below _ T2 (mkF m 30 #[.val (.ref el), .unset] [(.ref el)])
    exact own_retA K rfl X2 rfl d11_30 (⟨rfl, N0, e2⟩) (by decide) (by decide)
  · skip
    intro T1 X1 e1
    show own_Fin p e below _ T1 (mkF m 4 #[.val (.ref el), .unset] [(.int (0 : Int32))])
    have hc4 : (0 : Int32) = (0 : Int32) := by decide
    refine own_seg (T' := T1) (g' := (mkF m 7 #[.val (.ref el), .unset] [])) (fun tg kt => XS.ifNo X1.here hx rfl (hb hby d11_4) rfl ((if0 _ _).trans (teq hc4).2) kt) ?_
    refine own_seg (T' := T1) (g' := (mkF m 8 #[.val (.ref el), .unset] [(.ref el)])) (fun tg kt => ?_) ?_
    · show Steps p.tables e below (T1.setTop (mkF m 7 #[.val (.ref el), .unset] [])) tg
      refine XS.aloadN X1.here hx rfl (hb hby d11_7) rfl rfl ?_
      exact kt
    refine own_instY K X1 e1 (hw _ (List.mem_of_getElem? (i := 67) rfl)) (Ins.self O_el.exa) d11_8 ?_
    intro T3 X3 e3
    show own_Fin p e below _ T3 (mkF m 11 #[.val (.ref el), .unset] [(.int (1 : Int32))])
    have hc11 : ¬ ((1 : Int32) = (0 : Int32)) := by decide
    refine own_seg (T' := T3) (g' := (mkF m 14 #[.val (.ref el), .unset] [])) (fun tg kt => XS.ifNo X3.here hx rfl (hb hby d11_11) rfl ((if0 _ _).trans (feq hc11).1) kt) ?_
    refine own_seg (T' := T3) (g' := (mkF m 15 #[.val (.ref el), .unset] [(.ref el)])) (fun tg kt => ?_) ?_
    · show Steps p.tables e below (T3.setTop (mkF m 14 #[.val (.ref el), .unset] [])) tg
      refine XS.aloadN X3.here hx rfl (hb hby d11_14) rfl rfl ?_
      exact kt
    refine own_castY K X3 e3 (hw _ (List.mem_of_getElem? (i := 67) rfl)) (Ins.self O_el.exa) d11_15 ?_
    intro T4 X4 e4
    show own_Fin p e below _ T4 (mkF m 18 #[.val (.ref el), .unset] [(.ref el)])
    refine own_seg (T' := T4) (g' := (mkF m 20 #[.val (.ref el), .val (.ref el)] [(.ref el)])) (fun tg kt => ?_) ?_
    · show Steps p.tables e below (T4.setTop (mkF m 18 #[.val (.ref el), .unset] [(.ref el)])) tg
      refine XS.astoreN X4.here hx rfl (hb hby d11_18) rfl rfl (l' := #[.val (.ref el), .val (.ref el)]) rfl ?_
      show Steps p.tables e below (T4.setTop (mkF m 19 #[.val (.ref el), .val (.ref el)] [])) tg
      refine XS.aloadN X4.here hx rfl (hb hby d11_19) rfl rfl ?_
      exact kt
    refine own_getF K X4 e4 (Or.inr (hw _ (List.mem_of_getElem? (i := 69) rfl))) Via.refl (O_el.get 0 rfl) d11_20 ?_
    intro T5 X5 e5
    show own_Fin p e below _ T5 (mkF m 23 #[.val (.ref el), .val (.ref el)] [(.int (0 : Int32))])
    have hc23 : (0 : Int32) = (0 : Int32) := by decide
    refine own_seg (T' := T5) (g' := (mkF m 26 #[.val (.ref el), .val (.ref el)] [])) (fun tg kt => XS.ifNo X5.here hx rfl (hb hby d11_23) rfl ((if0 _ _).trans (teq hc23).2) kt) ?_
    refine own_seg (T' := T5) (g' := (mkF m 27 #[.val (.ref el), .val (.ref el)] [(.ref el)])) (fun tg kt => ?_) ?_
    · show Steps p.tables e below (T5.setTop (mkF m 26 #[.val (.ref el), .val (.ref el)] [])) tg
      refine XS.aloadN X5.here hx rfl (hb hby d11_26) rfl rfl ?_
      exact kt
    refine own_castY K X5 e5 (hw _ (List.mem_of_getElem? (i := 71) rfl)) (Ins.of_exa O_el.exa (hw _ (List.mem_of_getElem? (i := 72) rfl))) d11_27 ?_
    intro T6 X6 e6
    show own_Fin p e below _ T6 (mkF m 30 #[.val (.ref el), .val (.ref el)] [(.ref el)])
    exact own_retA K rfl X6 rfl d11_30 (⟨rfl, N0, e6⟩) (by decide) (by decide)
theorem own_pn10 : plainName "java/util/List" = true := by first | (simp [plainName, overriddenIn]; done) | decide +kernel
theorem d10_0 : decode jdk_40_method_48_code 0 = .ok (.aload_n 0, 1) := by decide +kernel
theorem d10_1 : decode jdk_40_method_48_code 1 = .ok (.invokestatic 112, 3) := by decide +kernel
theorem own_pd3 : parseMethodDescriptor "(Ljava/util/Collection;)Ljava/util/List;" = some ⟨[(.object "java/util/Collection")], some (.object "java/util/List")⟩ := by decide +kernel
theorem d10_4 : decode jdk_40_method_48_code 4 = .ok (.areturn, 1) := by decide +kernel
set_option maxRecDepth 65536 in
set_option maxHeartbeats 40000000 in
theorem rmC (l : Launch) (Z : State) (a0 : Array Value) (hw : ∀ d ∈ tables_1, d.before a0 Z = true) (el : Addr) (h0 : Heap) (n0 : Nat) (Z0 : n0 ≤ h0.size) (O_el : own_Obj Z h0 el "java/util/ImmutableCollections$ListN" [("java/util/ImmutableCollections$ListN", "allowNulls", "Z", (.int (0 : Int32)))]) :
    own_Met l Z (⟨"java/util/List", "copyOf", "(Ljava/util/Collection;)Ljava/util/List;"⟩ : MethodName) jdk_40_method_48_code 1 (some (.object "java/util/List")) ({ frames := 1, cells := 0, slots := 0, locals := 13 } : Room) #[(.ref el)] h0 (own_QR (.ref el) h0 n0) := by
  refine own_enter (plainFor_of_name own_pn10) (fun m => by first | (simp [entryFrame, mkF, argsToLocals, Value.category, maxLocals]; done) | rfl) (Ls := #[.val (.ref el)]) ?_
  intro p e s m below meth c T0 K X0 e0
  have hx := K.1
  have hZ := K.2.1
  have hby := K.2.2.1
  have hown := K.2.2.2.2.1
  have N0 := Fr.nil n0
  show own_Fin p e below _ T0 (mkF m 0 #[.val (.ref el)] [])
  refine own_seg (T' := T0) (g' := (mkF m 1 #[.val (.ref el)] [(.ref el)])) (fun tg kt => ?_) ?_
  · show Steps p.tables e below (T0.setTop (mkF m 0 #[.val (.ref el)] [])) tg
    refine XS.aloadN X0.here hx rfl (hb hby d10_0) rfl rfl ?_
    exact kt
  refine own_callS K X0 e0 (rmL l Z a0 hw el h0 n0 Z0 O_el) (hw _ (List.mem_of_getElem? (i := 58) rfl)) (hw _ (List.mem_of_getElem? (i := 59) rfl)) (hw _ (List.mem_of_getElem? (i := 37) rfl)) (hw _ (List.mem_of_getElem? (i := 60) rfl)) (by decide) [(.ref el)] [] own_pd3 rfl rfl rfl rfl d10_1 (by decide) (Nat.le_of_ble_eq_true rfl) (by decide) (by decide) ?_
  intro T1 L1 v1 X1 hQ1
  obtain ⟨rfl, Nq1, e1⟩ := hQ1
  have N1 := Fr.app N0 Nq1
  show own_Fin p e below _ T1 (mkF m 4 #[.val (.ref el)] [(.ref el)])
  exact own_retA K rfl X1 rfl d10_4 (⟨rfl, N1, e1⟩) (by decide) (by decide)
theorem own_pn8 : plainName "com/example/murmuration/murmuration/Place" = true := by first | (simp [plainName, overriddenIn]; done) | decide +kernel
theorem d8_0 : decode prog_10_method_4_code 0 = .ok (.aload_n 0, 1) := by decide +kernel
theorem d8_1 : decode prog_10_method_4_code 1 = .ok (.aload_n 1, 1) := by decide +kernel
theorem d8_2 : decode prog_10_method_4_code 2 = .ok (.dload_n 2, 1) := by decide +kernel
theorem d8_3 : decode prog_10_method_4_code 3 = .ok (.dload 4, 2) := by decide +kernel
theorem d8_5 : decode prog_10_method_4_code 5 = .ok (.invokespecial 25, 3) := by decide +kernel
theorem own_pd4 : parseMethodDescriptor "(Ljava/lang/String;DD)V" = some ⟨[(.object "java/lang/String"), .double, .double], none⟩ := by decide +kernel
theorem d8_8 : decode prog_10_method_4_code 8 = .ok (.aload_n 0, 1) := by decide +kernel
theorem d8_9 : decode prog_10_method_4_code 9 = .ok (.dload 6, 2) := by decide +kernel
theorem d8_11 : decode prog_10_method_4_code 11 = .ok (.putfield 30, 3) := by decide +kernel
theorem d8_14 : decode prog_10_method_4_code 14 = .ok (.aload_n 0, 1) := by decide +kernel
theorem d8_15 : decode prog_10_method_4_code 15 = .ok (.aload 8, 2) := by decide +kernel
theorem d8_17 : decode prog_10_method_4_code 17 = .ok (.invokestatic 34, 3) := by decide +kernel
theorem d8_20 : decode prog_10_method_4_code 20 = .ok (.putfield 38, 3) := by decide +kernel
theorem d8_23 : decode prog_10_method_4_code 23 = .ok (.aload_n 0, 1) := by decide +kernel
theorem d8_24 : decode prog_10_method_4_code 24 = .ok (.aload 9, 2) := by decide +kernel
theorem d8_26 : decode prog_10_method_4_code 26 = .ok (.invokestatic 34, 3) := by decide +kernel
theorem d8_29 : decode prog_10_method_4_code 29 = .ok (.putfield 42, 3) := by decide +kernel
theorem d8_32 : decode prog_10_method_4_code 32 = .ok (.aload_n 0, 1) := by decide +kernel
theorem d8_33 : decode prog_10_method_4_code 33 = .ok (.dload 10, 2) := by decide +kernel
theorem d8_35 : decode prog_10_method_4_code 35 = .ok (.putfield 45, 3) := by decide +kernel
theorem d8_38 : decode prog_10_method_4_code 38 = .ok (.aload_n 0, 1) := by decide +kernel
theorem d8_39 : decode prog_10_method_4_code 39 = .ok (.aconst_null, 1) := by decide +kernel
theorem d8_40 : decode prog_10_method_4_code 40 = .ok (.putfield 48, 3) := by decide +kernel
theorem d8_43 : decode prog_10_method_4_code 43 = .ok (.aload_n 0, 1) := by decide +kernel
theorem d8_44 : decode prog_10_method_4_code 44 = .ok (.dconst 0, 1) := by decide +kernel
theorem d8_45 : decode prog_10_method_4_code 45 = .ok (.putfield 52, 3) := by decide +kernel
theorem d8_48 : decode prog_10_method_4_code 48 = .ok (.return_, 1) := by decide +kernel
set_option maxRecDepth 65536 in
set_option maxHeartbeats 40000000 in
theorem rmP4 (l : Launch) (Z : State) (a0 : Array Value) (hw : ∀ d ∈ tables_1, d.before a0 Z = true) (a1 sid el : Addr) (x y z t : UInt64) (h0 : Heap) (n0 : Nat) (Z0 : n0 ≤ h0.size) (f_a1 : n0 ≤ a1) (ne_el_a1 : el ≠ a1) (O_a1 : own_Obj Z h0 a1 "com/example/murmuration/murmuration/Place" [("com/example/murmuration/murmuration/Site", "id", "Ljava/lang/String;", .null), ("com/example/murmuration/murmuration/Site", "first", "D", (.double 0)), ("com/example/murmuration/murmuration/Site", "second", "D", (.double 0)), ("com/example/murmuration/murmuration/Place", "value", "D", (.double 0)), ("com/example/murmuration/murmuration/Place", "needs", "Ljava/util/List;", .null), ("com/example/murmuration/murmuration/Place", "paths", "Ljava/util/List;", .null), ("com/example/murmuration/murmuration/Place", "detect", "D", (.double 0)), ("com/example/murmuration/murmuration/Place", "window", "Lcom/example/murmuration/murmuration/Place$Window;", .null), ("com/example/murmuration/murmuration/Place", "duration", "D", (.double 0))]) (O_el : own_Obj Z h0 el "java/util/ImmutableCollections$ListN" [("java/util/ImmutableCollections$ListN", "allowNulls", "Z", (.int (0 : Int32)))]) :
    own_Met l Z (⟨"com/example/murmuration/murmuration/Place", "<init>", "(Ljava/lang/String;DDDLjava/util/List;Ljava/util/List;D)V"⟩ : MethodName) prog_10_method_4_code 12 none ({ frames := 2, cells := 0, slots := 0, locals := 60 } : Room) #[(.ref a1), (.ref sid), (.double x), (.double y), (.double z), (.ref el), (.ref el), (.double t)] h0 (QP Z a1 [("com/example/murmuration/murmuration/Site", "id", "Ljava/lang/String;", (.ref sid)), ("com/example/murmuration/murmuration/Site", "first", "D", (.double x)), ("com/example/murmuration/murmuration/Site", "second", "D", (.double y)), ("com/example/murmuration/murmuration/Place", "value", "D", (.double z)), ("com/example/murmuration/murmuration/Place", "needs", "Ljava/util/List;", (.ref el)), ("com/example/murmuration/murmuration/Place", "paths", "Ljava/util/List;", (.ref el)), ("com/example/murmuration/murmuration/Place", "detect", "D", (.double t)), ("com/example/murmuration/murmuration/Place", "window", "Lcom/example/murmuration/murmuration/Place$Window;", .null), ("com/example/murmuration/murmuration/Place", "duration", "D", (.double 0))] h0 n0) := by
  refine own_enter (plainFor_of_name own_pn8) (fun m => by first | (simp [entryFrame, mkF, argsToLocals, Value.category, maxLocals]; done) | rfl) (Ls := #[.val (.ref a1), .val (.ref sid), .val (.double x), .second, .val (.double y), .second, .val (.double z), .second, .val (.ref el), .val (.ref el), .val (.double t), .second]) ?_
  intro p e s m below meth c T0 K X0 e0
  have hx := K.1
  have hZ := K.2.1
  have hby := K.2.2.1
  have hown := K.2.2.2.2.1
  have N0 := Fr.nil n0
  have K0 : Keep h0 h0 [a1] := Keep.refl _ _
  show own_Fin p e below _ T0 (mkF m 0 #[.val (.ref a1), .val (.ref sid), .val (.double x), .second, .val (.double y), .second, .val (.double z), .second, .val (.ref el), .val (.ref el), .val (.double t), .second] [])
  refine own_seg (T' := T0) (g' := (mkF m 5 #[.val (.ref a1), .val (.ref sid), .val (.double x), .second, .val (.double y), .second, .val (.double z), .second, .val (.ref el), .val (.ref el), .val (.double t), .second] [(.double y), (.double x), (.ref sid), (.ref a1)])) (fun tg kt => ?_) ?_
  · show Steps p.tables e below (T0.setTop (mkF m 0 #[.val (.ref a1), .val (.ref sid), .val (.double x), .second, .val (.double y), .second, .val (.double z), .second, .val (.ref el), .val (.ref el), .val (.double t), .second] [])) tg
    refine XS.aloadN X0.here hx rfl (hb hby d8_0) rfl rfl ?_
    show Steps p.tables e below (T0.setTop (mkF m 1 #[.val (.ref a1), .val (.ref sid), .val (.double x), .second, .val (.double y), .second, .val (.double z), .second, .val (.ref el), .val (.ref el), .val (.double t), .second] [(.ref a1)])) tg
    refine XS.aloadN X0.here hx rfl (hb hby d8_1) rfl rfl ?_
    show Steps p.tables e below (T0.setTop (mkF m 2 #[.val (.ref a1), .val (.ref sid), .val (.double x), .second, .val (.double y), .second, .val (.double z), .second, .val (.ref el), .val (.ref el), .val (.double t), .second] [(.ref sid), (.ref a1)])) tg
    refine own_dloadN X0.here hx rfl (hb hby d8_2) rfl ?_
    show Steps p.tables e below (T0.setTop (mkF m 3 #[.val (.ref a1), .val (.ref sid), .val (.double x), .second, .val (.double y), .second, .val (.double z), .second, .val (.ref el), .val (.ref el), .val (.double t), .second] [(.double x), (.ref sid), (.ref a1)])) tg
    refine own_dload X0.here hx rfl (hb hby d8_3) rfl ?_
    exact kt
  refine own_callI K X0 e0 (rmSi l Z a0 hw a1 sid x y h0 n0 Z0 f_a1 O_a1) rfl (hw _ (List.mem_of_getElem? (i := 41) rfl)) (hw _ (List.mem_of_getElem? (i := 42) rfl)) (hw _ (List.mem_of_getElem? (i := 44) rfl)) (hw _ (List.mem_of_getElem? (i := 45) rfl)) (by decide) a1 [(.ref sid), (.double x), (.double y)] [] own_pd4 rfl rfl rfl rfl d8_5 (by decide) (Nat.le_of_ble_eq_true rfl) (by decide) (by decide) ?_
  intro T1 L1 v1 X1 hQ1
  obtain ⟨h1, e1⟩ : ∃ z, T1.heap = z := ⟨_, rfl⟩
  rw [e1] at hQ1
  obtain ⟨rfl, Nq1, Kq1, Oq1_a1⟩ := hQ1
  have N1 := Fr.app N0 Nq1
  have O_el_1 : own_Obj Z h1 el "java/util/ImmutableCollections$ListN" [("java/util/ImmutableCollections$ListN", "allowNulls", "Z", (.int (0 : Int32)))] := O_el.keep Kq1 (ninS ne_el_a1 nin0)
  have Z1 : n0 ≤ h1.size := Nat.le_trans Z0 Kq1.1
  have K1 := Keep.trans K0 Kq1 (allS (Or.inl (List.mem_of_getElem? (i := 0) rfl)) all0)
  show own_Fin p e below _ T1 (mkF m 8 #[.val (.ref a1), .val (.ref sid), .val (.double x), .second, .val (.double y), .second, .val (.double z), .second, .val (.ref el), .val (.ref el), .val (.double t), .second] [])
  refine own_seg (T' := T1) (g' := (mkF m 11 #[.val (.ref a1), .val (.ref sid), .val (.double x), .second, .val (.double y), .second, .val (.double z), .second, .val (.ref el), .val (.ref el), .val (.double t), .second] [(.double z), (.ref a1)])) (fun tg kt => ?_) ?_
  · show Steps p.tables e below (T1.setTop (mkF m 8 #[.val (.ref a1), .val (.ref sid), .val (.double x), .second, .val (.double y), .second, .val (.double z), .second, .val (.ref el), .val (.ref el), .val (.double t), .second] [])) tg
    refine XS.aloadN X1.here hx rfl (hb hby d8_8) rfl rfl ?_
    show Steps p.tables e below (T1.setTop (mkF m 9 #[.val (.ref a1), .val (.ref sid), .val (.double x), .second, .val (.double y), .second, .val (.double z), .second, .val (.ref el), .val (.ref el), .val (.double t), .second] [(.ref a1)])) tg
    refine own_dload X1.here hx rfl (hb hby d8_9) rfl ?_
    exact kt
  refine own_putF K X1 e1 (host := "") (Or.inl (hw _ (List.mem_of_getElem? (i := 53) rfl))) Via.refl (Oq1_a1.get 3 rfl) Oq1_a1.exa (Or.inr ⟨(hw _ (List.mem_of_getElem? (i := 54) rfl)), rfl, rfl⟩) (hw _ (List.mem_of_getElem? (i := 27) rfl)) (ty := .double) (by decide) rfl rfl d8_11 ?_
  intro T2 h2 X2 e2 W2
  have O_el_2 : own_Obj Z h2 el "java/util/ImmutableCollections$ListN" [("java/util/ImmutableCollections$ListN", "allowNulls", "Z", (.int (0 : Int32)))] := O_el_1.other W2 ne_el_a1
  have O_a1_2 : own_Obj Z h2 a1 "com/example/murmuration/murmuration/Place" [("com/example/murmuration/murmuration/Site", "id", "Ljava/lang/String;", (.ref sid)), ("com/example/murmuration/murmuration/Site", "first", "D", (.double x)), ("com/example/murmuration/murmuration/Site", "second", "D", (.double y)), ("com/example/murmuration/murmuration/Place", "value", "D", (.double z)), ("com/example/murmuration/murmuration/Place", "needs", "Ljava/util/List;", .null), ("com/example/murmuration/murmuration/Place", "paths", "Ljava/util/List;", .null), ("com/example/murmuration/murmuration/Place", "detect", "D", (.double 0)), ("com/example/murmuration/murmuration/Place", "window", "Lcom/example/murmuration/murmuration/Place$Window;", .null), ("com/example/murmuration/murmuration/Place", "duration", "D", (.double 0))] := Oq1_a1.put (own_lay_Place hw) rfl own_nd_Place 3 rfl W2
  have Z2 : n0 ≤ h2.size := by rw [Wr.size W2]; exact Z1
  have N2 := Fr.snoc X2 N1 f_a1
  have K2 := K1.wr W2 (Or.inl (List.mem_of_getElem? (i := 0) rfl))
  show own_Fin p e below _ T2 (mkF m 14 #[.val (.ref a1), .val (.ref sid), .val (.double x), .second, .val (.double y), .second, .val (.double z), .second, .val (.ref el), .val (.ref el), .val (.double t), .second] [])
  refine own_seg (T' := T2) (g' := (mkF m 17 #[.val (.ref a1), .val (.ref sid), .val (.double x), .second, .val (.double y), .second, .val (.double z), .second, .val (.ref el), .val (.ref el), .val (.double t), .second] [(.ref el), (.ref a1)])) (fun tg kt => ?_) ?_
  · show Steps p.tables e below (T2.setTop (mkF m 14 #[.val (.ref a1), .val (.ref sid), .val (.double x), .second, .val (.double y), .second, .val (.double z), .second, .val (.ref el), .val (.ref el), .val (.double t), .second] [])) tg
    refine XS.aloadN X2.here hx rfl (hb hby d8_14) rfl rfl ?_
    show Steps p.tables e below (T2.setTop (mkF m 15 #[.val (.ref a1), .val (.ref sid), .val (.double x), .second, .val (.double y), .second, .val (.double z), .second, .val (.ref el), .val (.ref el), .val (.double t), .second] [(.ref a1)])) tg
    refine XS.aload X2.here hx rfl (hb hby d8_15) rfl rfl ?_
    exact kt
  refine own_callS K X2 e2 (rmC l Z a0 hw el h2 n0 Z2 O_el_2) (hw _ (List.mem_of_getElem? (i := 55) rfl)) (hw _ (List.mem_of_getElem? (i := 56) rfl)) (hw _ (List.mem_of_getElem? (i := 34) rfl)) (hw _ (List.mem_of_getElem? (i := 57) rfl)) (by decide) [(.ref el)] [(.ref a1)] own_pd3 rfl rfl rfl rfl d8_17 (by decide) (Nat.le_of_ble_eq_true rfl) (by decide) (by decide) ?_
  intro T3 L3 v3 X3 hQ3
  obtain ⟨rfl, Nq3, e3⟩ := hQ3
  have N3 := Fr.app N2 Nq3
  show own_Fin p e below _ T3 (mkF m 20 #[.val (.ref a1), .val (.ref sid), .val (.double x), .second, .val (.double y), .second, .val (.double z), .second, .val (.ref el), .val (.ref el), .val (.double t), .second] [(.ref el), (.ref a1)])
  refine own_putF K X3 e3 (host := "") (Or.inl (hw _ (List.mem_of_getElem? (i := 73) rfl))) Via.refl (O_a1_2.get 4 rfl) O_a1_2.exa (Or.inr ⟨(hw _ (List.mem_of_getElem? (i := 74) rfl)), rfl, rfl⟩) (hw _ (List.mem_of_getElem? (i := 27) rfl)) (ty := (.object "java/util/List")) (by decide) rfl rfl d8_20 ?_
  intro T4 h4 X4 e4 W4
  have O_el_4 : own_Obj Z h4 el "java/util/ImmutableCollections$ListN" [("java/util/ImmutableCollections$ListN", "allowNulls", "Z", (.int (0 : Int32)))] := O_el_2.other W4 ne_el_a1
  have O_a1_4 : own_Obj Z h4 a1 "com/example/murmuration/murmuration/Place" [("com/example/murmuration/murmuration/Site", "id", "Ljava/lang/String;", (.ref sid)), ("com/example/murmuration/murmuration/Site", "first", "D", (.double x)), ("com/example/murmuration/murmuration/Site", "second", "D", (.double y)), ("com/example/murmuration/murmuration/Place", "value", "D", (.double z)), ("com/example/murmuration/murmuration/Place", "needs", "Ljava/util/List;", (.ref el)), ("com/example/murmuration/murmuration/Place", "paths", "Ljava/util/List;", .null), ("com/example/murmuration/murmuration/Place", "detect", "D", (.double 0)), ("com/example/murmuration/murmuration/Place", "window", "Lcom/example/murmuration/murmuration/Place$Window;", .null), ("com/example/murmuration/murmuration/Place", "duration", "D", (.double 0))] := O_a1_2.put (own_lay_Place hw) rfl own_nd_Place 4 rfl W4
  have Z4 : n0 ≤ h4.size := by rw [Wr.size W4]; exact Z2
  have N4 := Fr.snoc X4 N3 f_a1
  have K4 := K2.wr W4 (Or.inl (List.mem_of_getElem? (i := 0) rfl))
  show own_Fin p e below _ T4 (mkF m 23 #[.val (.ref a1), .val (.ref sid), .val (.double x), .second, .val (.double y), .second, .val (.double z), .second, .val (.ref el), .val (.ref el), .val (.double t), .second] [])
  refine own_seg (T' := T4) (g' := (mkF m 26 #[.val (.ref a1), .val (.ref sid), .val (.double x), .second, .val (.double y), .second, .val (.double z), .second, .val (.ref el), .val (.ref el), .val (.double t), .second] [(.ref el), (.ref a1)])) (fun tg kt => ?_) ?_
  · show Steps p.tables e below (T4.setTop (mkF m 23 #[.val (.ref a1), .val (.ref sid), .val (.double x), .second, .val (.double y), .second, .val (.double z), .second, .val (.ref el), .val (.ref el), .val (.double t), .second] [])) tg
    refine XS.aloadN X4.here hx rfl (hb hby d8_23) rfl rfl ?_
    show Steps p.tables e below (T4.setTop (mkF m 24 #[.val (.ref a1), .val (.ref sid), .val (.double x), .second, .val (.double y), .second, .val (.double z), .second, .val (.ref el), .val (.ref el), .val (.double t), .second] [(.ref a1)])) tg
    refine XS.aload X4.here hx rfl (hb hby d8_24) rfl rfl ?_
    exact kt
  refine own_callS K X4 e4 (rmC l Z a0 hw el h4 n0 Z4 O_el_4) (hw _ (List.mem_of_getElem? (i := 55) rfl)) (hw _ (List.mem_of_getElem? (i := 56) rfl)) (hw _ (List.mem_of_getElem? (i := 34) rfl)) (hw _ (List.mem_of_getElem? (i := 57) rfl)) (by decide) [(.ref el)] [(.ref a1)] own_pd3 rfl rfl rfl rfl d8_26 (by decide) (Nat.le_of_ble_eq_true rfl) (by decide) (by decide) ?_
  intro T5 L5 v5 X5 hQ5
  obtain ⟨rfl, Nq5, e5⟩ := hQ5
  have N5 := Fr.app N4 Nq5
  show own_Fin p e below _ T5 (mkF m 29 #[.val (.ref a1), .val (.ref sid), .val (.double x), .second, .val (.double y), .second, .val (.double z), .second, .val (.ref el), .val (.ref el), .val (.double t), .second] [(.ref el), (.ref a1)])
  refine own_putF K X5 e5 (host := "") (Or.inl (hw _ (List.mem_of_getElem? (i := 75) rfl))) Via.refl (O_a1_4.get 5 rfl) O_a1_4.exa (Or.inr ⟨(hw _ (List.mem_of_getElem? (i := 76) rfl)), rfl, rfl⟩) (hw _ (List.mem_of_getElem? (i := 27) rfl)) (ty := (.object "java/util/List")) (by decide) rfl rfl d8_29 ?_
  intro T6 h6 X6 e6 W6
  have O_el_6 : own_Obj Z h6 el "java/util/ImmutableCollections$ListN" [("java/util/ImmutableCollections$ListN", "allowNulls", "Z", (.int (0 : Int32)))] := O_el_4.other W6 ne_el_a1
  have O_a1_6 : own_Obj Z h6 a1 "com/example/murmuration/murmuration/Place" [("com/example/murmuration/murmuration/Site", "id", "Ljava/lang/String;", (.ref sid)), ("com/example/murmuration/murmuration/Site", "first", "D", (.double x)), ("com/example/murmuration/murmuration/Site", "second", "D", (.double y)), ("com/example/murmuration/murmuration/Place", "value", "D", (.double z)), ("com/example/murmuration/murmuration/Place", "needs", "Ljava/util/List;", (.ref el)), ("com/example/murmuration/murmuration/Place", "paths", "Ljava/util/List;", (.ref el)), ("com/example/murmuration/murmuration/Place", "detect", "D", (.double 0)), ("com/example/murmuration/murmuration/Place", "window", "Lcom/example/murmuration/murmuration/Place$Window;", .null), ("com/example/murmuration/murmuration/Place", "duration", "D", (.double 0))] := O_a1_4.put (own_lay_Place hw) rfl own_nd_Place 5 rfl W6
  have Z6 : n0 ≤ h6.size := by rw [Wr.size W6]; exact Z4
  have N6 := Fr.snoc X6 N5 f_a1
  have K6 := K4.wr W6 (Or.inl (List.mem_of_getElem? (i := 0) rfl))
  show own_Fin p e below _ T6 (mkF m 32 #[.val (.ref a1), .val (.ref sid), .val (.double x), .second, .val (.double y), .second, .val (.double z), .second, .val (.ref el), .val (.ref el), .val (.double t), .second] [])
  refine own_seg (T' := T6) (g' := (mkF m 35 #[.val (.ref a1), .val (.ref sid), .val (.double x), .second, .val (.double y), .second, .val (.double z), .second, .val (.ref el), .val (.ref el), .val (.double t), .second] [(.double t), (.ref a1)])) (fun tg kt => ?_) ?_
  · show Steps p.tables e below (T6.setTop (mkF m 32 #[.val (.ref a1), .val (.ref sid), .val (.double x), .second, .val (.double y), .second, .val (.double z), .second, .val (.ref el), .val (.ref el), .val (.double t), .second] [])) tg
    refine XS.aloadN X6.here hx rfl (hb hby d8_32) rfl rfl ?_
    show Steps p.tables e below (T6.setTop (mkF m 33 #[.val (.ref a1), .val (.ref sid), .val (.double x), .second, .val (.double y), .second, .val (.double z), .second, .val (.ref el), .val (.ref el), .val (.double t), .second] [(.ref a1)])) tg
    refine own_dload X6.here hx rfl (hb hby d8_33) rfl ?_
    exact kt
  refine own_putF K X6 e6 (host := "") (Or.inl (hw _ (List.mem_of_getElem? (i := 77) rfl))) Via.refl (O_a1_6.get 6 rfl) O_a1_6.exa (Or.inr ⟨(hw _ (List.mem_of_getElem? (i := 78) rfl)), rfl, rfl⟩) (hw _ (List.mem_of_getElem? (i := 27) rfl)) (ty := .double) (by decide) rfl rfl d8_35 ?_
  intro T7 h7 X7 e7 W7
  have O_el_7 : own_Obj Z h7 el "java/util/ImmutableCollections$ListN" [("java/util/ImmutableCollections$ListN", "allowNulls", "Z", (.int (0 : Int32)))] := O_el_6.other W7 ne_el_a1
  have O_a1_7 : own_Obj Z h7 a1 "com/example/murmuration/murmuration/Place" [("com/example/murmuration/murmuration/Site", "id", "Ljava/lang/String;", (.ref sid)), ("com/example/murmuration/murmuration/Site", "first", "D", (.double x)), ("com/example/murmuration/murmuration/Site", "second", "D", (.double y)), ("com/example/murmuration/murmuration/Place", "value", "D", (.double z)), ("com/example/murmuration/murmuration/Place", "needs", "Ljava/util/List;", (.ref el)), ("com/example/murmuration/murmuration/Place", "paths", "Ljava/util/List;", (.ref el)), ("com/example/murmuration/murmuration/Place", "detect", "D", (.double t)), ("com/example/murmuration/murmuration/Place", "window", "Lcom/example/murmuration/murmuration/Place$Window;", .null), ("com/example/murmuration/murmuration/Place", "duration", "D", (.double 0))] := O_a1_6.put (own_lay_Place hw) rfl own_nd_Place 6 rfl W7
  have Z7 : n0 ≤ h7.size := by rw [Wr.size W7]; exact Z6
  have N7 := Fr.snoc X7 N6 f_a1
  have K7 := K6.wr W7 (Or.inl (List.mem_of_getElem? (i := 0) rfl))
  show own_Fin p e below _ T7 (mkF m 38 #[.val (.ref a1), .val (.ref sid), .val (.double x), .second, .val (.double y), .second, .val (.double z), .second, .val (.ref el), .val (.ref el), .val (.double t), .second] [])
  refine own_seg (T' := T7) (g' := (mkF m 40 #[.val (.ref a1), .val (.ref sid), .val (.double x), .second, .val (.double y), .second, .val (.double z), .second, .val (.ref el), .val (.ref el), .val (.double t), .second] [.null, (.ref a1)])) (fun tg kt => ?_) ?_
  · show Steps p.tables e below (T7.setTop (mkF m 38 #[.val (.ref a1), .val (.ref sid), .val (.double x), .second, .val (.double y), .second, .val (.double z), .second, .val (.ref el), .val (.ref el), .val (.double t), .second] [])) tg
    refine XS.aloadN X7.here hx rfl (hb hby d8_38) rfl rfl ?_
    show Steps p.tables e below (T7.setTop (mkF m 39 #[.val (.ref a1), .val (.ref sid), .val (.double x), .second, .val (.double y), .second, .val (.double z), .second, .val (.ref el), .val (.ref el), .val (.double t), .second] [(.ref a1)])) tg
    refine XS.aconstNull X7.here hx rfl (hb hby d8_39) ?_
    exact kt
  refine own_putF K X7 e7 (host := "") (Or.inl (hw _ (List.mem_of_getElem? (i := 79) rfl))) Via.refl (O_a1_7.get 7 rfl) O_a1_7.exa (Or.inr ⟨(hw _ (List.mem_of_getElem? (i := 80) rfl)), rfl, rfl⟩) (hw _ (List.mem_of_getElem? (i := 27) rfl)) (ty := (.object "com/example/murmuration/murmuration/Place$Window")) (by decide) rfl rfl d8_40 ?_
  intro T8 h8 X8 e8 W8
  have O_el_8 : own_Obj Z h8 el "java/util/ImmutableCollections$ListN" [("java/util/ImmutableCollections$ListN", "allowNulls", "Z", (.int (0 : Int32)))] := O_el_7.other W8 ne_el_a1
  have O_a1_8 : own_Obj Z h8 a1 "com/example/murmuration/murmuration/Place" [("com/example/murmuration/murmuration/Site", "id", "Ljava/lang/String;", (.ref sid)), ("com/example/murmuration/murmuration/Site", "first", "D", (.double x)), ("com/example/murmuration/murmuration/Site", "second", "D", (.double y)), ("com/example/murmuration/murmuration/Place", "value", "D", (.double z)), ("com/example/murmuration/murmuration/Place", "needs", "Ljava/util/List;", (.ref el)), ("com/example/murmuration/murmuration/Place", "paths", "Ljava/util/List;", (.ref el)), ("com/example/murmuration/murmuration/Place", "detect", "D", (.double t)), ("com/example/murmuration/murmuration/Place", "window", "Lcom/example/murmuration/murmuration/Place$Window;", .null), ("com/example/murmuration/murmuration/Place", "duration", "D", (.double 0))] := O_a1_7.put (own_lay_Place hw) rfl own_nd_Place 7 rfl W8
  have Z8 : n0 ≤ h8.size := by rw [Wr.size W8]; exact Z7
  have N8 := Fr.snoc X8 N7 f_a1
  have K8 := K7.wr W8 (Or.inl (List.mem_of_getElem? (i := 0) rfl))
  show own_Fin p e below _ T8 (mkF m 43 #[.val (.ref a1), .val (.ref sid), .val (.double x), .second, .val (.double y), .second, .val (.double z), .second, .val (.ref el), .val (.ref el), .val (.double t), .second] [])
  refine own_seg (T' := T8) (g' := (mkF m 45 #[.val (.ref a1), .val (.ref sid), .val (.double x), .second, .val (.double y), .second, .val (.double z), .second, .val (.ref el), .val (.ref el), .val (.double t), .second] [(.double 0), (.ref a1)])) (fun tg kt => ?_) ?_
  · show Steps p.tables e below (T8.setTop (mkF m 43 #[.val (.ref a1), .val (.ref sid), .val (.double x), .second, .val (.double y), .second, .val (.double z), .second, .val (.ref el), .val (.ref el), .val (.double t), .second] [])) tg
    refine XS.aloadN X8.here hx rfl (hb hby d8_43) rfl rfl ?_
    show Steps p.tables e below (T8.setTop (mkF m 44 #[.val (.ref a1), .val (.ref sid), .val (.double x), .second, .val (.double y), .second, .val (.double z), .second, .val (.ref el), .val (.ref el), .val (.double t), .second] [(.ref a1)])) tg
    refine own_dconst0 X8.here hx rfl (hb hby d8_44) ?_
    exact kt
  refine own_putF K X8 e8 (host := "") (Or.inl (hw _ (List.mem_of_getElem? (i := 81) rfl))) Via.refl (O_a1_8.get 8 rfl) O_a1_8.exa (Or.inr ⟨(hw _ (List.mem_of_getElem? (i := 82) rfl)), rfl, rfl⟩) (hw _ (List.mem_of_getElem? (i := 27) rfl)) (ty := .double) (by decide) rfl rfl d8_45 ?_
  intro T9 h9 X9 e9 W9
  have O_el_9 : own_Obj Z h9 el "java/util/ImmutableCollections$ListN" [("java/util/ImmutableCollections$ListN", "allowNulls", "Z", (.int (0 : Int32)))] := O_el_8.other W9 ne_el_a1
  have O_a1_9 : own_Obj Z h9 a1 "com/example/murmuration/murmuration/Place" [("com/example/murmuration/murmuration/Site", "id", "Ljava/lang/String;", (.ref sid)), ("com/example/murmuration/murmuration/Site", "first", "D", (.double x)), ("com/example/murmuration/murmuration/Site", "second", "D", (.double y)), ("com/example/murmuration/murmuration/Place", "value", "D", (.double z)), ("com/example/murmuration/murmuration/Place", "needs", "Ljava/util/List;", (.ref el)), ("com/example/murmuration/murmuration/Place", "paths", "Ljava/util/List;", (.ref el)), ("com/example/murmuration/murmuration/Place", "detect", "D", (.double t)), ("com/example/murmuration/murmuration/Place", "window", "Lcom/example/murmuration/murmuration/Place$Window;", .null), ("com/example/murmuration/murmuration/Place", "duration", "D", (.double 0))] := O_a1_8.put (own_lay_Place hw) rfl own_nd_Place 8 rfl W9
  have Z9 : n0 ≤ h9.size := by rw [Wr.size W9]; exact Z8
  have N9 := Fr.snoc X9 N8 f_a1
  have K9 := K8.wr W9 (Or.inl (List.mem_of_getElem? (i := 0) rfl))
  show own_Fin p e below _ T9 (mkF m 48 #[.val (.ref a1), .val (.ref sid), .val (.double x), .second, .val (.double y), .second, .val (.double z), .second, .val (.ref el), .val (.ref el), .val (.double t), .second] [])
  exact own_retV K X9 d8_48 (by rw [e9]; exact ⟨rfl, N9, K9, O_a1_9⟩) (by decide) (by decide)
theorem own_pn6 : plainName "com/example/murmuration/murmuration/Place" = true := by first | (simp [plainName, overriddenIn]; done) | decide +kernel
theorem d6_0 : decode prog_10_method_1_code 0 = .ok (.aload_n 0, 1) := by decide +kernel
theorem d6_1 : decode prog_10_method_1_code 1 = .ok (.aload_n 1, 1) := by decide +kernel
theorem d6_2 : decode prog_10_method_1_code 2 = .ok (.dload_n 2, 1) := by decide +kernel
theorem d6_3 : decode prog_10_method_1_code 3 = .ok (.dload 4, 2) := by decide +kernel
theorem d6_5 : decode prog_10_method_1_code 5 = .ok (.dload 6, 2) := by decide +kernel
theorem d6_7 : decode prog_10_method_1_code 7 = .ok (.invokestatic 1, 3) := by decide +kernel
theorem own_pd5 : parseMethodDescriptor "()Ljava/util/List;" = some ⟨[], some (.object "java/util/List")⟩ := by decide +kernel
theorem d6_10 : decode prog_10_method_1_code 10 = .ok (.invokestatic 1, 3) := by decide +kernel
theorem d6_13 : decode prog_10_method_1_code 13 = .ok (.dconst 0, 1) := by decide +kernel
theorem d6_14 : decode prog_10_method_1_code 14 = .ok (.invokespecial 7, 3) := by decide +kernel
theorem own_pd6 : parseMethodDescriptor "(Ljava/lang/String;DDDLjava/util/List;Ljava/util/List;D)V" = some ⟨[(.object "java/lang/String"), .double, .double, .double, (.object "java/util/List"), (.object "java/util/List"), .double], none⟩ := by decide +kernel
theorem d6_17 : decode prog_10_method_1_code 17 = .ok (.return_, 1) := by decide +kernel
set_option maxRecDepth 65536 in
set_option maxHeartbeats 40000000 in
theorem rmP1 (l : Launch) (Z : State) (a0 : Array Value) (hw : ∀ d ∈ tables_1, d.before a0 Z = true) (a1 sid el : Addr) (x y z : UInt64) (h0 : Heap) (n0 : Nat) (Z0 : n0 ≤ h0.size) (S_el : Sta Z h0 "java/util/ImmutableCollections" "EMPTY_LIST" "Ljava/util/ImmutableCollections$ListN;" (.ref el)) (f_a1 : n0 ≤ a1) (ne_el_a1 : el ≠ a1) (O_a1 : own_Obj Z h0 a1 "com/example/murmuration/murmuration/Place" [("com/example/murmuration/murmuration/Site", "id", "Ljava/lang/String;", .null), ("com/example/murmuration/murmuration/Site", "first", "D", (.double 0)), ("com/example/murmuration/murmuration/Site", "second", "D", (.double 0)), ("com/example/murmuration/murmuration/Place", "value", "D", (.double 0)), ("com/example/murmuration/murmuration/Place", "needs", "Ljava/util/List;", .null), ("com/example/murmuration/murmuration/Place", "paths", "Ljava/util/List;", .null), ("com/example/murmuration/murmuration/Place", "detect", "D", (.double 0)), ("com/example/murmuration/murmuration/Place", "window", "Lcom/example/murmuration/murmuration/Place$Window;", .null), ("com/example/murmuration/murmuration/Place", "duration", "D", (.double 0))]) (O_el : own_Obj Z h0 el "java/util/ImmutableCollections$ListN" [("java/util/ImmutableCollections$ListN", "allowNulls", "Z", (.int (0 : Int32)))]) :
    own_Met l Z (⟨"com/example/murmuration/murmuration/Place", "<init>", "(Ljava/lang/String;DDD)V"⟩ : MethodName) prog_10_method_1_code 8 none ({ frames := 3, cells := 0, slots := 0, locals := 100 } : Room) #[(.ref a1), (.ref sid), (.double x), (.double y), (.double z)] h0 (QP Z a1 [("com/example/murmuration/murmuration/Site", "id", "Ljava/lang/String;", (.ref sid)), ("com/example/murmuration/murmuration/Site", "first", "D", (.double x)), ("com/example/murmuration/murmuration/Site", "second", "D", (.double y)), ("com/example/murmuration/murmuration/Place", "value", "D", (.double z)), ("com/example/murmuration/murmuration/Place", "needs", "Ljava/util/List;", (.ref el)), ("com/example/murmuration/murmuration/Place", "paths", "Ljava/util/List;", (.ref el)), ("com/example/murmuration/murmuration/Place", "detect", "D", (.double 0)), ("com/example/murmuration/murmuration/Place", "window", "Lcom/example/murmuration/murmuration/Place$Window;", .null), ("com/example/murmuration/murmuration/Place", "duration", "D", (.double 0))] h0 n0) := by
  refine own_enter (plainFor_of_name own_pn6) (fun m => by first | (simp [entryFrame, mkF, argsToLocals, Value.category, maxLocals]; done) | rfl) (Ls := #[.val (.ref a1), .val (.ref sid), .val (.double x), .second, .val (.double y), .second, .val (.double z), .second]) ?_
  intro p e s m below meth c T0 K X0 e0
  have hx := K.1
  have hZ := K.2.1
  have hby := K.2.2.1
  have hown := K.2.2.2.2.1
  have N0 := Fr.nil n0
  have K0 : Keep h0 h0 [a1] := Keep.refl _ _
  show own_Fin p e below _ T0 (mkF m 0 #[.val (.ref a1), .val (.ref sid), .val (.double x), .second, .val (.double y), .second, .val (.double z), .second] [])
  refine own_seg (T' := T0) (g' := (mkF m 7 #[.val (.ref a1), .val (.ref sid), .val (.double x), .second, .val (.double y), .second, .val (.double z), .second] [(.double z), (.double y), (.double x), (.ref sid), (.ref a1)])) (fun tg kt => ?_) ?_
  · show Steps p.tables e below (T0.setTop (mkF m 0 #[.val (.ref a1), .val (.ref sid), .val (.double x), .second, .val (.double y), .second, .val (.double z), .second] [])) tg
    refine XS.aloadN X0.here hx rfl (hb hby d6_0) rfl rfl ?_
    show Steps p.tables e below (T0.setTop (mkF m 1 #[.val (.ref a1), .val (.ref sid), .val (.double x), .second, .val (.double y), .second, .val (.double z), .second] [(.ref a1)])) tg
    refine XS.aloadN X0.here hx rfl (hb hby d6_1) rfl rfl ?_
    show Steps p.tables e below (T0.setTop (mkF m 2 #[.val (.ref a1), .val (.ref sid), .val (.double x), .second, .val (.double y), .second, .val (.double z), .second] [(.ref sid), (.ref a1)])) tg
    refine own_dloadN X0.here hx rfl (hb hby d6_2) rfl ?_
    show Steps p.tables e below (T0.setTop (mkF m 3 #[.val (.ref a1), .val (.ref sid), .val (.double x), .second, .val (.double y), .second, .val (.double z), .second] [(.double x), (.ref sid), (.ref a1)])) tg
    refine own_dload X0.here hx rfl (hb hby d6_3) rfl ?_
    show Steps p.tables e below (T0.setTop (mkF m 5 #[.val (.ref a1), .val (.ref sid), .val (.double x), .second, .val (.double y), .second, .val (.double z), .second] [(.double y), (.double x), (.ref sid), (.ref a1)])) tg
    refine own_dload X0.here hx rfl (hb hby d6_5) rfl ?_
    exact kt
  refine own_callS K X0 e0 (rmO l Z a0 hw el h0 n0 Z0 S_el) (hw _ (List.mem_of_getElem? (i := 32) rfl)) (hw _ (List.mem_of_getElem? (i := 33) rfl)) (hw _ (List.mem_of_getElem? (i := 34) rfl)) (hw _ (List.mem_of_getElem? (i := 35) rfl)) (by decide) [] [(.double z), (.double y), (.double x), (.ref sid), (.ref a1)] own_pd5 rfl rfl rfl rfl d6_7 (by decide) (Nat.le_of_ble_eq_true rfl) (by decide) (by decide) ?_
  intro T1 L1 v1 X1 hQ1
  obtain ⟨rfl, Nq1, e1⟩ := hQ1
  have N1 := Fr.app N0 Nq1
  show own_Fin p e below _ T1 (mkF m 10 #[.val (.ref a1), .val (.ref sid), .val (.double x), .second, .val (.double y), .second, .val (.double z), .second] [(.ref el), (.double z), (.double y), (.double x), (.ref sid), (.ref a1)])
  refine own_callS K X1 e1 (rmO l Z a0 hw el h0 n0 Z0 S_el) (hw _ (List.mem_of_getElem? (i := 32) rfl)) (hw _ (List.mem_of_getElem? (i := 33) rfl)) (hw _ (List.mem_of_getElem? (i := 34) rfl)) (hw _ (List.mem_of_getElem? (i := 35) rfl)) (by decide) [] [(.ref el), (.double z), (.double y), (.double x), (.ref sid), (.ref a1)] own_pd5 rfl rfl rfl rfl d6_10 (by decide) (Nat.le_of_ble_eq_true rfl) (by decide) (by decide) ?_
  intro T2 L2 v2 X2 hQ2
  obtain ⟨rfl, Nq2, e2⟩ := hQ2
  have N2 := Fr.app N1 Nq2
  show own_Fin p e below _ T2 (mkF m 13 #[.val (.ref a1), .val (.ref sid), .val (.double x), .second, .val (.double y), .second, .val (.double z), .second] [(.ref el), (.ref el), (.double z), (.double y), (.double x), (.ref sid), (.ref a1)])
  refine own_seg (T' := T2) (g' := (mkF m 14 #[.val (.ref a1), .val (.ref sid), .val (.double x), .second, .val (.double y), .second, .val (.double z), .second] [(.double 0), (.ref el), (.ref el), (.double z), (.double y), (.double x), (.ref sid), (.ref a1)])) (fun tg kt => ?_) ?_
  · show Steps p.tables e below (T2.setTop (mkF m 13 #[.val (.ref a1), .val (.ref sid), .val (.double x), .second, .val (.double y), .second, .val (.double z), .second] [(.ref el), (.ref el), (.double z), (.double y), (.double x), (.ref sid), (.ref a1)])) tg
    refine own_dconst0 X2.here hx rfl (hb hby d6_13) ?_
    exact kt
  refine own_callI K X2 e2 (rmP4 l Z a0 hw a1 sid el x y z 0 h0 n0 Z0 f_a1 ne_el_a1 O_a1 O_el) rfl (hw _ (List.mem_of_getElem? (i := 38) rfl)) (hw _ (List.mem_of_getElem? (i := 39) rfl)) (hw _ (List.mem_of_getElem? (i := 28) rfl)) (hw _ (List.mem_of_getElem? (i := 40) rfl)) (by decide) a1 [(.ref sid), (.double x), (.double y), (.double z), (.ref el), (.ref el), (.double 0)] [] own_pd6 rfl rfl rfl rfl d6_14 (by decide) (Nat.le_of_ble_eq_true rfl) (by decide) (by decide) ?_
  intro T3 L3 v3 X3 hQ3
  obtain ⟨h3, e3⟩ : ∃ z, T3.heap = z := ⟨_, rfl⟩
  rw [e3] at hQ3
  obtain ⟨rfl, Nq3, Kq3, Oq3_a1⟩ := hQ3
  have N3 := Fr.app N2 Nq3
  have O_el_3 : own_Obj Z h3 el "java/util/ImmutableCollections$ListN" [("java/util/ImmutableCollections$ListN", "allowNulls", "Z", (.int (0 : Int32)))] := O_el.keep Kq3 (ninS ne_el_a1 nin0)
  have Z3 : n0 ≤ h3.size := Nat.le_trans Z0 Kq3.1
  have K3 := Keep.trans K0 Kq3 (allS (Or.inl (List.mem_of_getElem? (i := 0) rfl)) all0)
  show own_Fin p e below _ T3 (mkF m 17 #[.val (.ref a1), .val (.ref sid), .val (.double x), .second, .val (.double y), .second, .val (.double z), .second] [])
  exact own_retV K X3 d6_17 (by rw [e3]; exact ⟨rfl, N3, K3, Oq3_a1⟩) (by decide) (by decide)
theorem own_pn14 : plainName "com/example/murmuration/murmuration/Site" = true := by first | (simp [plainName, overriddenIn]; done) | decide +kernel
theorem d14_0 : decode prog_15_method_2_code 0 = .ok (.aload_n 0, 1) := by decide +kernel
theorem d14_1 : decode prog_15_method_2_code 1 = .ok (.aload_n 1, 1) := by decide +kernel
theorem d14_2 : decode prog_15_method_2_code 2 = .ok (.getfield 7, 3) := by decide +kernel
theorem d14_5 : decode prog_15_method_2_code 5 = .ok (.aload_n 1, 1) := by decide +kernel
theorem d14_6 : decode prog_15_method_2_code 6 = .ok (.getfield 13, 3) := by decide +kernel
theorem d14_9 : decode prog_15_method_2_code 9 = .ok (.aload_n 1, 1) := by decide +kernel
theorem d14_10 : decode prog_15_method_2_code 10 = .ok (.getfield 17, 3) := by decide +kernel
theorem d14_13 : decode prog_15_method_2_code 13 = .ok (.invokespecial 20, 3) := by decide +kernel
theorem d14_16 : decode prog_15_method_2_code 16 = .ok (.return_, 1) := by decide +kernel
set_option maxRecDepth 65536 in
set_option maxHeartbeats 40000000 in
theorem rmS2 (l : Launch) (Z : State) (a0 : Array Value) (hw : ∀ d ∈ tables_1, d.before a0 Z = true) (a1 a2 sid el : Addr) (x y z : UInt64) (h0 : Heap) (n0 : Nat) (Z0 : n0 ≤ h0.size) (f_a1 : n0 ≤ a1) (ne_a2_a1 : a2 ≠ a1) (O_a1 : own_Obj Z h0 a1 "com/example/murmuration/murmuration/Place" [("com/example/murmuration/murmuration/Site", "id", "Ljava/lang/String;", .null), ("com/example/murmuration/murmuration/Site", "first", "D", (.double 0)), ("com/example/murmuration/murmuration/Site", "second", "D", (.double 0)), ("com/example/murmuration/murmuration/Place", "value", "D", (.double 0)), ("com/example/murmuration/murmuration/Place", "needs", "Ljava/util/List;", .null), ("com/example/murmuration/murmuration/Place", "paths", "Ljava/util/List;", .null), ("com/example/murmuration/murmuration/Place", "detect", "D", (.double 0)), ("com/example/murmuration/murmuration/Place", "window", "Lcom/example/murmuration/murmuration/Place$Window;", .null), ("com/example/murmuration/murmuration/Place", "duration", "D", (.double 0))]) (O_a2 : own_Obj Z h0 a2 "com/example/murmuration/murmuration/Place" [("com/example/murmuration/murmuration/Site", "id", "Ljava/lang/String;", (.ref sid)), ("com/example/murmuration/murmuration/Site", "first", "D", (.double x)), ("com/example/murmuration/murmuration/Site", "second", "D", (.double y)), ("com/example/murmuration/murmuration/Place", "value", "D", (.double z)), ("com/example/murmuration/murmuration/Place", "needs", "Ljava/util/List;", (.ref el)), ("com/example/murmuration/murmuration/Place", "paths", "Ljava/util/List;", (.ref el)), ("com/example/murmuration/murmuration/Place", "detect", "D", (.double 0)), ("com/example/murmuration/murmuration/Place", "window", "Lcom/example/murmuration/murmuration/Place$Window;", .null), ("com/example/murmuration/murmuration/Place", "duration", "D", (.double 0))]) :
    own_Met l Z (⟨"com/example/murmuration/murmuration/Site", "<init>", "(Lcom/example/murmuration/murmuration/Site;)V"⟩ : MethodName) prog_15_method_2_code 2 none ({ frames := 2, cells := 0, slots := 0, locals := 40 } : Room) #[(.ref a1), (.ref a2)] h0 (QP Z a1 [("com/example/murmuration/murmuration/Site", "id", "Ljava/lang/String;", (.ref sid)), ("com/example/murmuration/murmuration/Site", "first", "D", (.double x)), ("com/example/murmuration/murmuration/Site", "second", "D", (.double y)), ("com/example/murmuration/murmuration/Place", "value", "D", (.double 0)), ("com/example/murmuration/murmuration/Place", "needs", "Ljava/util/List;", .null), ("com/example/murmuration/murmuration/Place", "paths", "Ljava/util/List;", .null), ("com/example/murmuration/murmuration/Place", "detect", "D", (.double 0)), ("com/example/murmuration/murmuration/Place", "window", "Lcom/example/murmuration/murmuration/Place$Window;", .null), ("com/example/murmuration/murmuration/Place", "duration", "D", (.double 0))] h0 n0) := by
  refine own_enter (plainFor_of_name own_pn14) (fun m => by first | (simp [entryFrame, mkF, argsToLocals, Value.category, maxLocals]; done) | rfl) (Ls := #[.val (.ref a1), .val (.ref a2)]) ?_
  intro p e s m below meth c T0 K X0 e0
  have hx := K.1
  have hZ := K.2.1
  have hby := K.2.2.1
  have hown := K.2.2.2.2.1
  have N0 := Fr.nil n0
  have K0 : Keep h0 h0 [a1] := Keep.refl _ _
  show own_Fin p e below _ T0 (mkF m 0 #[.val (.ref a1), .val (.ref a2)] [])
  refine own_seg (T' := T0) (g' := (mkF m 2 #[.val (.ref a1), .val (.ref a2)] [(.ref a2), (.ref a1)])) (fun tg kt => ?_) ?_
  · show Steps p.tables e below (T0.setTop (mkF m 0 #[.val (.ref a1), .val (.ref a2)] [])) tg
    refine XS.aloadN X0.here hx rfl (hb hby d14_0) rfl rfl ?_
    show Steps p.tables e below (T0.setTop (mkF m 1 #[.val (.ref a1), .val (.ref a2)] [(.ref a1)])) tg
    refine XS.aloadN X0.here hx rfl (hb hby d14_1) rfl rfl ?_
    exact kt
  refine own_getF K X0 e0 (host := "") (Or.inl (hw _ (List.mem_of_getElem? (i := 47) rfl))) Via.refl (O_a2.get 0 rfl) d14_2 ?_
  intro T1 X1 e1
  show own_Fin p e below _ T1 (mkF m 5 #[.val (.ref a1), .val (.ref a2)] [(.ref sid), (.ref a1)])
  refine own_seg (T' := T1) (g' := (mkF m 6 #[.val (.ref a1), .val (.ref a2)] [(.ref a2), (.ref sid), (.ref a1)])) (fun tg kt => ?_) ?_
  · show Steps p.tables e below (T1.setTop (mkF m 5 #[.val (.ref a1), .val (.ref a2)] [(.ref sid), (.ref a1)])) tg
    refine XS.aloadN X1.here hx rfl (hb hby d14_5) rfl rfl ?_
    exact kt
  refine own_getF K X1 e1 (host := "") (Or.inl (hw _ (List.mem_of_getElem? (i := 49) rfl))) Via.refl (O_a2.get 1 rfl) d14_6 ?_
  intro T2 X2 e2
  show own_Fin p e below _ T2 (mkF m 9 #[.val (.ref a1), .val (.ref a2)] [(.double x), (.ref sid), (.ref a1)])
  refine own_seg (T' := T2) (g' := (mkF m 10 #[.val (.ref a1), .val (.ref a2)] [(.ref a2), (.double x), (.ref sid), (.ref a1)])) (fun tg kt => ?_) ?_
  · show Steps p.tables e below (T2.setTop (mkF m 9 #[.val (.ref a1), .val (.ref a2)] [(.double x), (.ref sid), (.ref a1)])) tg
    refine XS.aloadN X2.here hx rfl (hb hby d14_9) rfl rfl ?_
    exact kt
  refine own_getF K X2 e2 (host := "") (Or.inl (hw _ (List.mem_of_getElem? (i := 51) rfl))) Via.refl (O_a2.get 2 rfl) d14_10 ?_
  intro T3 X3 e3
  show own_Fin p e below _ T3 (mkF m 13 #[.val (.ref a1), .val (.ref a2)] [(.double y), (.double x), (.ref sid), (.ref a1)])
  refine own_callI K X3 e3 (rmSi l Z a0 hw a1 sid x y h0 n0 Z0 f_a1 O_a1) rfl (hw _ (List.mem_of_getElem? (i := 96) rfl)) (hw _ (List.mem_of_getElem? (i := 42) rfl)) (hw _ (List.mem_of_getElem? (i := 44) rfl)) (hw _ (List.mem_of_getElem? (i := 45) rfl)) (by decide) a1 [(.ref sid), (.double x), (.double y)] [] own_pd4 rfl rfl rfl rfl d14_13 (by decide) (Nat.le_of_ble_eq_true rfl) (by decide) (by decide) ?_
  intro T4 L4 v4 X4 hQ4
  obtain ⟨h4, e4⟩ : ∃ z, T4.heap = z := ⟨_, rfl⟩
  rw [e4] at hQ4
  obtain ⟨rfl, Nq4, Kq4, Oq4_a1⟩ := hQ4
  have N4 := Fr.app N0 Nq4
  have O_a2_4 : own_Obj Z h4 a2 "com/example/murmuration/murmuration/Place" [("com/example/murmuration/murmuration/Site", "id", "Ljava/lang/String;", (.ref sid)), ("com/example/murmuration/murmuration/Site", "first", "D", (.double x)), ("com/example/murmuration/murmuration/Site", "second", "D", (.double y)), ("com/example/murmuration/murmuration/Place", "value", "D", (.double z)), ("com/example/murmuration/murmuration/Place", "needs", "Ljava/util/List;", (.ref el)), ("com/example/murmuration/murmuration/Place", "paths", "Ljava/util/List;", (.ref el)), ("com/example/murmuration/murmuration/Place", "detect", "D", (.double 0)), ("com/example/murmuration/murmuration/Place", "window", "Lcom/example/murmuration/murmuration/Place$Window;", .null), ("com/example/murmuration/murmuration/Place", "duration", "D", (.double 0))] := O_a2.keep Kq4 (ninS ne_a2_a1 nin0)
  have Z4 : n0 ≤ h4.size := Nat.le_trans Z0 Kq4.1
  have K4 := Keep.trans K0 Kq4 (allS (Or.inl (List.mem_of_getElem? (i := 0) rfl)) all0)
  show own_Fin p e below _ T4 (mkF m 16 #[.val (.ref a1), .val (.ref a2)] [])
  exact own_retV K X4 d14_16 (by rw [e4]; exact ⟨rfl, N4, K4, Oq4_a1⟩) (by decide) (by decide)
theorem own_pn13 : plainName "com/example/murmuration/murmuration/Place" = true := by first | (simp [plainName, overriddenIn]; done) | decide +kernel
theorem d13_0 : decode prog_10_method_5_code 0 = .ok (.aload_n 0, 1) := by decide +kernel
theorem d13_1 : decode prog_10_method_5_code 1 = .ok (.aload_n 1, 1) := by decide +kernel
theorem d13_2 : decode prog_10_method_5_code 2 = .ok (.invokespecial 55, 3) := by decide +kernel
theorem own_pd7 : parseMethodDescriptor "(Lcom/example/murmuration/murmuration/Site;)V" = some ⟨[(.object "com/example/murmuration/murmuration/Site")], none⟩ := by decide +kernel
theorem d13_5 : decode prog_10_method_5_code 5 = .ok (.aload_n 0, 1) := by decide +kernel
theorem d13_6 : decode prog_10_method_5_code 6 = .ok (.aload_n 1, 1) := by decide +kernel
theorem d13_7 : decode prog_10_method_5_code 7 = .ok (.getfield 30, 3) := by decide +kernel
theorem d13_10 : decode prog_10_method_5_code 10 = .ok (.putfield 30, 3) := by decide +kernel
theorem d13_13 : decode prog_10_method_5_code 13 = .ok (.aload_n 0, 1) := by decide +kernel
theorem d13_14 : decode prog_10_method_5_code 14 = .ok (.aload_n 1, 1) := by decide +kernel
theorem d13_15 : decode prog_10_method_5_code 15 = .ok (.getfield 38, 3) := by decide +kernel
theorem d13_18 : decode prog_10_method_5_code 18 = .ok (.putfield 38, 3) := by decide +kernel
theorem d13_21 : decode prog_10_method_5_code 21 = .ok (.aload_n 0, 1) := by decide +kernel
theorem d13_22 : decode prog_10_method_5_code 22 = .ok (.aload_n 1, 1) := by decide +kernel
theorem d13_23 : decode prog_10_method_5_code 23 = .ok (.getfield 42, 3) := by decide +kernel
theorem d13_26 : decode prog_10_method_5_code 26 = .ok (.putfield 42, 3) := by decide +kernel
theorem d13_29 : decode prog_10_method_5_code 29 = .ok (.aload_n 0, 1) := by decide +kernel
theorem d13_30 : decode prog_10_method_5_code 30 = .ok (.aload_n 1, 1) := by decide +kernel
theorem d13_31 : decode prog_10_method_5_code 31 = .ok (.getfield 45, 3) := by decide +kernel
theorem d13_34 : decode prog_10_method_5_code 34 = .ok (.putfield 45, 3) := by decide +kernel
theorem d13_37 : decode prog_10_method_5_code 37 = .ok (.aload_n 0, 1) := by decide +kernel
theorem d13_38 : decode prog_10_method_5_code 38 = .ok (.aload_n 2, 1) := by decide +kernel
theorem d13_39 : decode prog_10_method_5_code 39 = .ok (.putfield 48, 3) := by decide +kernel
theorem d13_42 : decode prog_10_method_5_code 42 = .ok (.aload_n 0, 1) := by decide +kernel
theorem d13_43 : decode prog_10_method_5_code 43 = .ok (.dload_n 3, 1) := by decide +kernel
theorem d13_44 : decode prog_10_method_5_code 44 = .ok (.putfield 52, 3) := by decide +kernel
theorem d13_47 : decode prog_10_method_5_code 47 = .ok (.return_, 1) := by decide +kernel
set_option maxRecDepth 65536 in
set_option maxHeartbeats 40000000 in
theorem rmP5N (l : Launch) (Z : State) (a0 : Array Value) (hw : ∀ d ∈ tables_1, d.before a0 Z = true) (a1 a2 sid el : Addr) (x y z du : UInt64) (h0 : Heap) (n0 : Nat) (Z0 : n0 ≤ h0.size) (f_a1 : n0 ≤ a1) (ne_a2_a1 : a2 ≠ a1) (O_a1 : own_Obj Z h0 a1 "com/example/murmuration/murmuration/Place" [("com/example/murmuration/murmuration/Site", "id", "Ljava/lang/String;", .null), ("com/example/murmuration/murmuration/Site", "first", "D", (.double 0)), ("com/example/murmuration/murmuration/Site", "second", "D", (.double 0)), ("com/example/murmuration/murmuration/Place", "value", "D", (.double 0)), ("com/example/murmuration/murmuration/Place", "needs", "Ljava/util/List;", .null), ("com/example/murmuration/murmuration/Place", "paths", "Ljava/util/List;", .null), ("com/example/murmuration/murmuration/Place", "detect", "D", (.double 0)), ("com/example/murmuration/murmuration/Place", "window", "Lcom/example/murmuration/murmuration/Place$Window;", .null), ("com/example/murmuration/murmuration/Place", "duration", "D", (.double 0))]) (O_a2 : own_Obj Z h0 a2 "com/example/murmuration/murmuration/Place" [("com/example/murmuration/murmuration/Site", "id", "Ljava/lang/String;", (.ref sid)), ("com/example/murmuration/murmuration/Site", "first", "D", (.double x)), ("com/example/murmuration/murmuration/Site", "second", "D", (.double y)), ("com/example/murmuration/murmuration/Place", "value", "D", (.double z)), ("com/example/murmuration/murmuration/Place", "needs", "Ljava/util/List;", (.ref el)), ("com/example/murmuration/murmuration/Place", "paths", "Ljava/util/List;", (.ref el)), ("com/example/murmuration/murmuration/Place", "detect", "D", (.double 0)), ("com/example/murmuration/murmuration/Place", "window", "Lcom/example/murmuration/murmuration/Place$Window;", .null), ("com/example/murmuration/murmuration/Place", "duration", "D", (.double 0))]) :
    own_Met l Z (⟨"com/example/murmuration/murmuration/Place", "<init>", "(Lcom/example/murmuration/murmuration/Place;Lcom/example/murmuration/murmuration/Place$Window;D)V"⟩ : MethodName) prog_10_method_5_code 5 none ({ frames := 3, cells := 0, slots := 0, locals := 80 } : Room) #[(.ref a1), (.ref a2), .null, (.double du)] h0 (QP Z a1 [("com/example/murmuration/murmuration/Site", "id", "Ljava/lang/String;", (.ref sid)), ("com/example/murmuration/murmuration/Site", "first", "D", (.double x)), ("com/example/murmuration/murmuration/Site", "second", "D", (.double y)), ("com/example/murmuration/murmuration/Place", "value", "D", (.double z)), ("com/example/murmuration/murmuration/Place", "needs", "Ljava/util/List;", (.ref el)), ("com/example/murmuration/murmuration/Place", "paths", "Ljava/util/List;", (.ref el)), ("com/example/murmuration/murmuration/Place", "detect", "D", (.double 0)), ("com/example/murmuration/murmuration/Place", "window", "Lcom/example/murmuration/murmuration/Place$Window;", .null), ("com/example/murmuration/murmuration/Place", "duration", "D", (.double du))] h0 n0) := by
  refine own_enter (plainFor_of_name own_pn13) (fun m => by first | (simp [entryFrame, mkF, argsToLocals, Value.category, maxLocals]; done) | rfl) (Ls := #[.val (.ref a1), .val (.ref a2), .val .null, .val (.double du), .second]) ?_
  intro p e s m below meth c T0 K X0 e0
  have hx := K.1
  have hZ := K.2.1
  have hby := K.2.2.1
  have hown := K.2.2.2.2.1
  have N0 := Fr.nil n0
  have K0 : Keep h0 h0 [a1] := Keep.refl _ _
  show own_Fin p e below _ T0 (mkF m 0 #[.val (.ref a1), .val (.ref a2), .val .null, .val (.double du), .second] [])
  refine own_seg (T' := T0) (g' := (mkF m 2 #[.val (.ref a1), .val (.ref a2), .val .null, .val (.double du), .second] [(.ref a2), (.ref a1)])) (fun tg kt => ?_) ?_
  · show Steps p.tables e below (T0.setTop (mkF m 0 #[.val (.ref a1), .val (.ref a2), .val .null, .val (.double du), .second] [])) tg
    refine XS.aloadN X0.here hx rfl (hb hby d13_0) rfl rfl ?_
    show Steps p.tables e below (T0.setTop (mkF m 1 #[.val (.ref a1), .val (.ref a2), .val .null, .val (.double du), .second] [(.ref a1)])) tg
    refine XS.aloadN X0.here hx rfl (hb hby d13_1) rfl rfl ?_
    exact kt
  refine own_callI K X0 e0 (rmS2 l Z a0 hw a1 a2 sid el x y z h0 n0 Z0 f_a1 ne_a2_a1 O_a1 O_a2) rfl (hw _ (List.mem_of_getElem? (i := 92) rfl)) (hw _ (List.mem_of_getElem? (i := 93) rfl)) (hw _ (List.mem_of_getElem? (i := 44) rfl)) (hw _ (List.mem_of_getElem? (i := 95) rfl)) (by decide) a1 [(.ref a2)] [] own_pd7 rfl rfl rfl rfl d13_2 (by decide) (Nat.le_of_ble_eq_true rfl) (by decide) (by decide) ?_
  intro T1 L1 v1 X1 hQ1
  obtain ⟨h1, e1⟩ : ∃ z, T1.heap = z := ⟨_, rfl⟩
  rw [e1] at hQ1
  obtain ⟨rfl, Nq1, Kq1, Oq1_a1⟩ := hQ1
  have N1 := Fr.app N0 Nq1
  have O_a2_1 : own_Obj Z h1 a2 "com/example/murmuration/murmuration/Place" [("com/example/murmuration/murmuration/Site", "id", "Ljava/lang/String;", (.ref sid)), ("com/example/murmuration/murmuration/Site", "first", "D", (.double x)), ("com/example/murmuration/murmuration/Site", "second", "D", (.double y)), ("com/example/murmuration/murmuration/Place", "value", "D", (.double z)), ("com/example/murmuration/murmuration/Place", "needs", "Ljava/util/List;", (.ref el)), ("com/example/murmuration/murmuration/Place", "paths", "Ljava/util/List;", (.ref el)), ("com/example/murmuration/murmuration/Place", "detect", "D", (.double 0)), ("com/example/murmuration/murmuration/Place", "window", "Lcom/example/murmuration/murmuration/Place$Window;", .null), ("com/example/murmuration/murmuration/Place", "duration", "D", (.double 0))] := O_a2.keep Kq1 (ninS ne_a2_a1 nin0)
  have Z1 : n0 ≤ h1.size := Nat.le_trans Z0 Kq1.1
  have K1 := Keep.trans K0 Kq1 (allS (Or.inl (List.mem_of_getElem? (i := 0) rfl)) all0)
  show own_Fin p e below _ T1 (mkF m 5 #[.val (.ref a1), .val (.ref a2), .val .null, .val (.double du), .second] [])
  refine own_seg (T' := T1) (g' := (mkF m 7 #[.val (.ref a1), .val (.ref a2), .val .null, .val (.double du), .second] [(.ref a2), (.ref a1)])) (fun tg kt => ?_) ?_
  · show Steps p.tables e below (T1.setTop (mkF m 5 #[.val (.ref a1), .val (.ref a2), .val .null, .val (.double du), .second] [])) tg
    refine XS.aloadN X1.here hx rfl (hb hby d13_5) rfl rfl ?_
    show Steps p.tables e below (T1.setTop (mkF m 6 #[.val (.ref a1), .val (.ref a2), .val .null, .val (.double du), .second] [(.ref a1)])) tg
    refine XS.aloadN X1.here hx rfl (hb hby d13_6) rfl rfl ?_
    exact kt
  refine own_getF K X1 e1 (host := "") (Or.inl (hw _ (List.mem_of_getElem? (i := 53) rfl))) Via.refl (O_a2_1.get 3 rfl) d13_7 ?_
  intro T2 X2 e2
  show own_Fin p e below _ T2 (mkF m 10 #[.val (.ref a1), .val (.ref a2), .val .null, .val (.double du), .second] [(.double z), (.ref a1)])
  refine own_putF K X2 e2 (host := "") (Or.inl (hw _ (List.mem_of_getElem? (i := 53) rfl))) Via.refl (Oq1_a1.get 3 rfl) Oq1_a1.exa (Or.inr ⟨(hw _ (List.mem_of_getElem? (i := 54) rfl)), rfl, rfl⟩) (hw _ (List.mem_of_getElem? (i := 27) rfl)) (ty := .double) (by decide) rfl rfl d13_10 ?_
  intro T3 h3 X3 e3 W3
  have O_a2_3 : own_Obj Z h3 a2 "com/example/murmuration/murmuration/Place" [("com/example/murmuration/murmuration/Site", "id", "Ljava/lang/String;", (.ref sid)), ("com/example/murmuration/murmuration/Site", "first", "D", (.double x)), ("com/example/murmuration/murmuration/Site", "second", "D", (.double y)), ("com/example/murmuration/murmuration/Place", "value", "D", (.double z)), ("com/example/murmuration/murmuration/Place", "needs", "Ljava/util/List;", (.ref el)), ("com/example/murmuration/murmuration/Place", "paths", "Ljava/util/List;", (.ref el)), ("com/example/murmuration/murmuration/Place", "detect", "D", (.double 0)), ("com/example/murmuration/murmuration/Place", "window", "Lcom/example/murmuration/murmuration/Place$Window;", .null), ("com/example/murmuration/murmuration/Place", "duration", "D", (.double 0))] := O_a2_1.other W3 ne_a2_a1
  have O_a1_3 : own_Obj Z h3 a1 "com/example/murmuration/murmuration/Place" [("com/example/murmuration/murmuration/Site", "id", "Ljava/lang/String;", (.ref sid)), ("com/example/murmuration/murmuration/Site", "first", "D", (.double x)), ("com/example/murmuration/murmuration/Site", "second", "D", (.double y)), ("com/example/murmuration/murmuration/Place", "value", "D", (.double z)), ("com/example/murmuration/murmuration/Place", "needs", "Ljava/util/List;", .null), ("com/example/murmuration/murmuration/Place", "paths", "Ljava/util/List;", .null), ("com/example/murmuration/murmuration/Place", "detect", "D", (.double 0)), ("com/example/murmuration/murmuration/Place", "window", "Lcom/example/murmuration/murmuration/Place$Window;", .null), ("com/example/murmuration/murmuration/Place", "duration", "D", (.double 0))] := Oq1_a1.put (own_lay_Place hw) rfl own_nd_Place 3 rfl W3
  have Z3 : n0 ≤ h3.size := by rw [Wr.size W3]; exact Z1
  have N3 := Fr.snoc X3 N1 f_a1
  have K3 := K1.wr W3 (Or.inl (List.mem_of_getElem? (i := 0) rfl))
  show own_Fin p e below _ T3 (mkF m 13 #[.val (.ref a1), .val (.ref a2), .val .null, .val (.double du), .second] [])
  refine own_seg (T' := T3) (g' := (mkF m 15 #[.val (.ref a1), .val (.ref a2), .val .null, .val (.double du), .second] [(.ref a2), (.ref a1)])) (fun tg kt => ?_) ?_
  · show Steps p.tables e below (T3.setTop (mkF m 13 #[.val (.ref a1), .val (.ref a2), .val .null, .val (.double du), .second] [])) tg
    refine XS.aloadN X3.here hx rfl (hb hby d13_13) rfl rfl ?_
    show Steps p.tables e below (T3.setTop (mkF m 14 #[.val (.ref a1), .val (.ref a2), .val .null, .val (.double du), .second] [(.ref a1)])) tg
    refine XS.aloadN X3.here hx rfl (hb hby d13_14) rfl rfl ?_
    exact kt
  refine own_getF K X3 e3 (host := "") (Or.inl (hw _ (List.mem_of_getElem? (i := 73) rfl))) Via.refl (O_a2_3.get 4 rfl) d13_15 ?_
  intro T4 X4 e4
  show own_Fin p e below _ T4 (mkF m 18 #[.val (.ref a1), .val (.ref a2), .val .null, .val (.double du), .second] [(.ref el), (.ref a1)])
  refine own_putF K X4 e4 (host := "") (Or.inl (hw _ (List.mem_of_getElem? (i := 73) rfl))) Via.refl (O_a1_3.get 4 rfl) O_a1_3.exa (Or.inr ⟨(hw _ (List.mem_of_getElem? (i := 74) rfl)), rfl, rfl⟩) (hw _ (List.mem_of_getElem? (i := 27) rfl)) (ty := (.object "java/util/List")) (by decide) rfl rfl d13_18 ?_
  intro T5 h5 X5 e5 W5
  have O_a2_5 : own_Obj Z h5 a2 "com/example/murmuration/murmuration/Place" [("com/example/murmuration/murmuration/Site", "id", "Ljava/lang/String;", (.ref sid)), ("com/example/murmuration/murmuration/Site", "first", "D", (.double x)), ("com/example/murmuration/murmuration/Site", "second", "D", (.double y)), ("com/example/murmuration/murmuration/Place", "value", "D", (.double z)), ("com/example/murmuration/murmuration/Place", "needs", "Ljava/util/List;", (.ref el)), ("com/example/murmuration/murmuration/Place", "paths", "Ljava/util/List;", (.ref el)), ("com/example/murmuration/murmuration/Place", "detect", "D", (.double 0)), ("com/example/murmuration/murmuration/Place", "window", "Lcom/example/murmuration/murmuration/Place$Window;", .null), ("com/example/murmuration/murmuration/Place", "duration", "D", (.double 0))] := O_a2_3.other W5 ne_a2_a1
  have O_a1_5 : own_Obj Z h5 a1 "com/example/murmuration/murmuration/Place" [("com/example/murmuration/murmuration/Site", "id", "Ljava/lang/String;", (.ref sid)), ("com/example/murmuration/murmuration/Site", "first", "D", (.double x)), ("com/example/murmuration/murmuration/Site", "second", "D", (.double y)), ("com/example/murmuration/murmuration/Place", "value", "D", (.double z)), ("com/example/murmuration/murmuration/Place", "needs", "Ljava/util/List;", (.ref el)), ("com/example/murmuration/murmuration/Place", "paths", "Ljava/util/List;", .null), ("com/example/murmuration/murmuration/Place", "detect", "D", (.double 0)), ("com/example/murmuration/murmuration/Place", "window", "Lcom/example/murmuration/murmuration/Place$Window;", .null), ("com/example/murmuration/murmuration/Place", "duration", "D", (.double 0))] := O_a1_3.put (own_lay_Place hw) rfl own_nd_Place 4 rfl W5
  have Z5 : n0 ≤ h5.size := by rw [Wr.size W5]; exact Z3
  have N5 := Fr.snoc X5 N3 f_a1
  have K5 := K3.wr W5 (Or.inl (List.mem_of_getElem? (i := 0) rfl))
  show own_Fin p e below _ T5 (mkF m 21 #[.val (.ref a1), .val (.ref a2), .val .null, .val (.double du), .second] [])
  refine own_seg (T' := T5) (g' := (mkF m 23 #[.val (.ref a1), .val (.ref a2), .val .null, .val (.double du), .second] [(.ref a2), (.ref a1)])) (fun tg kt => ?_) ?_
  · show Steps p.tables e below (T5.setTop (mkF m 21 #[.val (.ref a1), .val (.ref a2), .val .null, .val (.double du), .second] [])) tg
    refine XS.aloadN X5.here hx rfl (hb hby d13_21) rfl rfl ?_
    show Steps p.tables e below (T5.setTop (mkF m 22 #[.val (.ref a1), .val (.ref a2), .val .null, .val (.double du), .second] [(.ref a1)])) tg
    refine XS.aloadN X5.here hx rfl (hb hby d13_22) rfl rfl ?_
    exact kt
  refine own_getF K X5 e5 (host := "") (Or.inl (hw _ (List.mem_of_getElem? (i := 75) rfl))) Via.refl (O_a2_5.get 5 rfl) d13_23 ?_
  intro T6 X6 e6
  show own_Fin p e below _ T6 (mkF m 26 #[.val (.ref a1), .val (.ref a2), .val .null, .val (.double du), .second] [(.ref el), (.ref a1)])
  refine own_putF K X6 e6 (host := "") (Or.inl (hw _ (List.mem_of_getElem? (i := 75) rfl))) Via.refl (O_a1_5.get 5 rfl) O_a1_5.exa (Or.inr ⟨(hw _ (List.mem_of_getElem? (i := 76) rfl)), rfl, rfl⟩) (hw _ (List.mem_of_getElem? (i := 27) rfl)) (ty := (.object "java/util/List")) (by decide) rfl rfl d13_26 ?_
  intro T7 h7 X7 e7 W7
  have O_a2_7 : own_Obj Z h7 a2 "com/example/murmuration/murmuration/Place" [("com/example/murmuration/murmuration/Site", "id", "Ljava/lang/String;", (.ref sid)), ("com/example/murmuration/murmuration/Site", "first", "D", (.double x)), ("com/example/murmuration/murmuration/Site", "second", "D", (.double y)), ("com/example/murmuration/murmuration/Place", "value", "D", (.double z)), ("com/example/murmuration/murmuration/Place", "needs", "Ljava/util/List;", (.ref el)), ("com/example/murmuration/murmuration/Place", "paths", "Ljava/util/List;", (.ref el)), ("com/example/murmuration/murmuration/Place", "detect", "D", (.double 0)), ("com/example/murmuration/murmuration/Place", "window", "Lcom/example/murmuration/murmuration/Place$Window;", .null), ("com/example/murmuration/murmuration/Place", "duration", "D", (.double 0))] := O_a2_5.other W7 ne_a2_a1
  have O_a1_7 : own_Obj Z h7 a1 "com/example/murmuration/murmuration/Place" [("com/example/murmuration/murmuration/Site", "id", "Ljava/lang/String;", (.ref sid)), ("com/example/murmuration/murmuration/Site", "first", "D", (.double x)), ("com/example/murmuration/murmuration/Site", "second", "D", (.double y)), ("com/example/murmuration/murmuration/Place", "value", "D", (.double z)), ("com/example/murmuration/murmuration/Place", "needs", "Ljava/util/List;", (.ref el)), ("com/example/murmuration/murmuration/Place", "paths", "Ljava/util/List;", (.ref el)), ("com/example/murmuration/murmuration/Place", "detect", "D", (.double 0)), ("com/example/murmuration/murmuration/Place", "window", "Lcom/example/murmuration/murmuration/Place$Window;", .null), ("com/example/murmuration/murmuration/Place", "duration", "D", (.double 0))] := O_a1_5.put (own_lay_Place hw) rfl own_nd_Place 5 rfl W7
  have Z7 : n0 ≤ h7.size := by rw [Wr.size W7]; exact Z5
  have N7 := Fr.snoc X7 N5 f_a1
  have K7 := K5.wr W7 (Or.inl (List.mem_of_getElem? (i := 0) rfl))
  show own_Fin p e below _ T7 (mkF m 29 #[.val (.ref a1), .val (.ref a2), .val .null, .val (.double du), .second] [])
  refine own_seg (T' := T7) (g' := (mkF m 31 #[.val (.ref a1), .val (.ref a2), .val .null, .val (.double du), .second] [(.ref a2), (.ref a1)])) (fun tg kt => ?_) ?_
  · show Steps p.tables e below (T7.setTop (mkF m 29 #[.val (.ref a1), .val (.ref a2), .val .null, .val (.double du), .second] [])) tg
    refine XS.aloadN X7.here hx rfl (hb hby d13_29) rfl rfl ?_
    show Steps p.tables e below (T7.setTop (mkF m 30 #[.val (.ref a1), .val (.ref a2), .val .null, .val (.double du), .second] [(.ref a1)])) tg
    refine XS.aloadN X7.here hx rfl (hb hby d13_30) rfl rfl ?_
    exact kt
  refine own_getF K X7 e7 (host := "") (Or.inl (hw _ (List.mem_of_getElem? (i := 77) rfl))) Via.refl (O_a2_7.get 6 rfl) d13_31 ?_
  intro T8 X8 e8
  show own_Fin p e below _ T8 (mkF m 34 #[.val (.ref a1), .val (.ref a2), .val .null, .val (.double du), .second] [(.double 0), (.ref a1)])
  refine own_putF K X8 e8 (host := "") (Or.inl (hw _ (List.mem_of_getElem? (i := 77) rfl))) Via.refl (O_a1_7.get 6 rfl) O_a1_7.exa (Or.inr ⟨(hw _ (List.mem_of_getElem? (i := 78) rfl)), rfl, rfl⟩) (hw _ (List.mem_of_getElem? (i := 27) rfl)) (ty := .double) (by decide) rfl rfl d13_34 ?_
  intro T9 h9 X9 e9 W9
  have O_a2_9 : own_Obj Z h9 a2 "com/example/murmuration/murmuration/Place" [("com/example/murmuration/murmuration/Site", "id", "Ljava/lang/String;", (.ref sid)), ("com/example/murmuration/murmuration/Site", "first", "D", (.double x)), ("com/example/murmuration/murmuration/Site", "second", "D", (.double y)), ("com/example/murmuration/murmuration/Place", "value", "D", (.double z)), ("com/example/murmuration/murmuration/Place", "needs", "Ljava/util/List;", (.ref el)), ("com/example/murmuration/murmuration/Place", "paths", "Ljava/util/List;", (.ref el)), ("com/example/murmuration/murmuration/Place", "detect", "D", (.double 0)), ("com/example/murmuration/murmuration/Place", "window", "Lcom/example/murmuration/murmuration/Place$Window;", .null), ("com/example/murmuration/murmuration/Place", "duration", "D", (.double 0))] := O_a2_7.other W9 ne_a2_a1
  have O_a1_9 : own_Obj Z h9 a1 "com/example/murmuration/murmuration/Place" [("com/example/murmuration/murmuration/Site", "id", "Ljava/lang/String;", (.ref sid)), ("com/example/murmuration/murmuration/Site", "first", "D", (.double x)), ("com/example/murmuration/murmuration/Site", "second", "D", (.double y)), ("com/example/murmuration/murmuration/Place", "value", "D", (.double z)), ("com/example/murmuration/murmuration/Place", "needs", "Ljava/util/List;", (.ref el)), ("com/example/murmuration/murmuration/Place", "paths", "Ljava/util/List;", (.ref el)), ("com/example/murmuration/murmuration/Place", "detect", "D", (.double 0)), ("com/example/murmuration/murmuration/Place", "window", "Lcom/example/murmuration/murmuration/Place$Window;", .null), ("com/example/murmuration/murmuration/Place", "duration", "D", (.double 0))] := O_a1_7.put (own_lay_Place hw) rfl own_nd_Place 6 rfl W9
  have Z9 : n0 ≤ h9.size := by rw [Wr.size W9]; exact Z7
  have N9 := Fr.snoc X9 N7 f_a1
  have K9 := K7.wr W9 (Or.inl (List.mem_of_getElem? (i := 0) rfl))
  show own_Fin p e below _ T9 (mkF m 37 #[.val (.ref a1), .val (.ref a2), .val .null, .val (.double du), .second] [])
  refine own_seg (T' := T9) (g' := (mkF m 39 #[.val (.ref a1), .val (.ref a2), .val .null, .val (.double du), .second] [.null, (.ref a1)])) (fun tg kt => ?_) ?_
  · show Steps p.tables e below (T9.setTop (mkF m 37 #[.val (.ref a1), .val (.ref a2), .val .null, .val (.double du), .second] [])) tg
    refine XS.aloadN X9.here hx rfl (hb hby d13_37) rfl rfl ?_
    show Steps p.tables e below (T9.setTop (mkF m 38 #[.val (.ref a1), .val (.ref a2), .val .null, .val (.double du), .second] [(.ref a1)])) tg
    refine XS.aloadN X9.here hx rfl (hb hby d13_38) rfl rfl ?_
    exact kt
  refine own_putF K X9 e9 (host := "") (Or.inl (hw _ (List.mem_of_getElem? (i := 79) rfl))) Via.refl (O_a1_9.get 7 rfl) O_a1_9.exa (Or.inr ⟨(hw _ (List.mem_of_getElem? (i := 80) rfl)), rfl, rfl⟩) (hw _ (List.mem_of_getElem? (i := 27) rfl)) (ty := (.object "com/example/murmuration/murmuration/Place$Window")) (by decide) rfl rfl d13_39 ?_
  intro T10 h10 X10 e10 W10
  have O_a2_10 : own_Obj Z h10 a2 "com/example/murmuration/murmuration/Place" [("com/example/murmuration/murmuration/Site", "id", "Ljava/lang/String;", (.ref sid)), ("com/example/murmuration/murmuration/Site", "first", "D", (.double x)), ("com/example/murmuration/murmuration/Site", "second", "D", (.double y)), ("com/example/murmuration/murmuration/Place", "value", "D", (.double z)), ("com/example/murmuration/murmuration/Place", "needs", "Ljava/util/List;", (.ref el)), ("com/example/murmuration/murmuration/Place", "paths", "Ljava/util/List;", (.ref el)), ("com/example/murmuration/murmuration/Place", "detect", "D", (.double 0)), ("com/example/murmuration/murmuration/Place", "window", "Lcom/example/murmuration/murmuration/Place$Window;", .null), ("com/example/murmuration/murmuration/Place", "duration", "D", (.double 0))] := O_a2_9.other W10 ne_a2_a1
  have O_a1_10 : own_Obj Z h10 a1 "com/example/murmuration/murmuration/Place" [("com/example/murmuration/murmuration/Site", "id", "Ljava/lang/String;", (.ref sid)), ("com/example/murmuration/murmuration/Site", "first", "D", (.double x)), ("com/example/murmuration/murmuration/Site", "second", "D", (.double y)), ("com/example/murmuration/murmuration/Place", "value", "D", (.double z)), ("com/example/murmuration/murmuration/Place", "needs", "Ljava/util/List;", (.ref el)), ("com/example/murmuration/murmuration/Place", "paths", "Ljava/util/List;", (.ref el)), ("com/example/murmuration/murmuration/Place", "detect", "D", (.double 0)), ("com/example/murmuration/murmuration/Place", "window", "Lcom/example/murmuration/murmuration/Place$Window;", .null), ("com/example/murmuration/murmuration/Place", "duration", "D", (.double 0))] := O_a1_9.put (own_lay_Place hw) rfl own_nd_Place 7 rfl W10
  have Z10 : n0 ≤ h10.size := by rw [Wr.size W10]; exact Z9
  have N10 := Fr.snoc X10 N9 f_a1
  have K10 := K9.wr W10 (Or.inl (List.mem_of_getElem? (i := 0) rfl))
  show own_Fin p e below _ T10 (mkF m 42 #[.val (.ref a1), .val (.ref a2), .val .null, .val (.double du), .second] [])
  refine own_seg (T' := T10) (g' := (mkF m 44 #[.val (.ref a1), .val (.ref a2), .val .null, .val (.double du), .second] [(.double du), (.ref a1)])) (fun tg kt => ?_) ?_
  · show Steps p.tables e below (T10.setTop (mkF m 42 #[.val (.ref a1), .val (.ref a2), .val .null, .val (.double du), .second] [])) tg
    refine XS.aloadN X10.here hx rfl (hb hby d13_42) rfl rfl ?_
    show Steps p.tables e below (T10.setTop (mkF m 43 #[.val (.ref a1), .val (.ref a2), .val .null, .val (.double du), .second] [(.ref a1)])) tg
    refine own_dloadN X10.here hx rfl (hb hby d13_43) rfl ?_
    exact kt
  refine own_putF K X10 e10 (host := "") (Or.inl (hw _ (List.mem_of_getElem? (i := 81) rfl))) Via.refl (O_a1_10.get 8 rfl) O_a1_10.exa (Or.inr ⟨(hw _ (List.mem_of_getElem? (i := 82) rfl)), rfl, rfl⟩) (hw _ (List.mem_of_getElem? (i := 27) rfl)) (ty := .double) (by decide) rfl rfl d13_44 ?_
  intro T11 h11 X11 e11 W11
  have O_a2_11 : own_Obj Z h11 a2 "com/example/murmuration/murmuration/Place" [("com/example/murmuration/murmuration/Site", "id", "Ljava/lang/String;", (.ref sid)), ("com/example/murmuration/murmuration/Site", "first", "D", (.double x)), ("com/example/murmuration/murmuration/Site", "second", "D", (.double y)), ("com/example/murmuration/murmuration/Place", "value", "D", (.double z)), ("com/example/murmuration/murmuration/Place", "needs", "Ljava/util/List;", (.ref el)), ("com/example/murmuration/murmuration/Place", "paths", "Ljava/util/List;", (.ref el)), ("com/example/murmuration/murmuration/Place", "detect", "D", (.double 0)), ("com/example/murmuration/murmuration/Place", "window", "Lcom/example/murmuration/murmuration/Place$Window;", .null), ("com/example/murmuration/murmuration/Place", "duration", "D", (.double 0))] := O_a2_10.other W11 ne_a2_a1
  have O_a1_11 : own_Obj Z h11 a1 "com/example/murmuration/murmuration/Place" [("com/example/murmuration/murmuration/Site", "id", "Ljava/lang/String;", (.ref sid)), ("com/example/murmuration/murmuration/Site", "first", "D", (.double x)), ("com/example/murmuration/murmuration/Site", "second", "D", (.double y)), ("com/example/murmuration/murmuration/Place", "value", "D", (.double z)), ("com/example/murmuration/murmuration/Place", "needs", "Ljava/util/List;", (.ref el)), ("com/example/murmuration/murmuration/Place", "paths", "Ljava/util/List;", (.ref el)), ("com/example/murmuration/murmuration/Place", "detect", "D", (.double 0)), ("com/example/murmuration/murmuration/Place", "window", "Lcom/example/murmuration/murmuration/Place$Window;", .null), ("com/example/murmuration/murmuration/Place", "duration", "D", (.double du))] := O_a1_10.put (own_lay_Place hw) rfl own_nd_Place 8 rfl W11
  have Z11 : n0 ≤ h11.size := by rw [Wr.size W11]; exact Z10
  have N11 := Fr.snoc X11 N10 f_a1
  have K11 := K10.wr W11 (Or.inl (List.mem_of_getElem? (i := 0) rfl))
  show own_Fin p e below _ T11 (mkF m 47 #[.val (.ref a1), .val (.ref a2), .val .null, .val (.double du), .second] [])
  exact own_retV K X11 d13_47 (by rw [e11]; exact ⟨rfl, N11, K11, O_a1_11⟩) (by decide) (by decide)
def QTN (Z : State) (sid el : Addr) (x y z du : UInt64) (h0 : Heap) (n0 : Nat) (v : Option Value) (h : Heap) (L : List Loc) : Prop := ∃ b : Addr, v = some (.ref b) ∧ Fr n0 L ∧ Keep h0 h [] ∧ n0 ≤ b ∧ own_Obj Z h b "com/example/murmuration/murmuration/Place" [("com/example/murmuration/murmuration/Site", "id", "Ljava/lang/String;", (.ref sid)), ("com/example/murmuration/murmuration/Site", "first", "D", (.double x)), ("com/example/murmuration/murmuration/Site", "second", "D", (.double y)), ("com/example/murmuration/murmuration/Place", "value", "D", (.double z)), ("com/example/murmuration/murmuration/Place", "needs", "Ljava/util/List;", (.ref el)), ("com/example/murmuration/murmuration/Place", "paths", "Ljava/util/List;", (.ref el)), ("com/example/murmuration/murmuration/Place", "detect", "D", (.double 0)), ("com/example/murmuration/murmuration/Place", "window", "Lcom/example/murmuration/murmuration/Place$Window;", .null), ("com/example/murmuration/murmuration/Place", "duration", "D", (.double du))]
theorem own_pn12 : plainName "com/example/murmuration/murmuration/Place" = true := by first | (simp [plainName, overriddenIn]; done) | decide +kernel
theorem d12_0 : decode prog_10_method_6_code 0 = .ok (.new 8, 3) := by decide +kernel
theorem d12_3 : decode prog_10_method_6_code 3 = .ok (.dup, 1) := by decide +kernel
theorem d12_4 : decode prog_10_method_6_code 4 = .ok (.aload_n 0, 1) := by decide +kernel
theorem d12_5 : decode prog_10_method_6_code 5 = .ok (.aload_n 1, 1) := by decide +kernel
theorem d12_6 : decode prog_10_method_6_code 6 = .ok (.dload_n 2, 1) := by decide +kernel
theorem d12_7 : decode prog_10_method_6_code 7 = .ok (.invokespecial 58, 3) := by decide +kernel
theorem own_pd8 : parseMethodDescriptor "(Lcom/example/murmuration/murmuration/Place;Lcom/example/murmuration/murmuration/Place$Window;D)V" = some ⟨[(.object "com/example/murmuration/murmuration/Place"), (.object "com/example/murmuration/murmuration/Place$Window"), .double], none⟩ := by decide +kernel
theorem d12_10 : decode prog_10_method_6_code 10 = .ok (.areturn, 1) := by decide +kernel
set_option maxRecDepth 65536 in
set_option maxHeartbeats 40000000 in
theorem rmTN (l : Launch) (Z : State) (a0 : Array Value) (hw : ∀ d ∈ tables_1, d.before a0 Z = true) (a2 sid el : Addr) (x y z du : UInt64) (h0 : Heap) (n0 : Nat) (Z0 : n0 ≤ h0.size) (O_a2 : own_Obj Z h0 a2 "com/example/murmuration/murmuration/Place" [("com/example/murmuration/murmuration/Site", "id", "Ljava/lang/String;", (.ref sid)), ("com/example/murmuration/murmuration/Site", "first", "D", (.double x)), ("com/example/murmuration/murmuration/Site", "second", "D", (.double y)), ("com/example/murmuration/murmuration/Place", "value", "D", (.double z)), ("com/example/murmuration/murmuration/Place", "needs", "Ljava/util/List;", (.ref el)), ("com/example/murmuration/murmuration/Place", "paths", "Ljava/util/List;", (.ref el)), ("com/example/murmuration/murmuration/Place", "detect", "D", (.double 0)), ("com/example/murmuration/murmuration/Place", "window", "Lcom/example/murmuration/murmuration/Place$Window;", .null), ("com/example/murmuration/murmuration/Place", "duration", "D", (.double 0))]) :
    own_Met l Z (⟨"com/example/murmuration/murmuration/Place", "withTimes", "(Lcom/example/murmuration/murmuration/Place$Window;D)Lcom/example/murmuration/murmuration/Place;"⟩ : MethodName) prog_10_method_6_code 4 (some (.object "com/example/murmuration/murmuration/Place")) ({ frames := 4, cells := 1, slots := 9, locals := 100 } : Room) #[(.ref a2), .null, (.double du)] h0 (QTN Z sid el x y z du h0 n0) := by
  refine own_enter (plainFor_of_name own_pn12) (fun m => by first | (simp [entryFrame, mkF, argsToLocals, Value.category, maxLocals]; done) | rfl) (Ls := #[.val (.ref a2), .val .null, .val (.double du), .second]) ?_
  intro p e s m below meth c T0 K X0 e0
  have hx := K.1
  have hZ := K.2.1
  have hby := K.2.2.1
  have hown := K.2.2.2.2.1
  have N0 := Fr.nil n0
  have K0 : Keep h0 h0 [] := Keep.refl _ _
  show own_Fin p e below _ T0 (mkF m 0 #[.val (.ref a2), .val .null, .val (.double du), .second] [])
  refine own_newO K X0 e0 (hw _ (List.mem_of_getElem? (i := 88) rfl)) (hw _ (List.mem_of_getElem? (i := 27) rfl)) (hw _ (List.mem_of_getElem? (i := 28) rfl)) d12_0 (by decide) (by decide) ?_
  intro T1 h1 b1 g1 X1 e1 E1 A1 D1
  have ne_a2_b1 : a2 ≠ b1 := Nat.ne_of_lt (Nat.lt_of_lt_of_eq O_a2.lt g1.symm)
  have ne_b1_a2 := ne_a2_b1.symm
  have O_a2_1 : own_Obj Z h1 a2 "com/example/murmuration/murmuration/Place" [("com/example/murmuration/murmuration/Site", "id", "Ljava/lang/String;", (.ref sid)), ("com/example/murmuration/murmuration/Site", "first", "D", (.double x)), ("com/example/murmuration/murmuration/Site", "second", "D", (.double y)), ("com/example/murmuration/murmuration/Place", "value", "D", (.double z)), ("com/example/murmuration/murmuration/Place", "needs", "Ljava/util/List;", (.ref el)), ("com/example/murmuration/murmuration/Place", "paths", "Ljava/util/List;", (.ref el)), ("com/example/murmuration/murmuration/Place", "detect", "D", (.double 0)), ("com/example/murmuration/murmuration/Place", "window", "Lcom/example/murmuration/murmuration/Place$Window;", .null), ("com/example/murmuration/murmuration/Place", "duration", "D", (.double 0))] := O_a2.ext E1
  have f_b1 : n0 ≤ b1 := Nat.le_trans Z0 (Nat.le_of_eq g1.symm)
  have Z1 : n0 ≤ h1.size := Nat.le_trans Z0 E1.1
  have sz_b1 : h0.size ≤ b1 := Nat.le_trans K0.1 (Nat.le_of_eq g1.symm)
  have K1 := K0.ext E1
  have O_b1_1 : own_Obj Z h1 b1 "com/example/murmuration/murmuration/Place" [("com/example/murmuration/murmuration/Site", "id", "Ljava/lang/String;", .null), ("com/example/murmuration/murmuration/Site", "first", "D", (.double 0)), ("com/example/murmuration/murmuration/Site", "second", "D", (.double 0)), ("com/example/murmuration/murmuration/Place", "value", "D", (.double 0)), ("com/example/murmuration/murmuration/Place", "needs", "Ljava/util/List;", .null), ("com/example/murmuration/murmuration/Place", "paths", "Ljava/util/List;", .null), ("com/example/murmuration/murmuration/Place", "detect", "D", (.double 0)), ("com/example/murmuration/murmuration/Place", "window", "Lcom/example/murmuration/murmuration/Place$Window;", .null), ("com/example/murmuration/murmuration/Place", "duration", "D", (.double 0))] := ⟨A1, by
    intro q hq
    simp only [List.mem_cons, List.not_mem_nil, or_false] at hq
    rcases hq with rfl | rfl | rfl | rfl | rfl | rfl | rfl | rfl | rfl
    · exact D1 (Or.inr (hw _ (List.mem_of_getElem? (i := 48) rfl))) (ty := (.object "java/lang/String")) (by decide)
    · exact D1 (Or.inr (hw _ (List.mem_of_getElem? (i := 50) rfl))) (ty := .double) (by decide)
    · exact D1 (Or.inr (hw _ (List.mem_of_getElem? (i := 52) rfl))) (ty := .double) (by decide)
    · exact D1 (Or.inr (hw _ (List.mem_of_getElem? (i := 54) rfl))) (ty := .double) (by decide)
    · exact D1 (Or.inr (hw _ (List.mem_of_getElem? (i := 74) rfl))) (ty := (.object "java/util/List")) (by decide)
    · exact D1 (Or.inr (hw _ (List.mem_of_getElem? (i := 76) rfl))) (ty := (.object "java/util/List")) (by decide)
    · exact D1 (Or.inr (hw _ (List.mem_of_getElem? (i := 78) rfl))) (ty := .double) (by decide)
    · exact D1 (Or.inr (hw _ (List.mem_of_getElem? (i := 80) rfl))) (ty := (.object "com/example/murmuration/murmuration/Place$Window")) (by decide)
    · exact D1 (Or.inr (hw _ (List.mem_of_getElem? (i := 82) rfl))) (ty := .double) (by decide)⟩
  show own_Fin p e below _ T1 (mkF m 3 #[.val (.ref a2), .val .null, .val (.double du), .second] [(.ref b1)])
  refine own_seg (T' := T1) (g' := (mkF m 7 #[.val (.ref a2), .val .null, .val (.double du), .second] [(.double du), .null, (.ref a2), (.ref b1), (.ref b1)])) (fun tg kt => ?_) ?_
  · show Steps p.tables e below (T1.setTop (mkF m 3 #[.val (.ref a2), .val .null, .val (.double du), .second] [(.ref b1)])) tg
    refine XS.dup X1.here hx rfl (hb hby d12_3) rfl rfl ?_
    show Steps p.tables e below (T1.setTop (mkF m 4 #[.val (.ref a2), .val .null, .val (.double du), .second] [(.ref b1), (.ref b1)])) tg
    refine XS.aloadN X1.here hx rfl (hb hby d12_4) rfl rfl ?_
    show Steps p.tables e below (T1.setTop (mkF m 5 #[.val (.ref a2), .val .null, .val (.double du), .second] [(.ref a2), (.ref b1), (.ref b1)])) tg
    refine XS.aloadN X1.here hx rfl (hb hby d12_5) rfl rfl ?_
    show Steps p.tables e below (T1.setTop (mkF m 6 #[.val (.ref a2), .val .null, .val (.double du), .second] [.null, (.ref a2), (.ref b1), (.ref b1)])) tg
    refine own_dloadN X1.here hx rfl (hb hby d12_6) rfl ?_
    exact kt
  refine own_callI K X1 e1 (rmP5N l Z a0 hw b1 a2 sid el x y z du h1 n0 Z1 f_b1 ne_a2_b1 O_b1_1 O_a2_1) rfl (hw _ (List.mem_of_getElem? (i := 89) rfl)) (hw _ (List.mem_of_getElem? (i := 90) rfl)) (hw _ (List.mem_of_getElem? (i := 28) rfl)) (hw _ (List.mem_of_getElem? (i := 91) rfl)) (by decide) b1 [(.ref a2), .null, (.double du)] [(.ref b1)] own_pd8 rfl rfl rfl rfl d12_7 (by decide) (Nat.le_of_ble_eq_true rfl) (by decide) (by decide) ?_
  intro T2 L2 v2 X2 hQ2
  obtain ⟨h2, e2⟩ : ∃ z, T2.heap = z := ⟨_, rfl⟩
  rw [e2] at hQ2
  obtain ⟨rfl, Nq2, Kq2, Oq2_b1⟩ := hQ2
  have N2 := Fr.app N0 Nq2
  have O_a2_2 : own_Obj Z h2 a2 "com/example/murmuration/murmuration/Place" [("com/example/murmuration/murmuration/Site", "id", "Ljava/lang/String;", (.ref sid)), ("com/example/murmuration/murmuration/Site", "first", "D", (.double x)), ("com/example/murmuration/murmuration/Site", "second", "D", (.double y)), ("com/example/murmuration/murmuration/Place", "value", "D", (.double z)), ("com/example/murmuration/murmuration/Place", "needs", "Ljava/util/List;", (.ref el)), ("com/example/murmuration/murmuration/Place", "paths", "Ljava/util/List;", (.ref el)), ("com/example/murmuration/murmuration/Place", "detect", "D", (.double 0)), ("com/example/murmuration/murmuration/Place", "window", "Lcom/example/murmuration/murmuration/Place$Window;", .null), ("com/example/murmuration/murmuration/Place", "duration", "D", (.double 0))] := O_a2_1.keep Kq2 (ninS ne_a2_b1 nin0)
  have Z2 : n0 ≤ h2.size := Nat.le_trans Z1 Kq2.1
  have K2 := Keep.trans K1 Kq2 (allS (Or.inr sz_b1) all0)
  show own_Fin p e below _ T2 (mkF m 10 #[.val (.ref a2), .val .null, .val (.double du), .second] [(.ref b1)])
  exact own_retA K rfl X2 rfl d12_10 (by rw [e2]; exact ⟨_, rfl, N2, K2, f_b1, Oq2_b1⟩) (by decide) (by decide)
theorem own_pn15 : plainName "com/example/murmuration/murmuration/Place" = true := by first | (simp [plainName, overriddenIn]; done) | decide +kernel
theorem d15_0 : decode prog_10_method_15_code 0 = .ok (.aload_n 0, 1) := by decide +kernel
theorem d15_1 : decode prog_10_method_15_code 1 = .ok (.getfield 48, 3) := by decide +kernel
theorem d15_4 : decode prog_10_method_15_code 4 = .ok (.ifnonnull 7, 3) := by decide +kernel
theorem d15_7 : decode prog_10_method_15_code 7 = .ok (.dconst 0, 1) := by decide +kernel
theorem d15_8 : decode prog_10_method_15_code 8 = .ok (.goto 10, 3) := by decide +kernel
theorem d15_18 : decode prog_10_method_15_code 18 = .ok (.dreturn, 1) := by decide +kernel
set_option maxRecDepth 65536 in
set_option maxHeartbeats 40000000 in
theorem rmGN (l : Launch) (Z : State) (a0 : Array Value) (hw : ∀ d ∈ tables_1, d.before a0 Z = true) (a2 sid el : Addr) (x y z du ea la : UInt64) (h0 : Heap) (n0 : Nat) (Z0 : n0 ≤ h0.size) (O_a2 : own_Obj Z h0 a2 "com/example/murmuration/murmuration/Place" [("com/example/murmuration/murmuration/Site", "id", "Ljava/lang/String;", (.ref sid)), ("com/example/murmuration/murmuration/Site", "first", "D", (.double x)), ("com/example/murmuration/murmuration/Site", "second", "D", (.double y)), ("com/example/murmuration/murmuration/Place", "value", "D", (.double z)), ("com/example/murmuration/murmuration/Place", "needs", "Ljava/util/List;", (.ref el)), ("com/example/murmuration/murmuration/Place", "paths", "Ljava/util/List;", (.ref el)), ("com/example/murmuration/murmuration/Place", "detect", "D", (.double 0)), ("com/example/murmuration/murmuration/Place", "window", "Lcom/example/murmuration/murmuration/Place$Window;", .null), ("com/example/murmuration/murmuration/Place", "duration", "D", (.double du))]) :
    own_Met l Z (⟨"com/example/murmuration/murmuration/Place", "getEarliestStart", "()D"⟩ : MethodName) prog_10_method_15_code 1 (some .double) ({ frames := 0, cells := 0, slots := 0, locals := 0 } : Room) #[(.ref a2)] h0 (own_QD 0 h0 n0) := by
  refine own_enter (plainFor_of_name own_pn15) (fun m => by first | (simp [entryFrame, mkF, argsToLocals, Value.category, maxLocals]; done) | rfl) (Ls := #[.val (.ref a2)]) ?_
  intro p e s m below meth c T0 K X0 e0
  have hx := K.1
  have hZ := K.2.1
  have hby := K.2.2.1
  have hown := K.2.2.2.2.1
  have N0 := Fr.nil n0
  show own_Fin p e below _ T0 (mkF m 0 #[.val (.ref a2)] [])
  refine own_seg (T' := T0) (g' := (mkF m 1 #[.val (.ref a2)] [(.ref a2)])) (fun tg kt => ?_) ?_
  · show Steps p.tables e below (T0.setTop (mkF m 0 #[.val (.ref a2)] [])) tg
    refine XS.aloadN X0.here hx rfl (hb hby d15_0) rfl rfl ?_
    exact kt
  refine own_getF K X0 e0 (host := "") (Or.inl (hw _ (List.mem_of_getElem? (i := 79) rfl))) Via.refl (O_a2.get 7 rfl) d15_1 ?_
  intro T1 X1 e1
  show own_Fin p e below _ T1 (mkF m 4 #[.val (.ref a2)] [.null])
  refine own_seg (T' := T1) (g' := (mkF m 18 #[.val (.ref a2)] [(.double 0)])) (fun tg kt => ?_) ?_
  · show Steps p.tables e below (T1.setTop (mkF m 4 #[.val (.ref a2)] [.null])) tg
    refine XS.ifnonnullNo X1.here hx rfl (hb hby d15_4) rfl ?_
    show Steps p.tables e below (T1.setTop (mkF m 7 #[.val (.ref a2)] [])) tg
    refine own_dconst0 X1.here hx rfl (hb hby d15_7) ?_
    show Steps p.tables e below (T1.setTop (mkF m 8 #[.val (.ref a2)] [(.double 0)])) tg
    refine XS.goto X1.here hx rfl (pc0 := 8) (pc' := 18) rfl (hb hby d15_8) (by decide) (by decide) ?_
    exact kt
  exact own_retD K X1 d15_18 (⟨rfl, N0, e1⟩) (by decide) (by decide)
set_option maxRecDepth 65536 in
set_option maxHeartbeats 40000000 in
theorem rmP5R (l : Launch) (Z : State) (a0 : Array Value) (hw : ∀ d ∈ tables_1, d.before a0 Z = true) (a1 a2 sid el wa : Addr) (x y z du : UInt64) (h0 : Heap) (n0 : Nat) (Z0 : n0 ≤ h0.size) (f_a1 : n0 ≤ a1) (ne_a2_a1 : a2 ≠ a1) (O_a1 : own_Obj Z h0 a1 "com/example/murmuration/murmuration/Place" [("com/example/murmuration/murmuration/Site", "id", "Ljava/lang/String;", .null), ("com/example/murmuration/murmuration/Site", "first", "D", (.double 0)), ("com/example/murmuration/murmuration/Site", "second", "D", (.double 0)), ("com/example/murmuration/murmuration/Place", "value", "D", (.double 0)), ("com/example/murmuration/murmuration/Place", "needs", "Ljava/util/List;", .null), ("com/example/murmuration/murmuration/Place", "paths", "Ljava/util/List;", .null), ("com/example/murmuration/murmuration/Place", "detect", "D", (.double 0)), ("com/example/murmuration/murmuration/Place", "window", "Lcom/example/murmuration/murmuration/Place$Window;", .null), ("com/example/murmuration/murmuration/Place", "duration", "D", (.double 0))]) (O_a2 : own_Obj Z h0 a2 "com/example/murmuration/murmuration/Place" [("com/example/murmuration/murmuration/Site", "id", "Ljava/lang/String;", (.ref sid)), ("com/example/murmuration/murmuration/Site", "first", "D", (.double x)), ("com/example/murmuration/murmuration/Site", "second", "D", (.double y)), ("com/example/murmuration/murmuration/Place", "value", "D", (.double z)), ("com/example/murmuration/murmuration/Place", "needs", "Ljava/util/List;", (.ref el)), ("com/example/murmuration/murmuration/Place", "paths", "Ljava/util/List;", (.ref el)), ("com/example/murmuration/murmuration/Place", "detect", "D", (.double 0)), ("com/example/murmuration/murmuration/Place", "window", "Lcom/example/murmuration/murmuration/Place$Window;", .null), ("com/example/murmuration/murmuration/Place", "duration", "D", (.double 0))]) :
    own_Met l Z (⟨"com/example/murmuration/murmuration/Place", "<init>", "(Lcom/example/murmuration/murmuration/Place;Lcom/example/murmuration/murmuration/Place$Window;D)V"⟩ : MethodName) prog_10_method_5_code 5 none ({ frames := 3, cells := 0, slots := 0, locals := 80 } : Room) #[(.ref a1), (.ref a2), (.ref wa), (.double du)] h0 (QP Z a1 [("com/example/murmuration/murmuration/Site", "id", "Ljava/lang/String;", (.ref sid)), ("com/example/murmuration/murmuration/Site", "first", "D", (.double x)), ("com/example/murmuration/murmuration/Site", "second", "D", (.double y)), ("com/example/murmuration/murmuration/Place", "value", "D", (.double z)), ("com/example/murmuration/murmuration/Place", "needs", "Ljava/util/List;", (.ref el)), ("com/example/murmuration/murmuration/Place", "paths", "Ljava/util/List;", (.ref el)), ("com/example/murmuration/murmuration/Place", "detect", "D", (.double 0)), ("com/example/murmuration/murmuration/Place", "window", "Lcom/example/murmuration/murmuration/Place$Window;", (.ref wa)), ("com/example/murmuration/murmuration/Place", "duration", "D", (.double du))] h0 n0) := by
  refine own_enter (plainFor_of_name own_pn13) (fun m => by first | (simp [entryFrame, mkF, argsToLocals, Value.category, maxLocals]; done) | rfl) (Ls := #[.val (.ref a1), .val (.ref a2), .val (.ref wa), .val (.double du), .second]) ?_
  intro p e s m below meth c T0 K X0 e0
  have hx := K.1
  have hZ := K.2.1
  have hby := K.2.2.1
  have hown := K.2.2.2.2.1
  have N0 := Fr.nil n0
  have K0 : Keep h0 h0 [a1] := Keep.refl _ _
  show own_Fin p e below _ T0 (mkF m 0 #[.val (.ref a1), .val (.ref a2), .val (.ref wa), .val (.double du), .second] [])
  refine own_seg (T' := T0) (g' := (mkF m 2 #[.val (.ref a1), .val (.ref a2), .val (.ref wa), .val (.double du), .second] [(.ref a2), (.ref a1)])) (fun tg kt => ?_) ?_
  · show Steps p.tables e below (T0.setTop (mkF m 0 #[.val (.ref a1), .val (.ref a2), .val (.ref wa), .val (.double du), .second] [])) tg
    refine XS.aloadN X0.here hx rfl (hb hby d13_0) rfl rfl ?_
    show Steps p.tables e below (T0.setTop (mkF m 1 #[.val (.ref a1), .val (.ref a2), .val (.ref wa), .val (.double du), .second] [(.ref a1)])) tg
    refine XS.aloadN X0.here hx rfl (hb hby d13_1) rfl rfl ?_
    exact kt
  refine own_callI K X0 e0 (rmS2 l Z a0 hw a1 a2 sid el x y z h0 n0 Z0 f_a1 ne_a2_a1 O_a1 O_a2) rfl (hw _ (List.mem_of_getElem? (i := 92) rfl)) (hw _ (List.mem_of_getElem? (i := 93) rfl)) (hw _ (List.mem_of_getElem? (i := 44) rfl)) (hw _ (List.mem_of_getElem? (i := 95) rfl)) (by decide) a1 [(.ref a2)] [] own_pd7 rfl rfl rfl rfl d13_2 (by decide) (Nat.le_of_ble_eq_true rfl) (by decide) (by decide) ?_
  intro T1 L1 v1 X1 hQ1
  obtain ⟨h1, e1⟩ : ∃ z, T1.heap = z := ⟨_, rfl⟩
  rw [e1] at hQ1
  obtain ⟨rfl, Nq1, Kq1, Oq1_a1⟩ := hQ1
  have N1 := Fr.app N0 Nq1
  have O_a2_1 : own_Obj Z h1 a2 "com/example/murmuration/murmuration/Place" [("com/example/murmuration/murmuration/Site", "id", "Ljava/lang/String;", (.ref sid)), ("com/example/murmuration/murmuration/Site", "first", "D", (.double x)), ("com/example/murmuration/murmuration/Site", "second", "D", (.double y)), ("com/example/murmuration/murmuration/Place", "value", "D", (.double z)), ("com/example/murmuration/murmuration/Place", "needs", "Ljava/util/List;", (.ref el)), ("com/example/murmuration/murmuration/Place", "paths", "Ljava/util/List;", (.ref el)), ("com/example/murmuration/murmuration/Place", "detect", "D", (.double 0)), ("com/example/murmuration/murmuration/Place", "window", "Lcom/example/murmuration/murmuration/Place$Window;", .null), ("com/example/murmuration/murmuration/Place", "duration", "D", (.double 0))] := O_a2.keep Kq1 (ninS ne_a2_a1 nin0)
  have Z1 : n0 ≤ h1.size := Nat.le_trans Z0 Kq1.1
  have K1 := Keep.trans K0 Kq1 (allS (Or.inl (List.mem_of_getElem? (i := 0) rfl)) all0)
  show own_Fin p e below _ T1 (mkF m 5 #[.val (.ref a1), .val (.ref a2), .val (.ref wa), .val (.double du), .second] [])
  refine own_seg (T' := T1) (g' := (mkF m 7 #[.val (.ref a1), .val (.ref a2), .val (.ref wa), .val (.double du), .second] [(.ref a2), (.ref a1)])) (fun tg kt => ?_) ?_
  · show Steps p.tables e below (T1.setTop (mkF m 5 #[.val (.ref a1), .val (.ref a2), .val (.ref wa), .val (.double du), .second] [])) tg
    refine XS.aloadN X1.here hx rfl (hb hby d13_5) rfl rfl ?_
    show Steps p.tables e below (T1.setTop (mkF m 6 #[.val (.ref a1), .val (.ref a2), .val (.ref wa), .val (.double du), .second] [(.ref a1)])) tg
    refine XS.aloadN X1.here hx rfl (hb hby d13_6) rfl rfl ?_
    exact kt
  refine own_getF K X1 e1 (host := "") (Or.inl (hw _ (List.mem_of_getElem? (i := 53) rfl))) Via.refl (O_a2_1.get 3 rfl) d13_7 ?_
  intro T2 X2 e2
  show own_Fin p e below _ T2 (mkF m 10 #[.val (.ref a1), .val (.ref a2), .val (.ref wa), .val (.double du), .second] [(.double z), (.ref a1)])
  refine own_putF K X2 e2 (host := "") (Or.inl (hw _ (List.mem_of_getElem? (i := 53) rfl))) Via.refl (Oq1_a1.get 3 rfl) Oq1_a1.exa (Or.inr ⟨(hw _ (List.mem_of_getElem? (i := 54) rfl)), rfl, rfl⟩) (hw _ (List.mem_of_getElem? (i := 27) rfl)) (ty := .double) (by decide) rfl rfl d13_10 ?_
  intro T3 h3 X3 e3 W3
  have O_a2_3 : own_Obj Z h3 a2 "com/example/murmuration/murmuration/Place" [("com/example/murmuration/murmuration/Site", "id", "Ljava/lang/String;", (.ref sid)), ("com/example/murmuration/murmuration/Site", "first", "D", (.double x)), ("com/example/murmuration/murmuration/Site", "second", "D", (.double y)), ("com/example/murmuration/murmuration/Place", "value", "D", (.double z)), ("com/example/murmuration/murmuration/Place", "needs", "Ljava/util/List;", (.ref el)), ("com/example/murmuration/murmuration/Place", "paths", "Ljava/util/List;", (.ref el)), ("com/example/murmuration/murmuration/Place", "detect", "D", (.double 0)), ("com/example/murmuration/murmuration/Place", "window", "Lcom/example/murmuration/murmuration/Place$Window;", .null), ("com/example/murmuration/murmuration/Place", "duration", "D", (.double 0))] := O_a2_1.other W3 ne_a2_a1
  have O_a1_3 : own_Obj Z h3 a1 "com/example/murmuration/murmuration/Place" [("com/example/murmuration/murmuration/Site", "id", "Ljava/lang/String;", (.ref sid)), ("com/example/murmuration/murmuration/Site", "first", "D", (.double x)), ("com/example/murmuration/murmuration/Site", "second", "D", (.double y)), ("com/example/murmuration/murmuration/Place", "value", "D", (.double z)), ("com/example/murmuration/murmuration/Place", "needs", "Ljava/util/List;", .null), ("com/example/murmuration/murmuration/Place", "paths", "Ljava/util/List;", .null), ("com/example/murmuration/murmuration/Place", "detect", "D", (.double 0)), ("com/example/murmuration/murmuration/Place", "window", "Lcom/example/murmuration/murmuration/Place$Window;", .null), ("com/example/murmuration/murmuration/Place", "duration", "D", (.double 0))] := Oq1_a1.put (own_lay_Place hw) rfl own_nd_Place 3 rfl W3
  have Z3 : n0 ≤ h3.size := by rw [Wr.size W3]; exact Z1
  have N3 := Fr.snoc X3 N1 f_a1
  have K3 := K1.wr W3 (Or.inl (List.mem_of_getElem? (i := 0) rfl))
  show own_Fin p e below _ T3 (mkF m 13 #[.val (.ref a1), .val (.ref a2), .val (.ref wa), .val (.double du), .second] [])
  refine own_seg (T' := T3) (g' := (mkF m 15 #[.val (.ref a1), .val (.ref a2), .val (.ref wa), .val (.double du), .second] [(.ref a2), (.ref a1)])) (fun tg kt => ?_) ?_
  · show Steps p.tables e below (T3.setTop (mkF m 13 #[.val (.ref a1), .val (.ref a2), .val (.ref wa), .val (.double du), .second] [])) tg
    refine XS.aloadN X3.here hx rfl (hb hby d13_13) rfl rfl ?_
    show Steps p.tables e below (T3.setTop (mkF m 14 #[.val (.ref a1), .val (.ref a2), .val (.ref wa), .val (.double du), .second] [(.ref a1)])) tg
    refine XS.aloadN X3.here hx rfl (hb hby d13_14) rfl rfl ?_
    exact kt
  refine own_getF K X3 e3 (host := "") (Or.inl (hw _ (List.mem_of_getElem? (i := 73) rfl))) Via.refl (O_a2_3.get 4 rfl) d13_15 ?_
  intro T4 X4 e4
  show own_Fin p e below _ T4 (mkF m 18 #[.val (.ref a1), .val (.ref a2), .val (.ref wa), .val (.double du), .second] [(.ref el), (.ref a1)])
  refine own_putF K X4 e4 (host := "") (Or.inl (hw _ (List.mem_of_getElem? (i := 73) rfl))) Via.refl (O_a1_3.get 4 rfl) O_a1_3.exa (Or.inr ⟨(hw _ (List.mem_of_getElem? (i := 74) rfl)), rfl, rfl⟩) (hw _ (List.mem_of_getElem? (i := 27) rfl)) (ty := (.object "java/util/List")) (by decide) rfl rfl d13_18 ?_
  intro T5 h5 X5 e5 W5
  have O_a2_5 : own_Obj Z h5 a2 "com/example/murmuration/murmuration/Place" [("com/example/murmuration/murmuration/Site", "id", "Ljava/lang/String;", (.ref sid)), ("com/example/murmuration/murmuration/Site", "first", "D", (.double x)), ("com/example/murmuration/murmuration/Site", "second", "D", (.double y)), ("com/example/murmuration/murmuration/Place", "value", "D", (.double z)), ("com/example/murmuration/murmuration/Place", "needs", "Ljava/util/List;", (.ref el)), ("com/example/murmuration/murmuration/Place", "paths", "Ljava/util/List;", (.ref el)), ("com/example/murmuration/murmuration/Place", "detect", "D", (.double 0)), ("com/example/murmuration/murmuration/Place", "window", "Lcom/example/murmuration/murmuration/Place$Window;", .null), ("com/example/murmuration/murmuration/Place", "duration", "D", (.double 0))] := O_a2_3.other W5 ne_a2_a1
  have O_a1_5 : own_Obj Z h5 a1 "com/example/murmuration/murmuration/Place" [("com/example/murmuration/murmuration/Site", "id", "Ljava/lang/String;", (.ref sid)), ("com/example/murmuration/murmuration/Site", "first", "D", (.double x)), ("com/example/murmuration/murmuration/Site", "second", "D", (.double y)), ("com/example/murmuration/murmuration/Place", "value", "D", (.double z)), ("com/example/murmuration/murmuration/Place", "needs", "Ljava/util/List;", (.ref el)), ("com/example/murmuration/murmuration/Place", "paths", "Ljava/util/List;", .null), ("com/example/murmuration/murmuration/Place", "detect", "D", (.double 0)), ("com/example/murmuration/murmuration/Place", "window", "Lcom/example/murmuration/murmuration/Place$Window;", .null), ("com/example/murmuration/murmuration/Place", "duration", "D", (.double 0))] := O_a1_3.put (own_lay_Place hw) rfl own_nd_Place 4 rfl W5
  have Z5 : n0 ≤ h5.size := by rw [Wr.size W5]; exact Z3
  have N5 := Fr.snoc X5 N3 f_a1
  have K5 := K3.wr W5 (Or.inl (List.mem_of_getElem? (i := 0) rfl))
  show own_Fin p e below _ T5 (mkF m 21 #[.val (.ref a1), .val (.ref a2), .val (.ref wa), .val (.double du), .second] [])
  refine own_seg (T' := T5) (g' := (mkF m 23 #[.val (.ref a1), .val (.ref a2), .val (.ref wa), .val (.double du), .second] [(.ref a2), (.ref a1)])) (fun tg kt => ?_) ?_
  · show Steps p.tables e below (T5.setTop (mkF m 21 #[.val (.ref a1), .val (.ref a2), .val (.ref wa), .val (.double du), .second] [])) tg
    refine XS.aloadN X5.here hx rfl (hb hby d13_21) rfl rfl ?_
    show Steps p.tables e below (T5.setTop (mkF m 22 #[.val (.ref a1), .val (.ref a2), .val (.ref wa), .val (.double du), .second] [(.ref a1)])) tg
    refine XS.aloadN X5.here hx rfl (hb hby d13_22) rfl rfl ?_
    exact kt
  refine own_getF K X5 e5 (host := "") (Or.inl (hw _ (List.mem_of_getElem? (i := 75) rfl))) Via.refl (O_a2_5.get 5 rfl) d13_23 ?_
  intro T6 X6 e6
  show own_Fin p e below _ T6 (mkF m 26 #[.val (.ref a1), .val (.ref a2), .val (.ref wa), .val (.double du), .second] [(.ref el), (.ref a1)])
  refine own_putF K X6 e6 (host := "") (Or.inl (hw _ (List.mem_of_getElem? (i := 75) rfl))) Via.refl (O_a1_5.get 5 rfl) O_a1_5.exa (Or.inr ⟨(hw _ (List.mem_of_getElem? (i := 76) rfl)), rfl, rfl⟩) (hw _ (List.mem_of_getElem? (i := 27) rfl)) (ty := (.object "java/util/List")) (by decide) rfl rfl d13_26 ?_
  intro T7 h7 X7 e7 W7
  have O_a2_7 : own_Obj Z h7 a2 "com/example/murmuration/murmuration/Place" [("com/example/murmuration/murmuration/Site", "id", "Ljava/lang/String;", (.ref sid)), ("com/example/murmuration/murmuration/Site", "first", "D", (.double x)), ("com/example/murmuration/murmuration/Site", "second", "D", (.double y)), ("com/example/murmuration/murmuration/Place", "value", "D", (.double z)), ("com/example/murmuration/murmuration/Place", "needs", "Ljava/util/List;", (.ref el)), ("com/example/murmuration/murmuration/Place", "paths", "Ljava/util/List;", (.ref el)), ("com/example/murmuration/murmuration/Place", "detect", "D", (.double 0)), ("com/example/murmuration/murmuration/Place", "window", "Lcom/example/murmuration/murmuration/Place$Window;", .null), ("com/example/murmuration/murmuration/Place", "duration", "D", (.double 0))] := O_a2_5.other W7 ne_a2_a1
  have O_a1_7 : own_Obj Z h7 a1 "com/example/murmuration/murmuration/Place" [("com/example/murmuration/murmuration/Site", "id", "Ljava/lang/String;", (.ref sid)), ("com/example/murmuration/murmuration/Site", "first", "D", (.double x)), ("com/example/murmuration/murmuration/Site", "second", "D", (.double y)), ("com/example/murmuration/murmuration/Place", "value", "D", (.double z)), ("com/example/murmuration/murmuration/Place", "needs", "Ljava/util/List;", (.ref el)), ("com/example/murmuration/murmuration/Place", "paths", "Ljava/util/List;", (.ref el)), ("com/example/murmuration/murmuration/Place", "detect", "D", (.double 0)), ("com/example/murmuration/murmuration/Place", "window", "Lcom/example/murmuration/murmuration/Place$Window;", .null), ("com/example/murmuration/murmuration/Place", "duration", "D", (.double 0))] := O_a1_5.put (own_lay_Place hw) rfl own_nd_Place 5 rfl W7
  have Z7 : n0 ≤ h7.size := by rw [Wr.size W7]; exact Z5
  have N7 := Fr.snoc X7 N5 f_a1
  have K7 := K5.wr W7 (Or.inl (List.mem_of_getElem? (i := 0) rfl))
  show own_Fin p e below _ T7 (mkF m 29 #[.val (.ref a1), .val (.ref a2), .val (.ref wa), .val (.double du), .second] [])
  refine own_seg (T' := T7) (g' := (mkF m 31 #[.val (.ref a1), .val (.ref a2), .val (.ref wa), .val (.double du), .second] [(.ref a2), (.ref a1)])) (fun tg kt => ?_) ?_
  · show Steps p.tables e below (T7.setTop (mkF m 29 #[.val (.ref a1), .val (.ref a2), .val (.ref wa), .val (.double du), .second] [])) tg
    refine XS.aloadN X7.here hx rfl (hb hby d13_29) rfl rfl ?_
    show Steps p.tables e below (T7.setTop (mkF m 30 #[.val (.ref a1), .val (.ref a2), .val (.ref wa), .val (.double du), .second] [(.ref a1)])) tg
    refine XS.aloadN X7.here hx rfl (hb hby d13_30) rfl rfl ?_
    exact kt
  refine own_getF K X7 e7 (host := "") (Or.inl (hw _ (List.mem_of_getElem? (i := 77) rfl))) Via.refl (O_a2_7.get 6 rfl) d13_31 ?_
  intro T8 X8 e8
  show own_Fin p e below _ T8 (mkF m 34 #[.val (.ref a1), .val (.ref a2), .val (.ref wa), .val (.double du), .second] [(.double 0), (.ref a1)])
  refine own_putF K X8 e8 (host := "") (Or.inl (hw _ (List.mem_of_getElem? (i := 77) rfl))) Via.refl (O_a1_7.get 6 rfl) O_a1_7.exa (Or.inr ⟨(hw _ (List.mem_of_getElem? (i := 78) rfl)), rfl, rfl⟩) (hw _ (List.mem_of_getElem? (i := 27) rfl)) (ty := .double) (by decide) rfl rfl d13_34 ?_
  intro T9 h9 X9 e9 W9
  have O_a2_9 : own_Obj Z h9 a2 "com/example/murmuration/murmuration/Place" [("com/example/murmuration/murmuration/Site", "id", "Ljava/lang/String;", (.ref sid)), ("com/example/murmuration/murmuration/Site", "first", "D", (.double x)), ("com/example/murmuration/murmuration/Site", "second", "D", (.double y)), ("com/example/murmuration/murmuration/Place", "value", "D", (.double z)), ("com/example/murmuration/murmuration/Place", "needs", "Ljava/util/List;", (.ref el)), ("com/example/murmuration/murmuration/Place", "paths", "Ljava/util/List;", (.ref el)), ("com/example/murmuration/murmuration/Place", "detect", "D", (.double 0)), ("com/example/murmuration/murmuration/Place", "window", "Lcom/example/murmuration/murmuration/Place$Window;", .null), ("com/example/murmuration/murmuration/Place", "duration", "D", (.double 0))] := O_a2_7.other W9 ne_a2_a1
  have O_a1_9 : own_Obj Z h9 a1 "com/example/murmuration/murmuration/Place" [("com/example/murmuration/murmuration/Site", "id", "Ljava/lang/String;", (.ref sid)), ("com/example/murmuration/murmuration/Site", "first", "D", (.double x)), ("com/example/murmuration/murmuration/Site", "second", "D", (.double y)), ("com/example/murmuration/murmuration/Place", "value", "D", (.double z)), ("com/example/murmuration/murmuration/Place", "needs", "Ljava/util/List;", (.ref el)), ("com/example/murmuration/murmuration/Place", "paths", "Ljava/util/List;", (.ref el)), ("com/example/murmuration/murmuration/Place", "detect", "D", (.double 0)), ("com/example/murmuration/murmuration/Place", "window", "Lcom/example/murmuration/murmuration/Place$Window;", .null), ("com/example/murmuration/murmuration/Place", "duration", "D", (.double 0))] := O_a1_7.put (own_lay_Place hw) rfl own_nd_Place 6 rfl W9
  have Z9 : n0 ≤ h9.size := by rw [Wr.size W9]; exact Z7
  have N9 := Fr.snoc X9 N7 f_a1
  have K9 := K7.wr W9 (Or.inl (List.mem_of_getElem? (i := 0) rfl))
  show own_Fin p e below _ T9 (mkF m 37 #[.val (.ref a1), .val (.ref a2), .val (.ref wa), .val (.double du), .second] [])
  refine own_seg (T' := T9) (g' := (mkF m 39 #[.val (.ref a1), .val (.ref a2), .val (.ref wa), .val (.double du), .second] [(.ref wa), (.ref a1)])) (fun tg kt => ?_) ?_
  · show Steps p.tables e below (T9.setTop (mkF m 37 #[.val (.ref a1), .val (.ref a2), .val (.ref wa), .val (.double du), .second] [])) tg
    refine XS.aloadN X9.here hx rfl (hb hby d13_37) rfl rfl ?_
    show Steps p.tables e below (T9.setTop (mkF m 38 #[.val (.ref a1), .val (.ref a2), .val (.ref wa), .val (.double du), .second] [(.ref a1)])) tg
    refine XS.aloadN X9.here hx rfl (hb hby d13_38) rfl rfl ?_
    exact kt
  refine own_putF K X9 e9 (host := "") (Or.inl (hw _ (List.mem_of_getElem? (i := 79) rfl))) Via.refl (O_a1_9.get 7 rfl) O_a1_9.exa (Or.inr ⟨(hw _ (List.mem_of_getElem? (i := 80) rfl)), rfl, rfl⟩) (hw _ (List.mem_of_getElem? (i := 27) rfl)) (ty := (.object "com/example/murmuration/murmuration/Place$Window")) (by decide) rfl rfl d13_39 ?_
  intro T10 h10 X10 e10 W10
  have O_a2_10 : own_Obj Z h10 a2 "com/example/murmuration/murmuration/Place" [("com/example/murmuration/murmuration/Site", "id", "Ljava/lang/String;", (.ref sid)), ("com/example/murmuration/murmuration/Site", "first", "D", (.double x)), ("com/example/murmuration/murmuration/Site", "second", "D", (.double y)), ("com/example/murmuration/murmuration/Place", "value", "D", (.double z)), ("com/example/murmuration/murmuration/Place", "needs", "Ljava/util/List;", (.ref el)), ("com/example/murmuration/murmuration/Place", "paths", "Ljava/util/List;", (.ref el)), ("com/example/murmuration/murmuration/Place", "detect", "D", (.double 0)), ("com/example/murmuration/murmuration/Place", "window", "Lcom/example/murmuration/murmuration/Place$Window;", .null), ("com/example/murmuration/murmuration/Place", "duration", "D", (.double 0))] := O_a2_9.other W10 ne_a2_a1
  have O_a1_10 : own_Obj Z h10 a1 "com/example/murmuration/murmuration/Place" [("com/example/murmuration/murmuration/Site", "id", "Ljava/lang/String;", (.ref sid)), ("com/example/murmuration/murmuration/Site", "first", "D", (.double x)), ("com/example/murmuration/murmuration/Site", "second", "D", (.double y)), ("com/example/murmuration/murmuration/Place", "value", "D", (.double z)), ("com/example/murmuration/murmuration/Place", "needs", "Ljava/util/List;", (.ref el)), ("com/example/murmuration/murmuration/Place", "paths", "Ljava/util/List;", (.ref el)), ("com/example/murmuration/murmuration/Place", "detect", "D", (.double 0)), ("com/example/murmuration/murmuration/Place", "window", "Lcom/example/murmuration/murmuration/Place$Window;", (.ref wa)), ("com/example/murmuration/murmuration/Place", "duration", "D", (.double 0))] := O_a1_9.put (own_lay_Place hw) rfl own_nd_Place 7 rfl W10
  have Z10 : n0 ≤ h10.size := by rw [Wr.size W10]; exact Z9
  have N10 := Fr.snoc X10 N9 f_a1
  have K10 := K9.wr W10 (Or.inl (List.mem_of_getElem? (i := 0) rfl))
  show own_Fin p e below _ T10 (mkF m 42 #[.val (.ref a1), .val (.ref a2), .val (.ref wa), .val (.double du), .second] [])
  refine own_seg (T' := T10) (g' := (mkF m 44 #[.val (.ref a1), .val (.ref a2), .val (.ref wa), .val (.double du), .second] [(.double du), (.ref a1)])) (fun tg kt => ?_) ?_
  · show Steps p.tables e below (T10.setTop (mkF m 42 #[.val (.ref a1), .val (.ref a2), .val (.ref wa), .val (.double du), .second] [])) tg
    refine XS.aloadN X10.here hx rfl (hb hby d13_42) rfl rfl ?_
    show Steps p.tables e below (T10.setTop (mkF m 43 #[.val (.ref a1), .val (.ref a2), .val (.ref wa), .val (.double du), .second] [(.ref a1)])) tg
    refine own_dloadN X10.here hx rfl (hb hby d13_43) rfl ?_
    exact kt
  refine own_putF K X10 e10 (host := "") (Or.inl (hw _ (List.mem_of_getElem? (i := 81) rfl))) Via.refl (O_a1_10.get 8 rfl) O_a1_10.exa (Or.inr ⟨(hw _ (List.mem_of_getElem? (i := 82) rfl)), rfl, rfl⟩) (hw _ (List.mem_of_getElem? (i := 27) rfl)) (ty := .double) (by decide) rfl rfl d13_44 ?_
  intro T11 h11 X11 e11 W11
  have O_a2_11 : own_Obj Z h11 a2 "com/example/murmuration/murmuration/Place" [("com/example/murmuration/murmuration/Site", "id", "Ljava/lang/String;", (.ref sid)), ("com/example/murmuration/murmuration/Site", "first", "D", (.double x)), ("com/example/murmuration/murmuration/Site", "second", "D", (.double y)), ("com/example/murmuration/murmuration/Place", "value", "D", (.double z)), ("com/example/murmuration/murmuration/Place", "needs", "Ljava/util/List;", (.ref el)), ("com/example/murmuration/murmuration/Place", "paths", "Ljava/util/List;", (.ref el)), ("com/example/murmuration/murmuration/Place", "detect", "D", (.double 0)), ("com/example/murmuration/murmuration/Place", "window", "Lcom/example/murmuration/murmuration/Place$Window;", .null), ("com/example/murmuration/murmuration/Place", "duration", "D", (.double 0))] := O_a2_10.other W11 ne_a2_a1
  have O_a1_11 : own_Obj Z h11 a1 "com/example/murmuration/murmuration/Place" [("com/example/murmuration/murmuration/Site", "id", "Ljava/lang/String;", (.ref sid)), ("com/example/murmuration/murmuration/Site", "first", "D", (.double x)), ("com/example/murmuration/murmuration/Site", "second", "D", (.double y)), ("com/example/murmuration/murmuration/Place", "value", "D", (.double z)), ("com/example/murmuration/murmuration/Place", "needs", "Ljava/util/List;", (.ref el)), ("com/example/murmuration/murmuration/Place", "paths", "Ljava/util/List;", (.ref el)), ("com/example/murmuration/murmuration/Place", "detect", "D", (.double 0)), ("com/example/murmuration/murmuration/Place", "window", "Lcom/example/murmuration/murmuration/Place$Window;", (.ref wa)), ("com/example/murmuration/murmuration/Place", "duration", "D", (.double du))] := O_a1_10.put (own_lay_Place hw) rfl own_nd_Place 8 rfl W11
  have Z11 : n0 ≤ h11.size := by rw [Wr.size W11]; exact Z10
  have N11 := Fr.snoc X11 N10 f_a1
  have K11 := K10.wr W11 (Or.inl (List.mem_of_getElem? (i := 0) rfl))
  show own_Fin p e below _ T11 (mkF m 47 #[.val (.ref a1), .val (.ref a2), .val (.ref wa), .val (.double du), .second] [])
  exact own_retV K X11 d13_47 (by rw [e11]; exact ⟨rfl, N11, K11, O_a1_11⟩) (by decide) (by decide)
def QTR (Z : State) (sid el wa : Addr) (x y z du : UInt64) (h0 : Heap) (n0 : Nat) (v : Option Value) (h : Heap) (L : List Loc) : Prop := ∃ b : Addr, v = some (.ref b) ∧ Fr n0 L ∧ Keep h0 h [] ∧ n0 ≤ b ∧ own_Obj Z h b "com/example/murmuration/murmuration/Place" [("com/example/murmuration/murmuration/Site", "id", "Ljava/lang/String;", (.ref sid)), ("com/example/murmuration/murmuration/Site", "first", "D", (.double x)), ("com/example/murmuration/murmuration/Site", "second", "D", (.double y)), ("com/example/murmuration/murmuration/Place", "value", "D", (.double z)), ("com/example/murmuration/murmuration/Place", "needs", "Ljava/util/List;", (.ref el)), ("com/example/murmuration/murmuration/Place", "paths", "Ljava/util/List;", (.ref el)), ("com/example/murmuration/murmuration/Place", "detect", "D", (.double 0)), ("com/example/murmuration/murmuration/Place", "window", "Lcom/example/murmuration/murmuration/Place$Window;", (.ref wa)), ("com/example/murmuration/murmuration/Place", "duration", "D", (.double du))]
set_option maxRecDepth 65536 in
set_option maxHeartbeats 40000000 in
theorem rmTR (l : Launch) (Z : State) (a0 : Array Value) (hw : ∀ d ∈ tables_1, d.before a0 Z = true) (a2 sid el wa : Addr) (x y z du : UInt64) (h0 : Heap) (n0 : Nat) (Z0 : n0 ≤ h0.size) (O_a2 : own_Obj Z h0 a2 "com/example/murmuration/murmuration/Place" [("com/example/murmuration/murmuration/Site", "id", "Ljava/lang/String;", (.ref sid)), ("com/example/murmuration/murmuration/Site", "first", "D", (.double x)), ("com/example/murmuration/murmuration/Site", "second", "D", (.double y)), ("com/example/murmuration/murmuration/Place", "value", "D", (.double z)), ("com/example/murmuration/murmuration/Place", "needs", "Ljava/util/List;", (.ref el)), ("com/example/murmuration/murmuration/Place", "paths", "Ljava/util/List;", (.ref el)), ("com/example/murmuration/murmuration/Place", "detect", "D", (.double 0)), ("com/example/murmuration/murmuration/Place", "window", "Lcom/example/murmuration/murmuration/Place$Window;", .null), ("com/example/murmuration/murmuration/Place", "duration", "D", (.double 0))]) :
    own_Met l Z (⟨"com/example/murmuration/murmuration/Place", "withTimes", "(Lcom/example/murmuration/murmuration/Place$Window;D)Lcom/example/murmuration/murmuration/Place;"⟩ : MethodName) prog_10_method_6_code 4 (some (.object "com/example/murmuration/murmuration/Place")) ({ frames := 4, cells := 1, slots := 9, locals := 100 } : Room) #[(.ref a2), (.ref wa), (.double du)] h0 (QTR Z sid el wa x y z du h0 n0) := by
  refine own_enter (plainFor_of_name own_pn12) (fun m => by first | (simp [entryFrame, mkF, argsToLocals, Value.category, maxLocals]; done) | rfl) (Ls := #[.val (.ref a2), .val (.ref wa), .val (.double du), .second]) ?_
  intro p e s m below meth c T0 K X0 e0
  have hx := K.1
  have hZ := K.2.1
  have hby := K.2.2.1
  have hown := K.2.2.2.2.1
  have N0 := Fr.nil n0
  have K0 : Keep h0 h0 [] := Keep.refl _ _
  show own_Fin p e below _ T0 (mkF m 0 #[.val (.ref a2), .val (.ref wa), .val (.double du), .second] [])
  refine own_newO K X0 e0 (hw _ (List.mem_of_getElem? (i := 88) rfl)) (hw _ (List.mem_of_getElem? (i := 27) rfl)) (hw _ (List.mem_of_getElem? (i := 28) rfl)) d12_0 (by decide) (by decide) ?_
  intro T1 h1 b1 g1 X1 e1 E1 A1 D1
  have ne_a2_b1 : a2 ≠ b1 := Nat.ne_of_lt (Nat.lt_of_lt_of_eq O_a2.lt g1.symm)
  have ne_b1_a2 := ne_a2_b1.symm
  have O_a2_1 : own_Obj Z h1 a2 "com/example/murmuration/murmuration/Place" [("com/example/murmuration/murmuration/Site", "id", "Ljava/lang/String;", (.ref sid)), ("com/example/murmuration/murmuration/Site", "first", "D", (.double x)), ("com/example/murmuration/murmuration/Site", "second", "D", (.double y)), ("com/example/murmuration/murmuration/Place", "value", "D", (.double z)), ("com/example/murmuration/murmuration/Place", "needs", "Ljava/util/List;", (.ref el)), ("com/example/murmuration/murmuration/Place", "paths", "Ljava/util/List;", (.ref el)), ("com/example/murmuration/murmuration/Place", "detect", "D", (.double 0)), ("com/example/murmuration/murmuration/Place", "window", "Lcom/example/murmuration/murmuration/Place$Window;", .null), ("com/example/murmuration/murmuration/Place", "duration", "D", (.double 0))] := O_a2.ext E1
  have f_b1 : n0 ≤ b1 := Nat.le_trans Z0 (Nat.le_of_eq g1.symm)
  have Z1 : n0 ≤ h1.size := Nat.le_trans Z0 E1.1
  have sz_b1 : h0.size ≤ b1 := Nat.le_trans K0.1 (Nat.le_of_eq g1.symm)
  have K1 := K0.ext E1
  have O_b1_1 : own_Obj Z h1 b1 "com/example/murmuration/murmuration/Place" [("com/example/murmuration/murmuration/Site", "id", "Ljava/lang/String;", .null), ("com/example/murmuration/murmuration/Site", "first", "D", (.double 0)), ("com/example/murmuration/murmuration/Site", "second", "D", (.double 0)), ("com/example/murmuration/murmuration/Place", "value", "D", (.double 0)), ("com/example/murmuration/murmuration/Place", "needs", "Ljava/util/List;", .null), ("com/example/murmuration/murmuration/Place", "paths", "Ljava/util/List;", .null), ("com/example/murmuration/murmuration/Place", "detect", "D", (.double 0)), ("com/example/murmuration/murmuration/Place", "window", "Lcom/example/murmuration/murmuration/Place$Window;", .null), ("com/example/murmuration/murmuration/Place", "duration", "D", (.double 0))] := ⟨A1, by
    intro q hq
    simp only [List.mem_cons, List.not_mem_nil, or_false] at hq
    rcases hq with rfl | rfl | rfl | rfl | rfl | rfl | rfl | rfl | rfl
    · exact D1 (Or.inr (hw _ (List.mem_of_getElem? (i := 48) rfl))) (ty := (.object "java/lang/String")) (by decide)
    · exact D1 (Or.inr (hw _ (List.mem_of_getElem? (i := 50) rfl))) (ty := .double) (by decide)
    · exact D1 (Or.inr (hw _ (List.mem_of_getElem? (i := 52) rfl))) (ty := .double) (by decide)
    · exact D1 (Or.inr (hw _ (List.mem_of_getElem? (i := 54) rfl))) (ty := .double) (by decide)
    · exact D1 (Or.inr (hw _ (List.mem_of_getElem? (i := 74) rfl))) (ty := (.object "java/util/List")) (by decide)
    · exact D1 (Or.inr (hw _ (List.mem_of_getElem? (i := 76) rfl))) (ty := (.object "java/util/List")) (by decide)
    · exact D1 (Or.inr (hw _ (List.mem_of_getElem? (i := 78) rfl))) (ty := .double) (by decide)
    · exact D1 (Or.inr (hw _ (List.mem_of_getElem? (i := 80) rfl))) (ty := (.object "com/example/murmuration/murmuration/Place$Window")) (by decide)
    · exact D1 (Or.inr (hw _ (List.mem_of_getElem? (i := 82) rfl))) (ty := .double) (by decide)⟩
  show own_Fin p e below _ T1 (mkF m 3 #[.val (.ref a2), .val (.ref wa), .val (.double du), .second] [(.ref b1)])
  refine own_seg (T' := T1) (g' := (mkF m 7 #[.val (.ref a2), .val (.ref wa), .val (.double du), .second] [(.double du), (.ref wa), (.ref a2), (.ref b1), (.ref b1)])) (fun tg kt => ?_) ?_
  · show Steps p.tables e below (T1.setTop (mkF m 3 #[.val (.ref a2), .val (.ref wa), .val (.double du), .second] [(.ref b1)])) tg
    refine XS.dup X1.here hx rfl (hb hby d12_3) rfl rfl ?_
    show Steps p.tables e below (T1.setTop (mkF m 4 #[.val (.ref a2), .val (.ref wa), .val (.double du), .second] [(.ref b1), (.ref b1)])) tg
    refine XS.aloadN X1.here hx rfl (hb hby d12_4) rfl rfl ?_
    show Steps p.tables e below (T1.setTop (mkF m 5 #[.val (.ref a2), .val (.ref wa), .val (.double du), .second] [(.ref a2), (.ref b1), (.ref b1)])) tg
    refine XS.aloadN X1.here hx rfl (hb hby d12_5) rfl rfl ?_
    show Steps p.tables e below (T1.setTop (mkF m 6 #[.val (.ref a2), .val (.ref wa), .val (.double du), .second] [(.ref wa), (.ref a2), (.ref b1), (.ref b1)])) tg
    refine own_dloadN X1.here hx rfl (hb hby d12_6) rfl ?_
    exact kt
  refine own_callI K X1 e1 (rmP5R l Z a0 hw b1 a2 sid el wa x y z du h1 n0 Z1 f_b1 ne_a2_b1 O_b1_1 O_a2_1) rfl (hw _ (List.mem_of_getElem? (i := 89) rfl)) (hw _ (List.mem_of_getElem? (i := 90) rfl)) (hw _ (List.mem_of_getElem? (i := 28) rfl)) (hw _ (List.mem_of_getElem? (i := 91) rfl)) (by decide) b1 [(.ref a2), (.ref wa), (.double du)] [(.ref b1)] own_pd8 rfl rfl rfl rfl d12_7 (by decide) (Nat.le_of_ble_eq_true rfl) (by decide) (by decide) ?_
  intro T2 L2 v2 X2 hQ2
  obtain ⟨h2, e2⟩ : ∃ z, T2.heap = z := ⟨_, rfl⟩
  rw [e2] at hQ2
  obtain ⟨rfl, Nq2, Kq2, Oq2_b1⟩ := hQ2
  have N2 := Fr.app N0 Nq2
  have O_a2_2 : own_Obj Z h2 a2 "com/example/murmuration/murmuration/Place" [("com/example/murmuration/murmuration/Site", "id", "Ljava/lang/String;", (.ref sid)), ("com/example/murmuration/murmuration/Site", "first", "D", (.double x)), ("com/example/murmuration/murmuration/Site", "second", "D", (.double y)), ("com/example/murmuration/murmuration/Place", "value", "D", (.double z)), ("com/example/murmuration/murmuration/Place", "needs", "Ljava/util/List;", (.ref el)), ("com/example/murmuration/murmuration/Place", "paths", "Ljava/util/List;", (.ref el)), ("com/example/murmuration/murmuration/Place", "detect", "D", (.double 0)), ("com/example/murmuration/murmuration/Place", "window", "Lcom/example/murmuration/murmuration/Place$Window;", .null), ("com/example/murmuration/murmuration/Place", "duration", "D", (.double 0))] := O_a2_1.keep Kq2 (ninS ne_a2_b1 nin0)
  have Z2 : n0 ≤ h2.size := Nat.le_trans Z1 Kq2.1
  have K2 := Keep.trans K1 Kq2 (allS (Or.inr sz_b1) all0)
  show own_Fin p e below _ T2 (mkF m 10 #[.val (.ref a2), .val (.ref wa), .val (.double du), .second] [(.ref b1)])
  exact own_retA K rfl X2 rfl d12_10 (by rw [e2]; exact ⟨_, rfl, N2, K2, f_b1, Oq2_b1⟩) (by decide) (by decide)
theorem d15_11 : decode prog_10_method_15_code 11 = .ok (.aload_n 0, 1) := by decide +kernel
theorem d15_12 : decode prog_10_method_15_code 12 = .ok (.getfield 48, 3) := by decide +kernel
theorem d15_15 : decode prog_10_method_15_code 15 = .ok (.getfield 100, 3) := by decide +kernel
set_option maxRecDepth 65536 in
set_option maxHeartbeats 40000000 in
theorem rmGR (l : Launch) (Z : State) (a0 : Array Value) (hw : ∀ d ∈ tables_1, d.before a0 Z = true) (a2 sid el wa : Addr) (x y z du ea la : UInt64) (h0 : Heap) (n0 : Nat) (Z0 : n0 ≤ h0.size) (O_a2 : own_Obj Z h0 a2 "com/example/murmuration/murmuration/Place" [("com/example/murmuration/murmuration/Site", "id", "Ljava/lang/String;", (.ref sid)), ("com/example/murmuration/murmuration/Site", "first", "D", (.double x)), ("com/example/murmuration/murmuration/Site", "second", "D", (.double y)), ("com/example/murmuration/murmuration/Place", "value", "D", (.double z)), ("com/example/murmuration/murmuration/Place", "needs", "Ljava/util/List;", (.ref el)), ("com/example/murmuration/murmuration/Place", "paths", "Ljava/util/List;", (.ref el)), ("com/example/murmuration/murmuration/Place", "detect", "D", (.double 0)), ("com/example/murmuration/murmuration/Place", "window", "Lcom/example/murmuration/murmuration/Place$Window;", (.ref wa)), ("com/example/murmuration/murmuration/Place", "duration", "D", (.double du))]) (O_wa : own_Obj Z h0 wa "com/example/murmuration/murmuration/Place$Window" [("com/example/murmuration/murmuration/Place$Window", "earliest", "D", (.double ea)), ("com/example/murmuration/murmuration/Place$Window", "latest", "D", (.double la))]) :
    own_Met l Z (⟨"com/example/murmuration/murmuration/Place", "getEarliestStart", "()D"⟩ : MethodName) prog_10_method_15_code 1 (some .double) ({ frames := 0, cells := 0, slots := 0, locals := 0 } : Room) #[(.ref a2)] h0 (own_QD ea h0 n0) := by
  refine own_enter (plainFor_of_name own_pn15) (fun m => by first | (simp [entryFrame, mkF, argsToLocals, Value.category, maxLocals]; done) | rfl) (Ls := #[.val (.ref a2)]) ?_
  intro p e s m below meth c T0 K X0 e0
  have hx := K.1
  have hZ := K.2.1
  have hby := K.2.2.1
  have hown := K.2.2.2.2.1
  have N0 := Fr.nil n0
  show own_Fin p e below _ T0 (mkF m 0 #[.val (.ref a2)] [])
  refine own_seg (T' := T0) (g' := (mkF m 1 #[.val (.ref a2)] [(.ref a2)])) (fun tg kt => ?_) ?_
  · show Steps p.tables e below (T0.setTop (mkF m 0 #[.val (.ref a2)] [])) tg
    refine XS.aloadN X0.here hx rfl (hb hby d15_0) rfl rfl ?_
    exact kt
  refine own_getF K X0 e0 (host := "") (Or.inl (hw _ (List.mem_of_getElem? (i := 79) rfl))) Via.refl (O_a2.get 7 rfl) d15_1 ?_
  intro T1 X1 e1
  show own_Fin p e below _ T1 (mkF m 4 #[.val (.ref a2)] [(.ref wa)])
  refine own_seg (T' := T1) (g' := (mkF m 12 #[.val (.ref a2)] [(.ref a2)])) (fun tg kt => ?_) ?_
  · show Steps p.tables e below (T1.setTop (mkF m 4 #[.val (.ref a2)] [(.ref wa)])) tg
    refine XS.ifnonnullYes X1.here hx rfl (pc0 := 4) (pc' := 11) rfl (hb hby d15_4) rfl (by decide) (by decide) ?_
    show Steps p.tables e below (T1.setTop (mkF m 11 #[.val (.ref a2)] [])) tg
    refine XS.aloadN X1.here hx rfl (hb hby d15_11) rfl rfl ?_
    exact kt
  refine own_getF K X1 e1 (host := "") (Or.inl (hw _ (List.mem_of_getElem? (i := 79) rfl))) Via.refl (O_a2.get 7 rfl) d15_12 ?_
  intro T2 X2 e2
  show own_Fin p e below _ T2 (mkF m 15 #[.val (.ref a2)] [(.ref wa)])
  refine own_getFRef K X2 e2 (hw _ (List.mem_of_getElem? (i := 113) rfl)) (O_wa.get 0 rfl) d15_15 ?_
  show own_Fin p e below _ T2 (mkF m 18 #[.val (.ref a2)] [(.double ea)])
  exact own_retD K X2 d15_18 (⟨rfl, N0, e2⟩) (by decide) (by decide)
theorem own_c255 (y : Int32) : ¬ (255 : Int32) < (y &&& (255 : Int32)).toUInt32.toUInt16.toUInt32.toInt32 := by
  rw [i2c_mask]
  have e := Jvm.Kit.i32_mask y 255 (k := 8) (by decide) (by decide)
  have e1 : (255 : Int32).toInt = 255 := by decide
  rw [Int32.lt_iff_toInt_lt, e, e1]; omega
theorem own_self (y : Int32) : FP.cmpInt (-1) (FP.dcmp (FP.i2d y) (FP.i2d y)) = 0 := Jvm.Free.Fl.dcmp_of_noNaN64 (Jvm.Free.Fl.Fin64.noNaN (Jvm.Free.Fl.i2d_fin y))
theorem own_pn0 : plainName "com/example/murmuration/murmuration/PlaceGetEarliestStartPinLaw" = true := by first | (simp [plainName, overriddenIn]; done) | decide +kernel
theorem own_pd9 : parseMethodDescriptor "(C)Ljava/lang/String;" = some ⟨[.char], some (.object "java/lang/String")⟩ := by decide +kernel
theorem own_pd10 : parseMethodDescriptor "(Ljava/lang/String;DDD)V" = some ⟨[(.object "java/lang/String"), .double, .double, .double], none⟩ := by decide +kernel
theorem own_pd11 : parseMethodDescriptor "(Lcom/example/murmuration/murmuration/Place$Window;D)Lcom/example/murmuration/murmuration/Place;" = some ⟨[(.object "com/example/murmuration/murmuration/Place$Window"), .double], some (.object "com/example/murmuration/murmuration/Place")⟩ := by decide +kernel
theorem own_pd12 : parseMethodDescriptor "()D" = some ⟨[], some .double⟩ := by decide +kernel
theorem own_pd13 : parseMethodDescriptor "(DD)V" = some ⟨[.double, .double], none⟩ := by decide +kernel
set_option maxRecDepth 65536 in
set_option maxHeartbeats 40000000 in
theorem rm0 (l : Launch) (Z : State) (a0 : Array Value) (hw : ∀ d ∈ tables_1, d.before a0 Z = true) (p1 p2 p3 p4 p5 cs : Int32) (el : Addr) (h0 : Heap) (n0 : Nat) (Z0 : n0 ≤ h0.size) (hOld : Old Z n0 h0) (S_cs : Sta Z Z.heap "java/lang/String" "COMPACT_STRINGS" "Z" (.int cs)) (hcs : ¬ cs = (0 : Int32)) (S_el : Sta Z Z.heap "java/util/ImmutableCollections" "EMPTY_LIST" "Ljava/util/ImmutableCollections$ListN;" (.ref el)) (OE : own_Obj Z Z.heap el "java/util/ImmutableCollections$ListN" [("java/util/ImmutableCollections$ListN", "allowNulls", "Z", (.int (0 : Int32)))]) :
    own_Met l Z x code maxLocals ret room_1 #[(.int p1), (.int p2), (.int p3), (.int p4), (.int p5)] h0 (own_Q1 n0) := by
  refine own_enter (plainFor_of_name own_pn0) (fun m => by first | (simp [entryFrame, mkF, argsToLocals, Value.category, maxLocals]; done) | rfl) (Ls := #[.val (.int p1), .val (.int p2), .val (.int p3), .val (.int p4), .val (.int p5), .unset, .unset, .unset, .unset, .unset, .unset, .unset, .unset, .unset, .unset, .unset, .unset, .unset, .unset, .unset]) ?_
  intro p e s m below meth c T0 K X0 e0
  have hx := K.1
  have hZ := K.2.1
  have hby := K.2.2.1
  have hown := K.2.2.2.2.1
  have N0 := Fr.nil n0
  show own_Fin p e below _ T0 (mkF m 0 #[.val (.int p1), .val (.int p2), .val (.int p3), .val (.int p4), .val (.int p5), .unset, .unset, .unset, .unset, .unset, .unset, .unset, .unset, .unset, .unset, .unset, .unset, .unset, .unset, .unset] [])
  refine own_seg (T' := T0) (g' := (mkF m 10 #[.val (.int p1), .val (.int p2), .val (.int p3), .val (.int p4), .val (.int p5), .unset, .unset, .unset, .unset, .unset, .unset, .unset, .unset, .unset, .unset, .unset, .unset, .unset, .unset, .unset] [(.int ((((p5.toUInt32 >>> ((8 : Int32) &&& 31).toUInt32).toInt32) &&& (255 : Int32)).toUInt32.toUInt16.toUInt32.toInt32))])) (fun tg kt => ?_) ?_
  · show Steps p.tables e below (T0.setTop (mkF m 0 #[.val (.int p1), .val (.int p2), .val (.int p3), .val (.int p4), .val (.int p5), .unset, .unset, .unset, .unset, .unset, .unset, .unset, .unset, .unset, .unset, .unset, .unset, .unset, .unset, .unset] [])) tg
    refine XS.iload X0.here hx rfl (hb hby at_0) rfl ?_
    show Steps p.tables e below (T0.setTop (mkF m 2 #[.val (.int p1), .val (.int p2), .val (.int p3), .val (.int p4), .val (.int p5), .unset, .unset, .unset, .unset, .unset, .unset, .unset, .unset, .unset, .unset, .unset, .unset, .unset, .unset, .unset] [(.int p5)])) tg
    refine XS.bipush X0.here hx rfl (hb hby at_2) ?_
    show Steps p.tables e below (T0.setTop (mkF m 4 #[.val (.int p1), .val (.int p2), .val (.int p3), .val (.int p4), .val (.int p5), .unset, .unset, .unset, .unset, .unset, .unset, .unset, .unset, .unset, .unset, .unset, .unset, .unset, .unset, .unset] [(.int (8 : Int32)), (.int p5)])) tg
    refine XS.iushr X0.here hx rfl (hb hby at_4) rfl ?_
    show Steps p.tables e below (T0.setTop (mkF m 5 #[.val (.int p1), .val (.int p2), .val (.int p3), .val (.int p4), .val (.int p5), .unset, .unset, .unset, .unset, .unset, .unset, .unset, .unset, .unset, .unset, .unset, .unset, .unset, .unset, .unset] [(.int ((p5.toUInt32 >>> ((8 : Int32) &&& 31).toUInt32).toInt32))])) tg
    refine XS.sipush X0.here hx rfl (hb hby at_5) ?_
    show Steps p.tables e below (T0.setTop (mkF m 8 #[.val (.int p1), .val (.int p2), .val (.int p3), .val (.int p4), .val (.int p5), .unset, .unset, .unset, .unset, .unset, .unset, .unset, .unset, .unset, .unset, .unset, .unset, .unset, .unset, .unset] [(.int (255 : Int32)), (.int ((p5.toUInt32 >>> ((8 : Int32) &&& 31).toUInt32).toInt32))])) tg
    refine XS.iand X0.here hx rfl (hb hby at_8) rfl ?_
    show Steps p.tables e below (T0.setTop (mkF m 9 #[.val (.int p1), .val (.int p2), .val (.int p3), .val (.int p4), .val (.int p5), .unset, .unset, .unset, .unset, .unset, .unset, .unset, .unset, .unset, .unset, .unset, .unset, .unset, .unset, .unset] [(.int (((p5.toUInt32 >>> ((8 : Int32) &&& 31).toUInt32).toInt32) &&& (255 : Int32)))])) tg
    refine XS.i2c X0.here hx rfl (hb hby at_9) rfl ?_
    exact kt
  refine own_callS K X0 e0 (rmV l Z a0 hw ((((p5.toUInt32 >>> ((8 : Int32) &&& 31).toUInt32).toInt32) &&& (255 : Int32)).toUInt32.toUInt16.toUInt32.toInt32) cs h0 n0 Z0 (own_c255 _) (S_cs.ext hOld.2) hcs) (hw _ (List.mem_of_getElem? (i := 0) rfl)) (hw _ (List.mem_of_getElem? (i := 1) rfl)) (hw _ (List.mem_of_getElem? (i := 2) rfl)) (hw _ (List.mem_of_getElem? (i := 3) rfl)) (by decide) [(.int ((((p5.toUInt32 >>> ((8 : Int32) &&& 31).toUInt32).toInt32) &&& (255 : Int32)).toUInt32.toUInt16.toUInt32.toInt32))] [] own_pd9 rfl rfl rfl rfl at_10 (by decide) (Nat.le_of_ble_eq_true rfl) (by decide) (by decide) ?_
  intro T1 L1 v1 X1 hQ1
  obtain ⟨h1, e1⟩ : ∃ z, T1.heap = z := ⟨_, rfl⟩
  rw [e1] at hQ1
  obtain ⟨b1, rfl, Nq1, Kq1, f_b1⟩ := hQ1
  have N1 := Fr.app N0 Nq1
  have Od1 := Old.keep hOld Kq1 all0
  have Z1 : n0 ≤ h1.size := Nat.le_trans Z0 Kq1.1
  show own_Fin p e below _ T1 (mkF m 13 #[.val (.int p1), .val (.int p2), .val (.int p3), .val (.int p4), .val (.int p5), .unset, .unset, .unset, .unset, .unset, .unset, .unset, .unset, .unset, .unset, .unset, .unset, .unset, .unset, .unset] [(.ref b1)])
  refine own_seg (T' := T1) (g' := (mkF m 31 #[.val (.int p1), .val (.int p2), .val (.int p3), .val (.int p4), .val (.int p5), .val (.ref b1), .val (.double (FP.i2d p1)), .second, .val (.double (FP.i2d p2)), .second, .val (.double (FP.i2d p3)), .second, .unset, .unset, .unset, .unset, .unset, .unset, .unset, .unset] [(.int (p5 &&& (1 : Int32)))])) (fun tg kt => ?_) ?_
  · show Steps p.tables e below (T1.setTop (mkF m 13 #[.val (.int p1), .val (.int p2), .val (.int p3), .val (.int p4), .val (.int p5), .unset, .unset, .unset, .unset, .unset, .unset, .unset, .unset, .unset, .unset, .unset, .unset, .unset, .unset, .unset] [(.ref b1)])) tg
    refine XS.astore X1.here hx rfl (hb hby at_13) rfl rfl (l' := #[.val (.int p1), .val (.int p2), .val (.int p3), .val (.int p4), .val (.int p5), .val (.ref b1), .unset, .unset, .unset, .unset, .unset, .unset, .unset, .unset, .unset, .unset, .unset, .unset, .unset, .unset]) rfl ?_
    show Steps p.tables e below (T1.setTop (mkF m 15 #[.val (.int p1), .val (.int p2), .val (.int p3), .val (.int p4), .val (.int p5), .val (.ref b1), .unset, .unset, .unset, .unset, .unset, .unset, .unset, .unset, .unset, .unset, .unset, .unset, .unset, .unset] [])) tg
    refine XS.iloadN X1.here hx rfl (hb hby at_15) rfl ?_
    show Steps p.tables e below (T1.setTop (mkF m 16 #[.val (.int p1), .val (.int p2), .val (.int p3), .val (.int p4), .val (.int p5), .val (.ref b1), .unset, .unset, .unset, .unset, .unset, .unset, .unset, .unset, .unset, .unset, .unset, .unset, .unset, .unset] [(.int p1)])) tg
    refine own_i2d X1.here hx rfl (hb hby at_16) rfl ?_
    show Steps p.tables e below (T1.setTop (mkF m 17 #[.val (.int p1), .val (.int p2), .val (.int p3), .val (.int p4), .val (.int p5), .val (.ref b1), .unset, .unset, .unset, .unset, .unset, .unset, .unset, .unset, .unset, .unset, .unset, .unset, .unset, .unset] [(.double (FP.i2d p1))])) tg
    refine own_dstore X1.here hx rfl (hb hby at_17) rfl (l' := #[.val (.int p1), .val (.int p2), .val (.int p3), .val (.int p4), .val (.int p5), .val (.ref b1), .val (.double (FP.i2d p1)), .second, .unset, .unset, .unset, .unset, .unset, .unset, .unset, .unset, .unset, .unset, .unset, .unset]) rfl ?_
    show Steps p.tables e below (T1.setTop (mkF m 19 #[.val (.int p1), .val (.int p2), .val (.int p3), .val (.int p4), .val (.int p5), .val (.ref b1), .val (.double (FP.i2d p1)), .second, .unset, .unset, .unset, .unset, .unset, .unset, .unset, .unset, .unset, .unset, .unset, .unset] [])) tg
    refine XS.iloadN X1.here hx rfl (hb hby at_19) rfl ?_
    show Steps p.tables e below (T1.setTop (mkF m 20 #[.val (.int p1), .val (.int p2), .val (.int p3), .val (.int p4), .val (.int p5), .val (.ref b1), .val (.double (FP.i2d p1)), .second, .unset, .unset, .unset, .unset, .unset, .unset, .unset, .unset, .unset, .unset, .unset, .unset] [(.int p2)])) tg
    refine own_i2d X1.here hx rfl (hb hby at_20) rfl ?_
    show Steps p.tables e below (T1.setTop (mkF m 21 #[.val (.int p1), .val (.int p2), .val (.int p3), .val (.int p4), .val (.int p5), .val (.ref b1), .val (.double (FP.i2d p1)), .second, .unset, .unset, .unset, .unset, .unset, .unset, .unset, .unset, .unset, .unset, .unset, .unset] [(.double (FP.i2d p2))])) tg
    refine own_dstore X1.here hx rfl (hb hby at_21) rfl (l' := #[.val (.int p1), .val (.int p2), .val (.int p3), .val (.int p4), .val (.int p5), .val (.ref b1), .val (.double (FP.i2d p1)), .second, .val (.double (FP.i2d p2)), .second, .unset, .unset, .unset, .unset, .unset, .unset, .unset, .unset, .unset, .unset]) rfl ?_
    show Steps p.tables e below (T1.setTop (mkF m 23 #[.val (.int p1), .val (.int p2), .val (.int p3), .val (.int p4), .val (.int p5), .val (.ref b1), .val (.double (FP.i2d p1)), .second, .val (.double (FP.i2d p2)), .second, .unset, .unset, .unset, .unset, .unset, .unset, .unset, .unset, .unset, .unset] [])) tg
    refine XS.iloadN X1.here hx rfl (hb hby at_23) rfl ?_
    show Steps p.tables e below (T1.setTop (mkF m 24 #[.val (.int p1), .val (.int p2), .val (.int p3), .val (.int p4), .val (.int p5), .val (.ref b1), .val (.double (FP.i2d p1)), .second, .val (.double (FP.i2d p2)), .second, .unset, .unset, .unset, .unset, .unset, .unset, .unset, .unset, .unset, .unset] [(.int p3)])) tg
    refine own_i2d X1.here hx rfl (hb hby at_24) rfl ?_
    show Steps p.tables e below (T1.setTop (mkF m 25 #[.val (.int p1), .val (.int p2), .val (.int p3), .val (.int p4), .val (.int p5), .val (.ref b1), .val (.double (FP.i2d p1)), .second, .val (.double (FP.i2d p2)), .second, .unset, .unset, .unset, .unset, .unset, .unset, .unset, .unset, .unset, .unset] [(.double (FP.i2d p3))])) tg
    refine own_dstore X1.here hx rfl (hb hby at_25) rfl (l' := #[.val (.int p1), .val (.int p2), .val (.int p3), .val (.int p4), .val (.int p5), .val (.ref b1), .val (.double (FP.i2d p1)), .second, .val (.double (FP.i2d p2)), .second, .val (.double (FP.i2d p3)), .second, .unset, .unset, .unset, .unset, .unset, .unset, .unset, .unset]) rfl ?_
    show Steps p.tables e below (T1.setTop (mkF m 27 #[.val (.int p1), .val (.int p2), .val (.int p3), .val (.int p4), .val (.int p5), .val (.ref b1), .val (.double (FP.i2d p1)), .second, .val (.double (FP.i2d p2)), .second, .val (.double (FP.i2d p3)), .second, .unset, .unset, .unset, .unset, .unset, .unset, .unset, .unset] [])) tg
    refine XS.iload X1.here hx rfl (hb hby at_27) rfl ?_
    show Steps p.tables e below (T1.setTop (mkF m 29 #[.val (.int p1), .val (.int p2), .val (.int p3), .val (.int p4), .val (.int p5), .val (.ref b1), .val (.double (FP.i2d p1)), .second, .val (.double (FP.i2d p2)), .second, .val (.double (FP.i2d p3)), .second, .unset, .unset, .unset, .unset, .unset, .unset, .unset, .unset] [(.int p5)])) tg
    refine XS.iconst X1.here hx rfl (hb hby at_29) ?_
    show Steps p.tables e below (T1.setTop (mkF m 30 #[.val (.int p1), .val (.int p2), .val (.int p3), .val (.int p4), .val (.int p5), .val (.ref b1), .val (.double (FP.i2d p1)), .second, .val (.double (FP.i2d p2)), .second, .val (.double (FP.i2d p3)), .second, .unset, .unset, .unset, .unset, .unset, .unset, .unset, .unset] [(.int (1 : Int32)), (.int p5)])) tg
    refine XS.iand X1.here hx rfl (hb hby at_30) rfl ?_
    exact kt
  by_cases hc31 : (p5 &&& (1 : Int32)) = (0 : Int32)
  · skip
    refine own_seg (T' := T1) (g' := (mkF m 38 #[.val (.int p1), .val (.int p2), .val (.int p3), .val (.int p4), .val (.int p5), .val (.ref b1), .val (.double (FP.i2d p1)), .second, .val (.double (FP.i2d p2)), .second, .val (.double (FP.i2d p3)), .second, .unset, .unset, .unset, .unset, .unset, .unset, .unset, .unset] [])) (fun tg kt => XS.ifYes X1.here hx rfl (pc0 := 31) (pc' := 38) rfl (hb hby at_31) rfl ((if0 _ _).trans (teq hc31).1) (by decide) (by decide) kt) ?_
    refine own_seg (T' := T1) (g' := (mkF m 43 #[.val (.int p1), .val (.int p2), .val (.int p3), .val (.int p4), .val (.int p5), .val (.ref b1), .val (.double (FP.i2d p1)), .second, .val (.double (FP.i2d p2)), .second, .val (.double (FP.i2d p3)), .second, .val (.int (0 : Int32)), .unset, .unset, .unset, .unset, .unset, .unset, .unset] [(.int (0 : Int32))])) (fun tg kt => ?_) ?_
    · show Steps p.tables e below (T1.setTop (mkF m 38 #[.val (.int p1), .val (.int p2), .val (.int p3), .val (.int p4), .val (.int p5), .val (.ref b1), .val (.double (FP.i2d p1)), .second, .val (.double (FP.i2d p2)), .second, .val (.double (FP.i2d p3)), .second, .unset, .unset, .unset, .unset, .unset, .unset, .unset, .unset] [])) tg
      refine XS.iconst X1.here hx rfl (hb hby at_38) ?_
      show Steps p.tables e below (T1.setTop (mkF m 39 #[.val (.int p1), .val (.int p2), .val (.int p3), .val (.int p4), .val (.int p5), .val (.ref b1), .val (.double (FP.i2d p1)), .second, .val (.double (FP.i2d p2)), .second, .val (.double (FP.i2d p3)), .second, .unset, .unset, .unset, .unset, .unset, .unset, .unset, .unset] [(.int (0 : Int32))])) tg
      refine XS.istore X1.here hx rfl (hb hby at_39) rfl (l' := #[.val (.int p1), .val (.int p2), .val (.int p3), .val (.int p4), .val (.int p5), .val (.ref b1), .val (.double (FP.i2d p1)), .second, .val (.double (FP.i2d p2)), .second, .val (.double (FP.i2d p3)), .second, .val (.int (0 : Int32)), .unset, .unset, .unset, .unset, .unset, .unset, .unset]) rfl ?_
      show Steps p.tables e below (T1.setTop (mkF m 41 #[.val (.int p1), .val (.int p2), .val (.int p3), .val (.int p4), .val (.int p5), .val (.ref b1), .val (.double (FP.i2d p1)), .second, .val (.double (FP.i2d p2)), .second, .val (.double (FP.i2d p3)), .second, .val (.int (0 : Int32)), .unset, .unset, .unset, .unset, .unset, .unset, .unset] [])) tg
      refine XS.iload X1.here hx rfl (hb hby at_41) rfl ?_
      exact kt
    have hc43 : (0 : Int32) = (0 : Int32) := by decide
    refine own_seg (T' := T1) (g' := (mkF m 60 #[.val (.int p1), .val (.int p2), .val (.int p3), .val (.int p4), .val (.int p5), .val (.ref b1), .val (.double (FP.i2d p1)), .second, .val (.double (FP.i2d p2)), .second, .val (.double (FP.i2d p3)), .second, .val (.int (0 : Int32)), .unset, .unset, .unset, .unset, .unset, .unset, .unset] [])) (fun tg kt => XS.ifYes X1.here hx rfl (pc0 := 43) (pc' := 60) rfl (hb hby at_43) rfl ((if0 _ _).trans (teq hc43).1) (by decide) (by decide) kt) ?_
    refine own_seg (T' := T1) (g' := (mkF m 63 #[.val (.int p1), .val (.int p2), .val (.int p3), .val (.int p4), .val (.int p5), .val (.ref b1), .val (.double (FP.i2d p1)), .second, .val (.double (FP.i2d p2)), .second, .val (.double (FP.i2d p3)), .second, .val (.int (0 : Int32)), .val .null, .unset, .unset, .unset, .unset, .unset, .unset] [])) (fun tg kt => ?_) ?_
    · show Steps p.tables e below (T1.setTop (mkF m 60 #[.val (.int p1), .val (.int p2), .val (.int p3), .val (.int p4), .val (.int p5), .val (.ref b1), .val (.double (FP.i2d p1)), .second, .val (.double (FP.i2d p2)), .second, .val (.double (FP.i2d p3)), .second, .val (.int (0 : Int32)), .unset, .unset, .unset, .unset, .unset, .unset, .unset] [])) tg
      refine XS.aconstNull X1.here hx rfl (hb hby at_60) ?_
      show Steps p.tables e below (T1.setTop (mkF m 61 #[.val (.int p1), .val (.int p2), .val (.int p3), .val (.int p4), .val (.int p5), .val (.ref b1), .val (.double (FP.i2d p1)), .second, .val (.double (FP.i2d p2)), .second, .val (.double (FP.i2d p3)), .second, .val (.int (0 : Int32)), .unset, .unset, .unset, .unset, .unset, .unset, .unset] [.null])) tg
      refine XS.astore X1.here hx rfl (hb hby at_61) rfl rfl (l' := #[.val (.int p1), .val (.int p2), .val (.int p3), .val (.int p4), .val (.int p5), .val (.ref b1), .val (.double (FP.i2d p1)), .second, .val (.double (FP.i2d p2)), .second, .val (.double (FP.i2d p3)), .second, .val (.int (0 : Int32)), .val .null, .unset, .unset, .unset, .unset, .unset, .unset]) rfl ?_
      exact kt
    refine own_newO K X1 e1 (hw _ (List.mem_of_getElem? (i := 26) rfl)) (hw _ (List.mem_of_getElem? (i := 27) rfl)) (hw _ (List.mem_of_getElem? (i := 28) rfl)) at_63 (by decide) (by decide) ?_
    intro T2 h2 b2 g2 X2 e2 E2 A2 D2
    have Od2 := Old.ext Od1 E2
    have f_b2 : n0 ≤ b2 := Nat.le_trans Z1 (Nat.le_of_eq g2.symm)
    have Z2 : n0 ≤ h2.size := Nat.le_trans Z1 E2.1
    have O_b2_2 : own_Obj Z h2 b2 "com/example/murmuration/murmuration/Place" [("com/example/murmuration/murmuration/Site", "id", "Ljava/lang/String;", .null), ("com/example/murmuration/murmuration/Site", "first", "D", (.double 0)), ("com/example/murmuration/murmuration/Site", "second", "D", (.double 0)), ("com/example/murmuration/murmuration/Place", "value", "D", (.double 0)), ("com/example/murmuration/murmuration/Place", "needs", "Ljava/util/List;", .null), ("com/example/murmuration/murmuration/Place", "paths", "Ljava/util/List;", .null), ("com/example/murmuration/murmuration/Place", "detect", "D", (.double 0)), ("com/example/murmuration/murmuration/Place", "window", "Lcom/example/murmuration/murmuration/Place$Window;", .null), ("com/example/murmuration/murmuration/Place", "duration", "D", (.double 0))] := ⟨A2, by
      intro q hq
      simp only [List.mem_cons, List.not_mem_nil, or_false] at hq
      rcases hq with rfl | rfl | rfl | rfl | rfl | rfl | rfl | rfl | rfl
      · exact D2 (Or.inr (hw _ (List.mem_of_getElem? (i := 48) rfl))) (ty := (.object "java/lang/String")) (by decide)
      · exact D2 (Or.inr (hw _ (List.mem_of_getElem? (i := 50) rfl))) (ty := .double) (by decide)
      · exact D2 (Or.inr (hw _ (List.mem_of_getElem? (i := 52) rfl))) (ty := .double) (by decide)
      · exact D2 (Or.inr (hw _ (List.mem_of_getElem? (i := 54) rfl))) (ty := .double) (by decide)
      · exact D2 (Or.inr (hw _ (List.mem_of_getElem? (i := 74) rfl))) (ty := (.object "java/util/List")) (by decide)
      · exact D2 (Or.inr (hw _ (List.mem_of_getElem? (i := 76) rfl))) (ty := (.object "java/util/List")) (by decide)
      · exact D2 (Or.inr (hw _ (List.mem_of_getElem? (i := 78) rfl))) (ty := .double) (by decide)
      · exact D2 (Or.inr (hw _ (List.mem_of_getElem? (i := 80) rfl))) (ty := (.object "com/example/murmuration/murmuration/Place$Window")) (by decide)
      · exact D2 (Or.inr (hw _ (List.mem_of_getElem? (i := 82) rfl))) (ty := .double) (by decide)⟩
    show own_Fin p e below _ T2 (mkF m 66 #[.val (.int p1), .val (.int p2), .val (.int p3), .val (.int p4), .val (.int p5), .val (.ref b1), .val (.double (FP.i2d p1)), .second, .val (.double (FP.i2d p2)), .second, .val (.double (FP.i2d p3)), .second, .val (.int (0 : Int32)), .val .null, .unset, .unset, .unset, .unset, .unset, .unset] [(.ref b2)])
    refine own_seg (T' := T2) (g' := (mkF m 75 #[.val (.int p1), .val (.int p2), .val (.int p3), .val (.int p4), .val (.int p5), .val (.ref b1), .val (.double (FP.i2d p1)), .second, .val (.double (FP.i2d p2)), .second, .val (.double (FP.i2d p3)), .second, .val (.int (0 : Int32)), .val .null, .unset, .unset, .unset, .unset, .unset, .unset] [(.double (FP.i2d p4)), (.double (FP.i2d p3)), (.double (FP.i2d p4)), (.ref b1), (.ref b2), (.ref b2)])) (fun tg kt => ?_) ?_
    · show Steps p.tables e below (T2.setTop (mkF m 66 #[.val (.int p1), .val (.int p2), .val (.int p3), .val (.int p4), .val (.int p5), .val (.ref b1), .val (.double (FP.i2d p1)), .second, .val (.double (FP.i2d p2)), .second, .val (.double (FP.i2d p3)), .second, .val (.int (0 : Int32)), .val .null, .unset, .unset, .unset, .unset, .unset, .unset] [(.ref b2)])) tg
      refine XS.dup X2.here hx rfl (hb hby at_66) rfl rfl ?_
      show Steps p.tables e below (T2.setTop (mkF m 67 #[.val (.int p1), .val (.int p2), .val (.int p3), .val (.int p4), .val (.int p5), .val (.ref b1), .val (.double (FP.i2d p1)), .second, .val (.double (FP.i2d p2)), .second, .val (.double (FP.i2d p3)), .second, .val (.int (0 : Int32)), .val .null, .unset, .unset, .unset, .unset, .unset, .unset] [(.ref b2), (.ref b2)])) tg
      refine XS.aload X2.here hx rfl (hb hby at_67) rfl rfl ?_
      show Steps p.tables e below (T2.setTop (mkF m 69 #[.val (.int p1), .val (.int p2), .val (.int p3), .val (.int p4), .val (.int p5), .val (.ref b1), .val (.double (FP.i2d p1)), .second, .val (.double (FP.i2d p2)), .second, .val (.double (FP.i2d p3)), .second, .val (.int (0 : Int32)), .val .null, .unset, .unset, .unset, .unset, .unset, .unset] [(.ref b1), (.ref b2), (.ref b2)])) tg
      refine XS.iloadN X2.here hx rfl (hb hby at_69) rfl ?_
      show Steps p.tables e below (T2.setTop (mkF m 70 #[.val (.int p1), .val (.int p2), .val (.int p3), .val (.int p4), .val (.int p5), .val (.ref b1), .val (.double (FP.i2d p1)), .second, .val (.double (FP.i2d p2)), .second, .val (.double (FP.i2d p3)), .second, .val (.int (0 : Int32)), .val .null, .unset, .unset, .unset, .unset, .unset, .unset] [(.int p4), (.ref b1), (.ref b2), (.ref b2)])) tg
      refine own_i2d X2.here hx rfl (hb hby at_70) rfl ?_
      show Steps p.tables e below (T2.setTop (mkF m 71 #[.val (.int p1), .val (.int p2), .val (.int p3), .val (.int p4), .val (.int p5), .val (.ref b1), .val (.double (FP.i2d p1)), .second, .val (.double (FP.i2d p2)), .second, .val (.double (FP.i2d p3)), .second, .val (.int (0 : Int32)), .val .null, .unset, .unset, .unset, .unset, .unset, .unset] [(.double (FP.i2d p4)), (.ref b1), (.ref b2), (.ref b2)])) tg
      refine own_dload X2.here hx rfl (hb hby at_71) rfl ?_
      show Steps p.tables e below (T2.setTop (mkF m 73 #[.val (.int p1), .val (.int p2), .val (.int p3), .val (.int p4), .val (.int p5), .val (.ref b1), .val (.double (FP.i2d p1)), .second, .val (.double (FP.i2d p2)), .second, .val (.double (FP.i2d p3)), .second, .val (.int (0 : Int32)), .val .null, .unset, .unset, .unset, .unset, .unset, .unset] [(.double (FP.i2d p3)), (.double (FP.i2d p4)), (.ref b1), (.ref b2), (.ref b2)])) tg
      refine XS.iloadN X2.here hx rfl (hb hby at_73) rfl ?_
      show Steps p.tables e below (T2.setTop (mkF m 74 #[.val (.int p1), .val (.int p2), .val (.int p3), .val (.int p4), .val (.int p5), .val (.ref b1), .val (.double (FP.i2d p1)), .second, .val (.double (FP.i2d p2)), .second, .val (.double (FP.i2d p3)), .second, .val (.int (0 : Int32)), .val .null, .unset, .unset, .unset, .unset, .unset, .unset] [(.int p4), (.double (FP.i2d p3)), (.double (FP.i2d p4)), (.ref b1), (.ref b2), (.ref b2)])) tg
      refine own_i2d X2.here hx rfl (hb hby at_74) rfl ?_
      exact kt
    refine own_callI K X2 e2 (rmP1 l Z a0 hw b2 b1 el (FP.i2d p4) (FP.i2d p3) (FP.i2d p4) h2 n0 Z2 (S_el.ext Od2.2) f_b2 (Od2.ne OE.lt f_b2) O_b2_2 (OE.ext Od2.2)) rfl (hw _ (List.mem_of_getElem? (i := 29) rfl)) (hw _ (List.mem_of_getElem? (i := 30) rfl)) (hw _ (List.mem_of_getElem? (i := 28) rfl)) (hw _ (List.mem_of_getElem? (i := 31) rfl)) (by decide) b2 [(.ref b1), (.double (FP.i2d p4)), (.double (FP.i2d p3)), (.double (FP.i2d p4))] [(.ref b2)] own_pd10 rfl rfl rfl rfl at_75 (by decide) (Nat.le_of_ble_eq_true rfl) (by decide) (by decide) ?_
    intro T3 L3 v3 X3 hQ3
    obtain ⟨h3, e3⟩ : ∃ z, T3.heap = z := ⟨_, rfl⟩
    rw [e3] at hQ3
    obtain ⟨rfl, Nq3, Kq3, Oq3_b2⟩ := hQ3
    have N3 := Fr.app N1 Nq3
    have Od3 := Old.keep Od2 Kq3 (allS f_b2 all0)
    have Z3 : n0 ≤ h3.size := Nat.le_trans Z2 Kq3.1
    show own_Fin p e below _ T3 (mkF m 78 #[.val (.int p1), .val (.int p2), .val (.int p3), .val (.int p4), .val (.int p5), .val (.ref b1), .val (.double (FP.i2d p1)), .second, .val (.double (FP.i2d p2)), .second, .val (.double (FP.i2d p3)), .second, .val (.int (0 : Int32)), .val .null, .unset, .unset, .unset, .unset, .unset, .unset] [(.ref b2)])
    refine own_seg (T' := T3) (g' := (mkF m 86 #[.val (.int p1), .val (.int p2), .val (.int p3), .val (.int p4), .val (.int p5), .val (.ref b1), .val (.double (FP.i2d p1)), .second, .val (.double (FP.i2d p2)), .second, .val (.double (FP.i2d p3)), .second, .val (.int (0 : Int32)), .val .null, .val (.ref b2), .unset, .unset, .unset, .unset, .unset] [(.double (FP.i2d p3)), .null, (.ref b2)])) (fun tg kt => ?_) ?_
    · show Steps p.tables e below (T3.setTop (mkF m 78 #[.val (.int p1), .val (.int p2), .val (.int p3), .val (.int p4), .val (.int p5), .val (.ref b1), .val (.double (FP.i2d p1)), .second, .val (.double (FP.i2d p2)), .second, .val (.double (FP.i2d p3)), .second, .val (.int (0 : Int32)), .val .null, .unset, .unset, .unset, .unset, .unset, .unset] [(.ref b2)])) tg
      refine XS.astore X3.here hx rfl (hb hby at_78) rfl rfl (l' := #[.val (.int p1), .val (.int p2), .val (.int p3), .val (.int p4), .val (.int p5), .val (.ref b1), .val (.double (FP.i2d p1)), .second, .val (.double (FP.i2d p2)), .second, .val (.double (FP.i2d p3)), .second, .val (.int (0 : Int32)), .val .null, .val (.ref b2), .unset, .unset, .unset, .unset, .unset]) rfl ?_
      show Steps p.tables e below (T3.setTop (mkF m 80 #[.val (.int p1), .val (.int p2), .val (.int p3), .val (.int p4), .val (.int p5), .val (.ref b1), .val (.double (FP.i2d p1)), .second, .val (.double (FP.i2d p2)), .second, .val (.double (FP.i2d p3)), .second, .val (.int (0 : Int32)), .val .null, .val (.ref b2), .unset, .unset, .unset, .unset, .unset] [])) tg
      refine XS.aload X3.here hx rfl (hb hby at_80) rfl rfl ?_
      show Steps p.tables e below (T3.setTop (mkF m 82 #[.val (.int p1), .val (.int p2), .val (.int p3), .val (.int p4), .val (.int p5), .val (.ref b1), .val (.double (FP.i2d p1)), .second, .val (.double (FP.i2d p2)), .second, .val (.double (FP.i2d p3)), .second, .val (.int (0 : Int32)), .val .null, .val (.ref b2), .unset, .unset, .unset, .unset, .unset] [(.ref b2)])) tg
      refine XS.aload X3.here hx rfl (hb hby at_82) rfl rfl ?_
      show Steps p.tables e below (T3.setTop (mkF m 84 #[.val (.int p1), .val (.int p2), .val (.int p3), .val (.int p4), .val (.int p5), .val (.ref b1), .val (.double (FP.i2d p1)), .second, .val (.double (FP.i2d p2)), .second, .val (.double (FP.i2d p3)), .second, .val (.int (0 : Int32)), .val .null, .val (.ref b2), .unset, .unset, .unset, .unset, .unset] [.null, (.ref b2)])) tg
      refine own_dload X3.here hx rfl (hb hby at_84) rfl ?_
      exact kt
    refine own_callV K X3 e3 (rmTN l Z a0 hw b2 b1 el (FP.i2d p4) (FP.i2d p3) (FP.i2d p4) (FP.i2d p3) h3 n0 Z3 Oq3_b2) (hw _ (List.mem_of_getElem? (i := 83) rfl)) (hw _ (List.mem_of_getElem? (i := 84) rfl)) (fun _ q => notFace_of_selects q) (hw _ (List.mem_of_getElem? (i := 86) rfl)) (hw _ (List.mem_of_getElem? (i := 85) rfl)) (hw _ (List.mem_of_getElem? (i := 28) rfl)) (hw _ (List.mem_of_getElem? (i := 87) rfl)) (by decide) b2 Oq3_b2.exa [.null, (.double (FP.i2d p3))] [] own_pd11 rfl rfl rfl rfl at_86 (by decide) (Nat.le_of_ble_eq_true rfl) (by decide) (by decide) ?_
    intro T4 L4 v4 X4 hQ4
    obtain ⟨h4, e4⟩ : ∃ z, T4.heap = z := ⟨_, rfl⟩
    rw [e4] at hQ4
    obtain ⟨b4, rfl, Nq4, Kq4, f_b4, Oq4⟩ := hQ4
    have N4 := Fr.app N3 Nq4
    have O_b2_4 : own_Obj Z h4 b2 "com/example/murmuration/murmuration/Place" [("com/example/murmuration/murmuration/Site", "id", "Ljava/lang/String;", (.ref b1)), ("com/example/murmuration/murmuration/Site", "first", "D", (.double (FP.i2d p4))), ("com/example/murmuration/murmuration/Site", "second", "D", (.double (FP.i2d p3))), ("com/example/murmuration/murmuration/Place", "value", "D", (.double (FP.i2d p4))), ("com/example/murmuration/murmuration/Place", "needs", "Ljava/util/List;", (.ref el)), ("com/example/murmuration/murmuration/Place", "paths", "Ljava/util/List;", (.ref el)), ("com/example/murmuration/murmuration/Place", "detect", "D", (.double 0)), ("com/example/murmuration/murmuration/Place", "window", "Lcom/example/murmuration/murmuration/Place$Window;", .null), ("com/example/murmuration/murmuration/Place", "duration", "D", (.double 0))] := Oq3_b2.keep Kq4 nin0
    have Od4 := Old.keep Od3 Kq4 all0
    have Z4 : n0 ≤ h4.size := Nat.le_trans Z3 Kq4.1
    show own_Fin p e below _ T4 (mkF m 89 #[.val (.int p1), .val (.int p2), .val (.int p3), .val (.int p4), .val (.int p5), .val (.ref b1), .val (.double (FP.i2d p1)), .second, .val (.double (FP.i2d p2)), .second, .val (.double (FP.i2d p3)), .second, .val (.int (0 : Int32)), .val .null, .val (.ref b2), .unset, .unset, .unset, .unset, .unset] [(.ref b4)])
    refine own_seg (T' := T4) (g' := (mkF m 93 #[.val (.int p1), .val (.int p2), .val (.int p3), .val (.int p4), .val (.int p5), .val (.ref b1), .val (.double (FP.i2d p1)), .second, .val (.double (FP.i2d p2)), .second, .val (.double (FP.i2d p3)), .second, .val (.int (0 : Int32)), .val .null, .val (.ref b2), .val (.ref b4), .unset, .unset, .unset, .unset] [(.ref b4)])) (fun tg kt => ?_) ?_
    · show Steps p.tables e below (T4.setTop (mkF m 89 #[.val (.int p1), .val (.int p2), .val (.int p3), .val (.int p4), .val (.int p5), .val (.ref b1), .val (.double (FP.i2d p1)), .second, .val (.double (FP.i2d p2)), .second, .val (.double (FP.i2d p3)), .second, .val (.int (0 : Int32)), .val .null, .val (.ref b2), .unset, .unset, .unset, .unset, .unset] [(.ref b4)])) tg
      refine XS.astore X4.here hx rfl (hb hby at_89) rfl rfl (l' := #[.val (.int p1), .val (.int p2), .val (.int p3), .val (.int p4), .val (.int p5), .val (.ref b1), .val (.double (FP.i2d p1)), .second, .val (.double (FP.i2d p2)), .second, .val (.double (FP.i2d p3)), .second, .val (.int (0 : Int32)), .val .null, .val (.ref b2), .val (.ref b4), .unset, .unset, .unset, .unset]) rfl ?_
      show Steps p.tables e below (T4.setTop (mkF m 91 #[.val (.int p1), .val (.int p2), .val (.int p3), .val (.int p4), .val (.int p5), .val (.ref b1), .val (.double (FP.i2d p1)), .second, .val (.double (FP.i2d p2)), .second, .val (.double (FP.i2d p3)), .second, .val (.int (0 : Int32)), .val .null, .val (.ref b2), .val (.ref b4), .unset, .unset, .unset, .unset] [])) tg
      refine XS.aload X4.here hx rfl (hb hby at_91) rfl rfl ?_
      exact kt
    refine own_callV K X4 e4 (rmGN l Z a0 hw b4 b1 el (FP.i2d p4) (FP.i2d p3) (FP.i2d p4) (FP.i2d p3) 0 0 h4 n0 Z4 Oq4) (hw _ (List.mem_of_getElem? (i := 97) rfl)) (hw _ (List.mem_of_getElem? (i := 98) rfl)) (fun _ q => notFace_of_selects q) (hw _ (List.mem_of_getElem? (i := 100) rfl)) (hw _ (List.mem_of_getElem? (i := 99) rfl)) (hw _ (List.mem_of_getElem? (i := 28) rfl)) (hw _ (List.mem_of_getElem? (i := 101) rfl)) (by decide) b4 Oq4.exa [] [] own_pd12 rfl rfl rfl rfl at_93 (by decide) (Nat.le_of_ble_eq_true rfl) (by decide) (by decide) ?_
    intro T5 L5 v5 X5 hQ5
    obtain ⟨rfl, Nq5, e5⟩ := hQ5
    have N5 := Fr.app N4 Nq5
    show own_Fin p e below _ T5 (mkF m 96 #[.val (.int p1), .val (.int p2), .val (.int p3), .val (.int p4), .val (.int p5), .val (.ref b1), .val (.double (FP.i2d p1)), .second, .val (.double (FP.i2d p2)), .second, .val (.double (FP.i2d p3)), .second, .val (.int (0 : Int32)), .val .null, .val (.ref b2), .val (.ref b4), .unset, .unset, .unset, .unset] [(.double 0)])
    refine own_seg (T' := T5) (g' := (mkF m 100 #[.val (.int p1), .val (.int p2), .val (.int p3), .val (.int p4), .val (.int p5), .val (.ref b1), .val (.double (FP.i2d p1)), .second, .val (.double (FP.i2d p2)), .second, .val (.double (FP.i2d p3)), .second, .val (.int (0 : Int32)), .val .null, .val (.ref b2), .val (.ref b4), .val (.double 0), .second, .unset, .unset] [(.int (0 : Int32))])) (fun tg kt => ?_) ?_
    · show Steps p.tables e below (T5.setTop (mkF m 96 #[.val (.int p1), .val (.int p2), .val (.int p3), .val (.int p4), .val (.int p5), .val (.ref b1), .val (.double (FP.i2d p1)), .second, .val (.double (FP.i2d p2)), .second, .val (.double (FP.i2d p3)), .second, .val (.int (0 : Int32)), .val .null, .val (.ref b2), .val (.ref b4), .unset, .unset, .unset, .unset] [(.double 0)])) tg
      refine own_dstore X5.here hx rfl (hb hby at_96) rfl (l' := #[.val (.int p1), .val (.int p2), .val (.int p3), .val (.int p4), .val (.int p5), .val (.ref b1), .val (.double (FP.i2d p1)), .second, .val (.double (FP.i2d p2)), .second, .val (.double (FP.i2d p3)), .second, .val (.int (0 : Int32)), .val .null, .val (.ref b2), .val (.ref b4), .val (.double 0), .second, .unset, .unset]) rfl ?_
      show Steps p.tables e below (T5.setTop (mkF m 98 #[.val (.int p1), .val (.int p2), .val (.int p3), .val (.int p4), .val (.int p5), .val (.ref b1), .val (.double (FP.i2d p1)), .second, .val (.double (FP.i2d p2)), .second, .val (.double (FP.i2d p3)), .second, .val (.int (0 : Int32)), .val .null, .val (.ref b2), .val (.ref b4), .val (.double 0), .second, .unset, .unset] [])) tg
      refine XS.iload X5.here hx rfl (hb hby at_98) rfl ?_
      exact kt
    have hc100 : (0 : Int32) = (0 : Int32) := by decide
    refine own_seg (T' := T5) (g' := (mkF m 108 #[.val (.int p1), .val (.int p2), .val (.int p3), .val (.int p4), .val (.int p5), .val (.ref b1), .val (.double (FP.i2d p1)), .second, .val (.double (FP.i2d p2)), .second, .val (.double (FP.i2d p3)), .second, .val (.int (0 : Int32)), .val .null, .val (.ref b2), .val (.ref b4), .val (.double 0), .second, .unset, .unset] [])) (fun tg kt => XS.ifYes X5.here hx rfl (pc0 := 100) (pc' := 108) rfl (hb hby at_100) rfl ((if0 _ _).trans (teq hc100).1) (by decide) (by decide) kt) ?_
    refine own_seg (T' := T5) (g' := (mkF m 116 #[.val (.int p1), .val (.int p2), .val (.int p3), .val (.int p4), .val (.int p5), .val (.ref b1), .val (.double (FP.i2d p1)), .second, .val (.double (FP.i2d p2)), .second, .val (.double (FP.i2d p3)), .second, .val (.int (0 : Int32)), .val .null, .val (.ref b2), .val (.ref b4), .val (.double 0), .second, .val (.double 0), .second] [(.int (FP.cmpInt (-1) (FP.dcmp 0 0)))])) (fun tg kt => ?_) ?_
    · show Steps p.tables e below (T5.setTop (mkF m 108 #[.val (.int p1), .val (.int p2), .val (.int p3), .val (.int p4), .val (.int p5), .val (.ref b1), .val (.double (FP.i2d p1)), .second, .val (.double (FP.i2d p2)), .second, .val (.double (FP.i2d p3)), .second, .val (.int (0 : Int32)), .val .null, .val (.ref b2), .val (.ref b4), .val (.double 0), .second, .unset, .unset] [])) tg
      refine own_dconst0 X5.here hx rfl (hb hby at_108) ?_
      show Steps p.tables e below (T5.setTop (mkF m 109 #[.val (.int p1), .val (.int p2), .val (.int p3), .val (.int p4), .val (.int p5), .val (.ref b1), .val (.double (FP.i2d p1)), .second, .val (.double (FP.i2d p2)), .second, .val (.double (FP.i2d p3)), .second, .val (.int (0 : Int32)), .val .null, .val (.ref b2), .val (.ref b4), .val (.double 0), .second, .unset, .unset] [(.double 0)])) tg
      refine own_dstore X5.here hx rfl (hb hby at_109) rfl (l' := #[.val (.int p1), .val (.int p2), .val (.int p3), .val (.int p4), .val (.int p5), .val (.ref b1), .val (.double (FP.i2d p1)), .second, .val (.double (FP.i2d p2)), .second, .val (.double (FP.i2d p3)), .second, .val (.int (0 : Int32)), .val .null, .val (.ref b2), .val (.ref b4), .val (.double 0), .second, .val (.double 0), .second]) rfl ?_
      show Steps p.tables e below (T5.setTop (mkF m 111 #[.val (.int p1), .val (.int p2), .val (.int p3), .val (.int p4), .val (.int p5), .val (.ref b1), .val (.double (FP.i2d p1)), .second, .val (.double (FP.i2d p2)), .second, .val (.double (FP.i2d p3)), .second, .val (.int (0 : Int32)), .val .null, .val (.ref b2), .val (.ref b4), .val (.double 0), .second, .val (.double 0), .second] [])) tg
      refine own_dload X5.here hx rfl (hb hby at_111) rfl ?_
      show Steps p.tables e below (T5.setTop (mkF m 113 #[.val (.int p1), .val (.int p2), .val (.int p3), .val (.int p4), .val (.int p5), .val (.ref b1), .val (.double (FP.i2d p1)), .second, .val (.double (FP.i2d p2)), .second, .val (.double (FP.i2d p3)), .second, .val (.int (0 : Int32)), .val .null, .val (.ref b2), .val (.ref b4), .val (.double 0), .second, .val (.double 0), .second] [(.double 0)])) tg
      refine own_dload X5.here hx rfl (hb hby at_113) rfl ?_
      show Steps p.tables e below (T5.setTop (mkF m 115 #[.val (.int p1), .val (.int p2), .val (.int p3), .val (.int p4), .val (.int p5), .val (.ref b1), .val (.double (FP.i2d p1)), .second, .val (.double (FP.i2d p2)), .second, .val (.double (FP.i2d p3)), .second, .val (.int (0 : Int32)), .val .null, .val (.ref b2), .val (.ref b4), .val (.double 0), .second, .val (.double 0), .second] [(.double 0), (.double 0)])) tg
      refine own_dcmpl X5.here hx rfl (hb hby at_115) rfl ?_
      exact kt
    have hc116 : (FP.cmpInt (-1) (FP.dcmp 0 0)) = (0 : Int32) := (by decide +kernel)
    refine own_seg (T' := T5) (g' := (mkF m 119 #[.val (.int p1), .val (.int p2), .val (.int p3), .val (.int p4), .val (.int p5), .val (.ref b1), .val (.double (FP.i2d p1)), .second, .val (.double (FP.i2d p2)), .second, .val (.double (FP.i2d p3)), .second, .val (.int (0 : Int32)), .val .null, .val (.ref b2), .val (.ref b4), .val (.double 0), .second, .val (.double 0), .second] [])) (fun tg kt => XS.ifNo X5.here hx rfl (hb hby at_116) rfl ((if0 _ _).trans (teq hc116).2) kt) ?_
    refine own_seg (T' := T5) (g' := (mkF m 121 #[.val (.int p1), .val (.int p2), .val (.int p3), .val (.int p4), .val (.int p5), .val (.ref b1), .val (.double (FP.i2d p1)), .second, .val (.double (FP.i2d p2)), .second, .val (.double (FP.i2d p3)), .second, .val (.int (0 : Int32)), .val .null, .val (.ref b2), .val (.ref b4), .val (.double 0), .second, .val (.double 0), .second] [(.ref b2)])) (fun tg kt => ?_) ?_
    · show Steps p.tables e below (T5.setTop (mkF m 119 #[.val (.int p1), .val (.int p2), .val (.int p3), .val (.int p4), .val (.int p5), .val (.ref b1), .val (.double (FP.i2d p1)), .second, .val (.double (FP.i2d p2)), .second, .val (.double (FP.i2d p3)), .second, .val (.int (0 : Int32)), .val .null, .val (.ref b2), .val (.ref b4), .val (.double 0), .second, .val (.double 0), .second] [])) tg
      refine XS.aload X5.here hx rfl (hb hby at_119) rfl rfl ?_
      exact kt
    refine own_callV K X5 e5 (rmGN l Z a0 hw b2 b1 el (FP.i2d p4) (FP.i2d p3) (FP.i2d p4) 0 0 0 h4 n0 Z4 O_b2_4) (hw _ (List.mem_of_getElem? (i := 97) rfl)) (hw _ (List.mem_of_getElem? (i := 98) rfl)) (fun _ q => notFace_of_selects q) (hw _ (List.mem_of_getElem? (i := 100) rfl)) (hw _ (List.mem_of_getElem? (i := 99) rfl)) (hw _ (List.mem_of_getElem? (i := 28) rfl)) (hw _ (List.mem_of_getElem? (i := 101) rfl)) (by decide) b2 O_b2_4.exa [] [] own_pd12 rfl rfl rfl rfl at_121 (by decide) (Nat.le_of_ble_eq_true rfl) (by decide) (by decide) ?_
    intro T6 L6 v6 X6 hQ6
    obtain ⟨rfl, Nq6, e6⟩ := hQ6
    have N6 := Fr.app N5 Nq6
    show own_Fin p e below _ T6 (mkF m 124 #[.val (.int p1), .val (.int p2), .val (.int p3), .val (.int p4), .val (.int p5), .val (.ref b1), .val (.double (FP.i2d p1)), .second, .val (.double (FP.i2d p2)), .second, .val (.double (FP.i2d p3)), .second, .val (.int (0 : Int32)), .val .null, .val (.ref b2), .val (.ref b4), .val (.double 0), .second, .val (.double 0), .second] [(.double 0)])
    refine own_seg (T' := T6) (g' := (mkF m 126 #[.val (.int p1), .val (.int p2), .val (.int p3), .val (.int p4), .val (.int p5), .val (.ref b1), .val (.double (FP.i2d p1)), .second, .val (.double (FP.i2d p2)), .second, .val (.double (FP.i2d p3)), .second, .val (.int (0 : Int32)), .val .null, .val (.ref b2), .val (.ref b4), .val (.double 0), .second, .val (.double 0), .second] [(.int (FP.cmpInt (-1) (FP.dcmp 0 0)))])) (fun tg kt => ?_) ?_
    · show Steps p.tables e below (T6.setTop (mkF m 124 #[.val (.int p1), .val (.int p2), .val (.int p3), .val (.int p4), .val (.int p5), .val (.ref b1), .val (.double (FP.i2d p1)), .second, .val (.double (FP.i2d p2)), .second, .val (.double (FP.i2d p3)), .second, .val (.int (0 : Int32)), .val .null, .val (.ref b2), .val (.ref b4), .val (.double 0), .second, .val (.double 0), .second] [(.double 0)])) tg
      refine own_dconst0 X6.here hx rfl (hb hby at_124) ?_
      show Steps p.tables e below (T6.setTop (mkF m 125 #[.val (.int p1), .val (.int p2), .val (.int p3), .val (.int p4), .val (.int p5), .val (.ref b1), .val (.double (FP.i2d p1)), .second, .val (.double (FP.i2d p2)), .second, .val (.double (FP.i2d p3)), .second, .val (.int (0 : Int32)), .val .null, .val (.ref b2), .val (.ref b4), .val (.double 0), .second, .val (.double 0), .second] [(.double 0), (.double 0)])) tg
      refine own_dcmpl X6.here hx rfl (hb hby at_125) rfl ?_
      exact kt
    have hc126 : (FP.cmpInt (-1) (FP.dcmp 0 0)) = (0 : Int32) := (by decide +kernel)
    refine own_seg (T' := T6) (g' := (mkF m 129 #[.val (.int p1), .val (.int p2), .val (.int p3), .val (.int p4), .val (.int p5), .val (.ref b1), .val (.double (FP.i2d p1)), .second, .val (.double (FP.i2d p2)), .second, .val (.double (FP.i2d p3)), .second, .val (.int (0 : Int32)), .val .null, .val (.ref b2), .val (.ref b4), .val (.double 0), .second, .val (.double 0), .second] [])) (fun tg kt => XS.ifNo X6.here hx rfl (hb hby at_126) rfl ((if0 _ _).trans (teq hc126).2) kt) ?_
    refine own_seg (T' := T6) (g' := (mkF m 134 #[.val (.int p1), .val (.int p2), .val (.int p3), .val (.int p4), .val (.int p5), .val (.ref b1), .val (.double (FP.i2d p1)), .second, .val (.double (FP.i2d p2)), .second, .val (.double (FP.i2d p3)), .second, .val (.int (0 : Int32)), .val .null, .val (.ref b2), .val (.ref b4), .val (.double 0), .second, .val (.double 0), .second] [(.int (1 : Int32))])) (fun tg kt => ?_) ?_
    · show Steps p.tables e below (T6.setTop (mkF m 129 #[.val (.int p1), .val (.int p2), .val (.int p3), .val (.int p4), .val (.int p5), .val (.ref b1), .val (.double (FP.i2d p1)), .second, .val (.double (FP.i2d p2)), .second, .val (.double (FP.i2d p3)), .second, .val (.int (0 : Int32)), .val .null, .val (.ref b2), .val (.ref b4), .val (.double 0), .second, .val (.double 0), .second] [])) tg
      refine XS.iconst X6.here hx rfl (hb hby at_129) ?_
      show Steps p.tables e below (T6.setTop (mkF m 130 #[.val (.int p1), .val (.int p2), .val (.int p3), .val (.int p4), .val (.int p5), .val (.ref b1), .val (.double (FP.i2d p1)), .second, .val (.double (FP.i2d p2)), .second, .val (.double (FP.i2d p3)), .second, .val (.int (0 : Int32)), .val .null, .val (.ref b2), .val (.ref b4), .val (.double 0), .second, .val (.double 0), .second] [(.int (1 : Int32))])) tg
      refine XS.goto X6.here hx rfl (pc0 := 130) (pc' := 134) rfl (hb hby at_130) (by decide) (by decide) ?_
      exact kt
    exact own_retN K (by simp) X6 at_134 (⟨rfl, N6⟩) (by decide) (by decide)
  · skip
    refine own_seg (T' := T1) (g' := (mkF m 34 #[.val (.int p1), .val (.int p2), .val (.int p3), .val (.int p4), .val (.int p5), .val (.ref b1), .val (.double (FP.i2d p1)), .second, .val (.double (FP.i2d p2)), .second, .val (.double (FP.i2d p3)), .second, .unset, .unset, .unset, .unset, .unset, .unset, .unset, .unset] [])) (fun tg kt => XS.ifNo X1.here hx rfl (hb hby at_31) rfl ((if0 _ _).trans (feq hc31).1) kt) ?_
    refine own_seg (T' := T1) (g' := (mkF m 43 #[.val (.int p1), .val (.int p2), .val (.int p3), .val (.int p4), .val (.int p5), .val (.ref b1), .val (.double (FP.i2d p1)), .second, .val (.double (FP.i2d p2)), .second, .val (.double (FP.i2d p3)), .second, .val (.int (1 : Int32)), .unset, .unset, .unset, .unset, .unset, .unset, .unset] [(.int (1 : Int32))])) (fun tg kt => ?_) ?_
    · show Steps p.tables e below (T1.setTop (mkF m 34 #[.val (.int p1), .val (.int p2), .val (.int p3), .val (.int p4), .val (.int p5), .val (.ref b1), .val (.double (FP.i2d p1)), .second, .val (.double (FP.i2d p2)), .second, .val (.double (FP.i2d p3)), .second, .unset, .unset, .unset, .unset, .unset, .unset, .unset, .unset] [])) tg
      refine XS.iconst X1.here hx rfl (hb hby at_34) ?_
      show Steps p.tables e below (T1.setTop (mkF m 35 #[.val (.int p1), .val (.int p2), .val (.int p3), .val (.int p4), .val (.int p5), .val (.ref b1), .val (.double (FP.i2d p1)), .second, .val (.double (FP.i2d p2)), .second, .val (.double (FP.i2d p3)), .second, .unset, .unset, .unset, .unset, .unset, .unset, .unset, .unset] [(.int (1 : Int32))])) tg
      refine XS.goto X1.here hx rfl (pc0 := 35) (pc' := 39) rfl (hb hby at_35) (by decide) (by decide) ?_
      show Steps p.tables e below (T1.setTop (mkF m 39 #[.val (.int p1), .val (.int p2), .val (.int p3), .val (.int p4), .val (.int p5), .val (.ref b1), .val (.double (FP.i2d p1)), .second, .val (.double (FP.i2d p2)), .second, .val (.double (FP.i2d p3)), .second, .unset, .unset, .unset, .unset, .unset, .unset, .unset, .unset] [(.int (1 : Int32))])) tg
      refine XS.istore X1.here hx rfl (hb hby at_39) rfl (l' := #[.val (.int p1), .val (.int p2), .val (.int p3), .val (.int p4), .val (.int p5), .val (.ref b1), .val (.double (FP.i2d p1)), .second, .val (.double (FP.i2d p2)), .second, .val (.double (FP.i2d p3)), .second, .val (.int (1 : Int32)), .unset, .unset, .unset, .unset, .unset, .unset, .unset]) rfl ?_
      show Steps p.tables e below (T1.setTop (mkF m 41 #[.val (.int p1), .val (.int p2), .val (.int p3), .val (.int p4), .val (.int p5), .val (.ref b1), .val (.double (FP.i2d p1)), .second, .val (.double (FP.i2d p2)), .second, .val (.double (FP.i2d p3)), .second, .val (.int (1 : Int32)), .unset, .unset, .unset, .unset, .unset, .unset, .unset] [])) tg
      refine XS.iload X1.here hx rfl (hb hby at_41) rfl ?_
      exact kt
    have hc43 : ¬ ((1 : Int32) = (0 : Int32)) := by decide
    refine own_seg (T' := T1) (g' := (mkF m 46 #[.val (.int p1), .val (.int p2), .val (.int p3), .val (.int p4), .val (.int p5), .val (.ref b1), .val (.double (FP.i2d p1)), .second, .val (.double (FP.i2d p2)), .second, .val (.double (FP.i2d p3)), .second, .val (.int (1 : Int32)), .unset, .unset, .unset, .unset, .unset, .unset, .unset] [])) (fun tg kt => XS.ifNo X1.here hx rfl (hb hby at_43) rfl ((if0 _ _).trans (feq hc43).1) kt) ?_
    refine own_newO K X1 e1 (hw _ (List.mem_of_getElem? (i := 102) rfl)) (hw _ (List.mem_of_getElem? (i := 103) rfl)) (hw _ (List.mem_of_getElem? (i := 104) rfl)) at_46 (by decide) (by decide) ?_
    intro T7 h7 b7 g7 X7 e7 E7 A7 D7
    have Od7 := Old.ext Od1 E7
    have f_b7 : n0 ≤ b7 := Nat.le_trans Z1 (Nat.le_of_eq g7.symm)
    have Z7 : n0 ≤ h7.size := Nat.le_trans Z1 E7.1
    have O_b7_7 : own_Obj Z h7 b7 "com/example/murmuration/murmuration/Place$Window" [("com/example/murmuration/murmuration/Place$Window", "earliest", "D", (.double 0)), ("com/example/murmuration/murmuration/Place$Window", "latest", "D", (.double 0))] := ⟨A7, by
      intro q hq
      simp only [List.mem_cons, List.not_mem_nil, or_false] at hq
      rcases hq with rfl | rfl
      · exact D7 (Or.inr (hw _ (List.mem_of_getElem? (i := 110) rfl))) (ty := .double) (by decide)
      · exact D7 (Or.inr (hw _ (List.mem_of_getElem? (i := 112) rfl))) (ty := .double) (by decide)⟩
    show own_Fin p e below _ T7 (mkF m 49 #[.val (.int p1), .val (.int p2), .val (.int p3), .val (.int p4), .val (.int p5), .val (.ref b1), .val (.double (FP.i2d p1)), .second, .val (.double (FP.i2d p2)), .second, .val (.double (FP.i2d p3)), .second, .val (.int (1 : Int32)), .unset, .unset, .unset, .unset, .unset, .unset, .unset] [(.ref b7)])
    refine own_seg (T' := T7) (g' := (mkF m 54 #[.val (.int p1), .val (.int p2), .val (.int p3), .val (.int p4), .val (.int p5), .val (.ref b1), .val (.double (FP.i2d p1)), .second, .val (.double (FP.i2d p2)), .second, .val (.double (FP.i2d p3)), .second, .val (.int (1 : Int32)), .unset, .unset, .unset, .unset, .unset, .unset, .unset] [(.double (FP.i2d p2)), (.double (FP.i2d p1)), (.ref b7), (.ref b7)])) (fun tg kt => ?_) ?_
    · show Steps p.tables e below (T7.setTop (mkF m 49 #[.val (.int p1), .val (.int p2), .val (.int p3), .val (.int p4), .val (.int p5), .val (.ref b1), .val (.double (FP.i2d p1)), .second, .val (.double (FP.i2d p2)), .second, .val (.double (FP.i2d p3)), .second, .val (.int (1 : Int32)), .unset, .unset, .unset, .unset, .unset, .unset, .unset] [(.ref b7)])) tg
      refine XS.dup X7.here hx rfl (hb hby at_49) rfl rfl ?_
      show Steps p.tables e below (T7.setTop (mkF m 50 #[.val (.int p1), .val (.int p2), .val (.int p3), .val (.int p4), .val (.int p5), .val (.ref b1), .val (.double (FP.i2d p1)), .second, .val (.double (FP.i2d p2)), .second, .val (.double (FP.i2d p3)), .second, .val (.int (1 : Int32)), .unset, .unset, .unset, .unset, .unset, .unset, .unset] [(.ref b7), (.ref b7)])) tg
      refine own_dload X7.here hx rfl (hb hby at_50) rfl ?_
      show Steps p.tables e below (T7.setTop (mkF m 52 #[.val (.int p1), .val (.int p2), .val (.int p3), .val (.int p4), .val (.int p5), .val (.ref b1), .val (.double (FP.i2d p1)), .second, .val (.double (FP.i2d p2)), .second, .val (.double (FP.i2d p3)), .second, .val (.int (1 : Int32)), .unset, .unset, .unset, .unset, .unset, .unset, .unset] [(.double (FP.i2d p1)), (.ref b7), (.ref b7)])) tg
      refine own_dload X7.here hx rfl (hb hby at_52) rfl ?_
      exact kt
    refine own_callI K X7 e7 (rmW l Z a0 hw b7 (FP.i2d p1) (FP.i2d p2) h7 n0 Z7 f_b7 O_b7_7) rfl (hw _ (List.mem_of_getElem? (i := 105) rfl)) (hw _ (List.mem_of_getElem? (i := 106) rfl)) (hw _ (List.mem_of_getElem? (i := 104) rfl)) (hw _ (List.mem_of_getElem? (i := 107) rfl)) (by decide) b7 [(.double (FP.i2d p1)), (.double (FP.i2d p2))] [(.ref b7)] own_pd13 rfl rfl rfl rfl at_54 (by decide) (Nat.le_of_ble_eq_true rfl) (by decide) (by decide) ?_
    intro T8 L8 v8 X8 hQ8
    obtain ⟨h8, e8⟩ : ∃ z, T8.heap = z := ⟨_, rfl⟩
    rw [e8] at hQ8
    obtain ⟨rfl, Nq8, Kq8, Oq8_b7⟩ := hQ8
    have N8 := Fr.app N1 Nq8
    have Od8 := Old.keep Od7 Kq8 (allS f_b7 all0)
    have Z8 : n0 ≤ h8.size := Nat.le_trans Z7 Kq8.1
    show own_Fin p e below _ T8 (mkF m 57 #[.val (.int p1), .val (.int p2), .val (.int p3), .val (.int p4), .val (.int p5), .val (.ref b1), .val (.double (FP.i2d p1)), .second, .val (.double (FP.i2d p2)), .second, .val (.double (FP.i2d p3)), .second, .val (.int (1 : Int32)), .unset, .unset, .unset, .unset, .unset, .unset, .unset] [(.ref b7)])
    refine own_seg (T' := T8) (g' := (mkF m 63 #[.val (.int p1), .val (.int p2), .val (.int p3), .val (.int p4), .val (.int p5), .val (.ref b1), .val (.double (FP.i2d p1)), .second, .val (.double (FP.i2d p2)), .second, .val (.double (FP.i2d p3)), .second, .val (.int (1 : Int32)), .val (.ref b7), .unset, .unset, .unset, .unset, .unset, .unset] [])) (fun tg kt => ?_) ?_
    · show Steps p.tables e below (T8.setTop (mkF m 57 #[.val (.int p1), .val (.int p2), .val (.int p3), .val (.int p4), .val (.int p5), .val (.ref b1), .val (.double (FP.i2d p1)), .second, .val (.double (FP.i2d p2)), .second, .val (.double (FP.i2d p3)), .second, .val (.int (1 : Int32)), .unset, .unset, .unset, .unset, .unset, .unset, .unset] [(.ref b7)])) tg
      refine XS.goto X8.here hx rfl (pc0 := 57) (pc' := 61) rfl (hb hby at_57) (by decide) (by decide) ?_
      show Steps p.tables e below (T8.setTop (mkF m 61 #[.val (.int p1), .val (.int p2), .val (.int p3), .val (.int p4), .val (.int p5), .val (.ref b1), .val (.double (FP.i2d p1)), .second, .val (.double (FP.i2d p2)), .second, .val (.double (FP.i2d p3)), .second, .val (.int (1 : Int32)), .unset, .unset, .unset, .unset, .unset, .unset, .unset] [(.ref b7)])) tg
      refine XS.astore X8.here hx rfl (hb hby at_61) rfl rfl (l' := #[.val (.int p1), .val (.int p2), .val (.int p3), .val (.int p4), .val (.int p5), .val (.ref b1), .val (.double (FP.i2d p1)), .second, .val (.double (FP.i2d p2)), .second, .val (.double (FP.i2d p3)), .second, .val (.int (1 : Int32)), .val (.ref b7), .unset, .unset, .unset, .unset, .unset, .unset]) rfl ?_
      exact kt
    refine own_newO K X8 e8 (hw _ (List.mem_of_getElem? (i := 26) rfl)) (hw _ (List.mem_of_getElem? (i := 27) rfl)) (hw _ (List.mem_of_getElem? (i := 28) rfl)) at_63 (by decide) (by decide) ?_
    intro T9 h9 b9 g9 X9 e9 E9 A9 D9
    have ne_b7_b9 : b7 ≠ b9 := Nat.ne_of_lt (Nat.lt_of_lt_of_eq Oq8_b7.lt g9.symm)
    have ne_b9_b7 := ne_b7_b9.symm
    have O_b7_9 : own_Obj Z h9 b7 "com/example/murmuration/murmuration/Place$Window" [("com/example/murmuration/murmuration/Place$Window", "earliest", "D", (.double (FP.i2d p1))), ("com/example/murmuration/murmuration/Place$Window", "latest", "D", (.double (FP.i2d p2)))] := Oq8_b7.ext E9
    have Od9 := Old.ext Od8 E9
    have f_b9 : n0 ≤ b9 := Nat.le_trans Z8 (Nat.le_of_eq g9.symm)
    have Z9 : n0 ≤ h9.size := Nat.le_trans Z8 E9.1
    have O_b9_9 : own_Obj Z h9 b9 "com/example/murmuration/murmuration/Place" [("com/example/murmuration/murmuration/Site", "id", "Ljava/lang/String;", .null), ("com/example/murmuration/murmuration/Site", "first", "D", (.double 0)), ("com/example/murmuration/murmuration/Site", "second", "D", (.double 0)), ("com/example/murmuration/murmuration/Place", "value", "D", (.double 0)), ("com/example/murmuration/murmuration/Place", "needs", "Ljava/util/List;", .null), ("com/example/murmuration/murmuration/Place", "paths", "Ljava/util/List;", .null), ("com/example/murmuration/murmuration/Place", "detect", "D", (.double 0)), ("com/example/murmuration/murmuration/Place", "window", "Lcom/example/murmuration/murmuration/Place$Window;", .null), ("com/example/murmuration/murmuration/Place", "duration", "D", (.double 0))] := ⟨A9, by
      intro q hq
      simp only [List.mem_cons, List.not_mem_nil, or_false] at hq
      rcases hq with rfl | rfl | rfl | rfl | rfl | rfl | rfl | rfl | rfl
      · exact D9 (Or.inr (hw _ (List.mem_of_getElem? (i := 48) rfl))) (ty := (.object "java/lang/String")) (by decide)
      · exact D9 (Or.inr (hw _ (List.mem_of_getElem? (i := 50) rfl))) (ty := .double) (by decide)
      · exact D9 (Or.inr (hw _ (List.mem_of_getElem? (i := 52) rfl))) (ty := .double) (by decide)
      · exact D9 (Or.inr (hw _ (List.mem_of_getElem? (i := 54) rfl))) (ty := .double) (by decide)
      · exact D9 (Or.inr (hw _ (List.mem_of_getElem? (i := 74) rfl))) (ty := (.object "java/util/List")) (by decide)
      · exact D9 (Or.inr (hw _ (List.mem_of_getElem? (i := 76) rfl))) (ty := (.object "java/util/List")) (by decide)
      · exact D9 (Or.inr (hw _ (List.mem_of_getElem? (i := 78) rfl))) (ty := .double) (by decide)
      · exact D9 (Or.inr (hw _ (List.mem_of_getElem? (i := 80) rfl))) (ty := (.object "com/example/murmuration/murmuration/Place$Window")) (by decide)
      · exact D9 (Or.inr (hw _ (List.mem_of_getElem? (i := 82) rfl))) (ty := .double) (by decide)⟩
    show own_Fin p e below _ T9 (mkF m 66 #[.val (.int p1), .val (.int p2), .val (.int p3), .val (.int p4), .val (.int p5), .val (.ref b1), .val (.double (FP.i2d p1)), .second, .val (.double (FP.i2d p2)), .second, .val (.double (FP.i2d p3)), .second, .val (.int (1 : Int32)), .val (.ref b7), .unset, .unset, .unset, .unset, .unset, .unset] [(.ref b9)])
    refine own_seg (T' := T9) (g' := (mkF m 75 #[.val (.int p1), .val (.int p2), .val (.int p3), .val (.int p4), .val (.int p5), .val (.ref b1), .val (.double (FP.i2d p1)), .second, .val (.double (FP.i2d p2)), .second, .val (.double (FP.i2d p3)), .second, .val (.int (1 : Int32)), .val (.ref b7), .unset, .unset, .unset, .unset, .unset, .unset] [(.double (FP.i2d p4)), (.double (FP.i2d p3)), (.double (FP.i2d p4)), (.ref b1), (.ref b9), (.ref b9)])) (fun tg kt => ?_) ?_
    · show Steps p.tables e below (T9.setTop (mkF m 66 #[.val (.int p1), .val (.int p2), .val (.int p3), .val (.int p4), .val (.int p5), .val (.ref b1), .val (.double (FP.i2d p1)), .second, .val (.double (FP.i2d p2)), .second, .val (.double (FP.i2d p3)), .second, .val (.int (1 : Int32)), .val (.ref b7), .unset, .unset, .unset, .unset, .unset, .unset] [(.ref b9)])) tg
      refine XS.dup X9.here hx rfl (hb hby at_66) rfl rfl ?_
      show Steps p.tables e below (T9.setTop (mkF m 67 #[.val (.int p1), .val (.int p2), .val (.int p3), .val (.int p4), .val (.int p5), .val (.ref b1), .val (.double (FP.i2d p1)), .second, .val (.double (FP.i2d p2)), .second, .val (.double (FP.i2d p3)), .second, .val (.int (1 : Int32)), .val (.ref b7), .unset, .unset, .unset, .unset, .unset, .unset] [(.ref b9), (.ref b9)])) tg
      refine XS.aload X9.here hx rfl (hb hby at_67) rfl rfl ?_
      show Steps p.tables e below (T9.setTop (mkF m 69 #[.val (.int p1), .val (.int p2), .val (.int p3), .val (.int p4), .val (.int p5), .val (.ref b1), .val (.double (FP.i2d p1)), .second, .val (.double (FP.i2d p2)), .second, .val (.double (FP.i2d p3)), .second, .val (.int (1 : Int32)), .val (.ref b7), .unset, .unset, .unset, .unset, .unset, .unset] [(.ref b1), (.ref b9), (.ref b9)])) tg
      refine XS.iloadN X9.here hx rfl (hb hby at_69) rfl ?_
      show Steps p.tables e below (T9.setTop (mkF m 70 #[.val (.int p1), .val (.int p2), .val (.int p3), .val (.int p4), .val (.int p5), .val (.ref b1), .val (.double (FP.i2d p1)), .second, .val (.double (FP.i2d p2)), .second, .val (.double (FP.i2d p3)), .second, .val (.int (1 : Int32)), .val (.ref b7), .unset, .unset, .unset, .unset, .unset, .unset] [(.int p4), (.ref b1), (.ref b9), (.ref b9)])) tg
      refine own_i2d X9.here hx rfl (hb hby at_70) rfl ?_
      show Steps p.tables e below (T9.setTop (mkF m 71 #[.val (.int p1), .val (.int p2), .val (.int p3), .val (.int p4), .val (.int p5), .val (.ref b1), .val (.double (FP.i2d p1)), .second, .val (.double (FP.i2d p2)), .second, .val (.double (FP.i2d p3)), .second, .val (.int (1 : Int32)), .val (.ref b7), .unset, .unset, .unset, .unset, .unset, .unset] [(.double (FP.i2d p4)), (.ref b1), (.ref b9), (.ref b9)])) tg
      refine own_dload X9.here hx rfl (hb hby at_71) rfl ?_
      show Steps p.tables e below (T9.setTop (mkF m 73 #[.val (.int p1), .val (.int p2), .val (.int p3), .val (.int p4), .val (.int p5), .val (.ref b1), .val (.double (FP.i2d p1)), .second, .val (.double (FP.i2d p2)), .second, .val (.double (FP.i2d p3)), .second, .val (.int (1 : Int32)), .val (.ref b7), .unset, .unset, .unset, .unset, .unset, .unset] [(.double (FP.i2d p3)), (.double (FP.i2d p4)), (.ref b1), (.ref b9), (.ref b9)])) tg
      refine XS.iloadN X9.here hx rfl (hb hby at_73) rfl ?_
      show Steps p.tables e below (T9.setTop (mkF m 74 #[.val (.int p1), .val (.int p2), .val (.int p3), .val (.int p4), .val (.int p5), .val (.ref b1), .val (.double (FP.i2d p1)), .second, .val (.double (FP.i2d p2)), .second, .val (.double (FP.i2d p3)), .second, .val (.int (1 : Int32)), .val (.ref b7), .unset, .unset, .unset, .unset, .unset, .unset] [(.int p4), (.double (FP.i2d p3)), (.double (FP.i2d p4)), (.ref b1), (.ref b9), (.ref b9)])) tg
      refine own_i2d X9.here hx rfl (hb hby at_74) rfl ?_
      exact kt
    refine own_callI K X9 e9 (rmP1 l Z a0 hw b9 b1 el (FP.i2d p4) (FP.i2d p3) (FP.i2d p4) h9 n0 Z9 (S_el.ext Od9.2) f_b9 (Od9.ne OE.lt f_b9) O_b9_9 (OE.ext Od9.2)) rfl (hw _ (List.mem_of_getElem? (i := 29) rfl)) (hw _ (List.mem_of_getElem? (i := 30) rfl)) (hw _ (List.mem_of_getElem? (i := 28) rfl)) (hw _ (List.mem_of_getElem? (i := 31) rfl)) (by decide) b9 [(.ref b1), (.double (FP.i2d p4)), (.double (FP.i2d p3)), (.double (FP.i2d p4))] [(.ref b9)] own_pd10 rfl rfl rfl rfl at_75 (by decide) (Nat.le_of_ble_eq_true rfl) (by decide) (by decide) ?_
    intro T10 L10 v10 X10 hQ10
    obtain ⟨h10, e10⟩ : ∃ z, T10.heap = z := ⟨_, rfl⟩
    rw [e10] at hQ10
    obtain ⟨rfl, Nq10, Kq10, Oq10_b9⟩ := hQ10
    have N10 := Fr.app N8 Nq10
    have O_b7_10 : own_Obj Z h10 b7 "com/example/murmuration/murmuration/Place$Window" [("com/example/murmuration/murmuration/Place$Window", "earliest", "D", (.double (FP.i2d p1))), ("com/example/murmuration/murmuration/Place$Window", "latest", "D", (.double (FP.i2d p2)))] := O_b7_9.keep Kq10 (ninS ne_b7_b9 nin0)
    have Od10 := Old.keep Od9 Kq10 (allS f_b9 all0)
    have Z10 : n0 ≤ h10.size := Nat.le_trans Z9 Kq10.1
    show own_Fin p e below _ T10 (mkF m 78 #[.val (.int p1), .val (.int p2), .val (.int p3), .val (.int p4), .val (.int p5), .val (.ref b1), .val (.double (FP.i2d p1)), .second, .val (.double (FP.i2d p2)), .second, .val (.double (FP.i2d p3)), .second, .val (.int (1 : Int32)), .val (.ref b7), .unset, .unset, .unset, .unset, .unset, .unset] [(.ref b9)])
    refine own_seg (T' := T10) (g' := (mkF m 86 #[.val (.int p1), .val (.int p2), .val (.int p3), .val (.int p4), .val (.int p5), .val (.ref b1), .val (.double (FP.i2d p1)), .second, .val (.double (FP.i2d p2)), .second, .val (.double (FP.i2d p3)), .second, .val (.int (1 : Int32)), .val (.ref b7), .val (.ref b9), .unset, .unset, .unset, .unset, .unset] [(.double (FP.i2d p3)), (.ref b7), (.ref b9)])) (fun tg kt => ?_) ?_
    · show Steps p.tables e below (T10.setTop (mkF m 78 #[.val (.int p1), .val (.int p2), .val (.int p3), .val (.int p4), .val (.int p5), .val (.ref b1), .val (.double (FP.i2d p1)), .second, .val (.double (FP.i2d p2)), .second, .val (.double (FP.i2d p3)), .second, .val (.int (1 : Int32)), .val (.ref b7), .unset, .unset, .unset, .unset, .unset, .unset] [(.ref b9)])) tg
      refine XS.astore X10.here hx rfl (hb hby at_78) rfl rfl (l' := #[.val (.int p1), .val (.int p2), .val (.int p3), .val (.int p4), .val (.int p5), .val (.ref b1), .val (.double (FP.i2d p1)), .second, .val (.double (FP.i2d p2)), .second, .val (.double (FP.i2d p3)), .second, .val (.int (1 : Int32)), .val (.ref b7), .val (.ref b9), .unset, .unset, .unset, .unset, .unset]) rfl ?_
      show Steps p.tables e below (T10.setTop (mkF m 80 #[.val (.int p1), .val (.int p2), .val (.int p3), .val (.int p4), .val (.int p5), .val (.ref b1), .val (.double (FP.i2d p1)), .second, .val (.double (FP.i2d p2)), .second, .val (.double (FP.i2d p3)), .second, .val (.int (1 : Int32)), .val (.ref b7), .val (.ref b9), .unset, .unset, .unset, .unset, .unset] [])) tg
      refine XS.aload X10.here hx rfl (hb hby at_80) rfl rfl ?_
      show Steps p.tables e below (T10.setTop (mkF m 82 #[.val (.int p1), .val (.int p2), .val (.int p3), .val (.int p4), .val (.int p5), .val (.ref b1), .val (.double (FP.i2d p1)), .second, .val (.double (FP.i2d p2)), .second, .val (.double (FP.i2d p3)), .second, .val (.int (1 : Int32)), .val (.ref b7), .val (.ref b9), .unset, .unset, .unset, .unset, .unset] [(.ref b9)])) tg
      refine XS.aload X10.here hx rfl (hb hby at_82) rfl rfl ?_
      show Steps p.tables e below (T10.setTop (mkF m 84 #[.val (.int p1), .val (.int p2), .val (.int p3), .val (.int p4), .val (.int p5), .val (.ref b1), .val (.double (FP.i2d p1)), .second, .val (.double (FP.i2d p2)), .second, .val (.double (FP.i2d p3)), .second, .val (.int (1 : Int32)), .val (.ref b7), .val (.ref b9), .unset, .unset, .unset, .unset, .unset] [(.ref b7), (.ref b9)])) tg
      refine own_dload X10.here hx rfl (hb hby at_84) rfl ?_
      exact kt
    refine own_callV K X10 e10 (rmTR l Z a0 hw b9 b1 el b7 (FP.i2d p4) (FP.i2d p3) (FP.i2d p4) (FP.i2d p3) h10 n0 Z10 Oq10_b9) (hw _ (List.mem_of_getElem? (i := 83) rfl)) (hw _ (List.mem_of_getElem? (i := 84) rfl)) (fun _ q => notFace_of_selects q) (hw _ (List.mem_of_getElem? (i := 86) rfl)) (hw _ (List.mem_of_getElem? (i := 85) rfl)) (hw _ (List.mem_of_getElem? (i := 28) rfl)) (hw _ (List.mem_of_getElem? (i := 87) rfl)) (by decide) b9 Oq10_b9.exa [(.ref b7), (.double (FP.i2d p3))] [] own_pd11 rfl rfl rfl rfl at_86 (by decide) (Nat.le_of_ble_eq_true rfl) (by decide) (by decide) ?_
    intro T11 L11 v11 X11 hQ11
    obtain ⟨h11, e11⟩ : ∃ z, T11.heap = z := ⟨_, rfl⟩
    rw [e11] at hQ11
    obtain ⟨b11, rfl, Nq11, Kq11, f_b11, Oq11⟩ := hQ11
    have N11 := Fr.app N10 Nq11
    have O_b7_11 : own_Obj Z h11 b7 "com/example/murmuration/murmuration/Place$Window" [("com/example/murmuration/murmuration/Place$Window", "earliest", "D", (.double (FP.i2d p1))), ("com/example/murmuration/murmuration/Place$Window", "latest", "D", (.double (FP.i2d p2)))] := O_b7_10.keep Kq11 nin0
    have O_b9_11 : own_Obj Z h11 b9 "com/example/murmuration/murmuration/Place" [("com/example/murmuration/murmuration/Site", "id", "Ljava/lang/String;", (.ref b1)), ("com/example/murmuration/murmuration/Site", "first", "D", (.double (FP.i2d p4))), ("com/example/murmuration/murmuration/Site", "second", "D", (.double (FP.i2d p3))), ("com/example/murmuration/murmuration/Place", "value", "D", (.double (FP.i2d p4))), ("com/example/murmuration/murmuration/Place", "needs", "Ljava/util/List;", (.ref el)), ("com/example/murmuration/murmuration/Place", "paths", "Ljava/util/List;", (.ref el)), ("com/example/murmuration/murmuration/Place", "detect", "D", (.double 0)), ("com/example/murmuration/murmuration/Place", "window", "Lcom/example/murmuration/murmuration/Place$Window;", .null), ("com/example/murmuration/murmuration/Place", "duration", "D", (.double 0))] := Oq10_b9.keep Kq11 nin0
    have Od11 := Old.keep Od10 Kq11 all0
    have Z11 : n0 ≤ h11.size := Nat.le_trans Z10 Kq11.1
    show own_Fin p e below _ T11 (mkF m 89 #[.val (.int p1), .val (.int p2), .val (.int p3), .val (.int p4), .val (.int p5), .val (.ref b1), .val (.double (FP.i2d p1)), .second, .val (.double (FP.i2d p2)), .second, .val (.double (FP.i2d p3)), .second, .val (.int (1 : Int32)), .val (.ref b7), .val (.ref b9), .unset, .unset, .unset, .unset, .unset] [(.ref b11)])
    refine own_seg (T' := T11) (g' := (mkF m 93 #[.val (.int p1), .val (.int p2), .val (.int p3), .val (.int p4), .val (.int p5), .val (.ref b1), .val (.double (FP.i2d p1)), .second, .val (.double (FP.i2d p2)), .second, .val (.double (FP.i2d p3)), .second, .val (.int (1 : Int32)), .val (.ref b7), .val (.ref b9), .val (.ref b11), .unset, .unset, .unset, .unset] [(.ref b11)])) (fun tg kt => ?_) ?_
    · show Steps p.tables e below (T11.setTop (mkF m 89 #[.val (.int p1), .val (.int p2), .val (.int p3), .val (.int p4), .val (.int p5), .val (.ref b1), .val (.double (FP.i2d p1)), .second, .val (.double (FP.i2d p2)), .second, .val (.double (FP.i2d p3)), .second, .val (.int (1 : Int32)), .val (.ref b7), .val (.ref b9), .unset, .unset, .unset, .unset, .unset] [(.ref b11)])) tg
      refine XS.astore X11.here hx rfl (hb hby at_89) rfl rfl (l' := #[.val (.int p1), .val (.int p2), .val (.int p3), .val (.int p4), .val (.int p5), .val (.ref b1), .val (.double (FP.i2d p1)), .second, .val (.double (FP.i2d p2)), .second, .val (.double (FP.i2d p3)), .second, .val (.int (1 : Int32)), .val (.ref b7), .val (.ref b9), .val (.ref b11), .unset, .unset, .unset, .unset]) rfl ?_
      show Steps p.tables e below (T11.setTop (mkF m 91 #[.val (.int p1), .val (.int p2), .val (.int p3), .val (.int p4), .val (.int p5), .val (.ref b1), .val (.double (FP.i2d p1)), .second, .val (.double (FP.i2d p2)), .second, .val (.double (FP.i2d p3)), .second, .val (.int (1 : Int32)), .val (.ref b7), .val (.ref b9), .val (.ref b11), .unset, .unset, .unset, .unset] [])) tg
      refine XS.aload X11.here hx rfl (hb hby at_91) rfl rfl ?_
      exact kt
    refine own_callV K X11 e11 (rmGR l Z a0 hw b11 b1 el b7 (FP.i2d p4) (FP.i2d p3) (FP.i2d p4) (FP.i2d p3) (FP.i2d p1) (FP.i2d p2) h11 n0 Z11 Oq11 O_b7_11) (hw _ (List.mem_of_getElem? (i := 97) rfl)) (hw _ (List.mem_of_getElem? (i := 98) rfl)) (fun _ q => notFace_of_selects q) (hw _ (List.mem_of_getElem? (i := 100) rfl)) (hw _ (List.mem_of_getElem? (i := 99) rfl)) (hw _ (List.mem_of_getElem? (i := 28) rfl)) (hw _ (List.mem_of_getElem? (i := 101) rfl)) (by decide) b11 Oq11.exa [] [] own_pd12 rfl rfl rfl rfl at_93 (by decide) (Nat.le_of_ble_eq_true rfl) (by decide) (by decide) ?_
    intro T12 L12 v12 X12 hQ12
    obtain ⟨rfl, Nq12, e12⟩ := hQ12
    have N12 := Fr.app N11 Nq12
    show own_Fin p e below _ T12 (mkF m 96 #[.val (.int p1), .val (.int p2), .val (.int p3), .val (.int p4), .val (.int p5), .val (.ref b1), .val (.double (FP.i2d p1)), .second, .val (.double (FP.i2d p2)), .second, .val (.double (FP.i2d p3)), .second, .val (.int (1 : Int32)), .val (.ref b7), .val (.ref b9), .val (.ref b11), .unset, .unset, .unset, .unset] [(.double (FP.i2d p1))])
    refine own_seg (T' := T12) (g' := (mkF m 100 #[.val (.int p1), .val (.int p2), .val (.int p3), .val (.int p4), .val (.int p5), .val (.ref b1), .val (.double (FP.i2d p1)), .second, .val (.double (FP.i2d p2)), .second, .val (.double (FP.i2d p3)), .second, .val (.int (1 : Int32)), .val (.ref b7), .val (.ref b9), .val (.ref b11), .val (.double (FP.i2d p1)), .second, .unset, .unset] [(.int (1 : Int32))])) (fun tg kt => ?_) ?_
    · show Steps p.tables e below (T12.setTop (mkF m 96 #[.val (.int p1), .val (.int p2), .val (.int p3), .val (.int p4), .val (.int p5), .val (.ref b1), .val (.double (FP.i2d p1)), .second, .val (.double (FP.i2d p2)), .second, .val (.double (FP.i2d p3)), .second, .val (.int (1 : Int32)), .val (.ref b7), .val (.ref b9), .val (.ref b11), .unset, .unset, .unset, .unset] [(.double (FP.i2d p1))])) tg
      refine own_dstore X12.here hx rfl (hb hby at_96) rfl (l' := #[.val (.int p1), .val (.int p2), .val (.int p3), .val (.int p4), .val (.int p5), .val (.ref b1), .val (.double (FP.i2d p1)), .second, .val (.double (FP.i2d p2)), .second, .val (.double (FP.i2d p3)), .second, .val (.int (1 : Int32)), .val (.ref b7), .val (.ref b9), .val (.ref b11), .val (.double (FP.i2d p1)), .second, .unset, .unset]) rfl ?_
      show Steps p.tables e below (T12.setTop (mkF m 98 #[.val (.int p1), .val (.int p2), .val (.int p3), .val (.int p4), .val (.int p5), .val (.ref b1), .val (.double (FP.i2d p1)), .second, .val (.double (FP.i2d p2)), .second, .val (.double (FP.i2d p3)), .second, .val (.int (1 : Int32)), .val (.ref b7), .val (.ref b9), .val (.ref b11), .val (.double (FP.i2d p1)), .second, .unset, .unset] [])) tg
      refine XS.iload X12.here hx rfl (hb hby at_98) rfl ?_
      exact kt
    have hc100 : ¬ ((1 : Int32) = (0 : Int32)) := by decide
    refine own_seg (T' := T12) (g' := (mkF m 103 #[.val (.int p1), .val (.int p2), .val (.int p3), .val (.int p4), .val (.int p5), .val (.ref b1), .val (.double (FP.i2d p1)), .second, .val (.double (FP.i2d p2)), .second, .val (.double (FP.i2d p3)), .second, .val (.int (1 : Int32)), .val (.ref b7), .val (.ref b9), .val (.ref b11), .val (.double (FP.i2d p1)), .second, .unset, .unset] [])) (fun tg kt => XS.ifNo X12.here hx rfl (hb hby at_100) rfl ((if0 _ _).trans (feq hc100).1) kt) ?_
    refine own_seg (T' := T12) (g' := (mkF m 116 #[.val (.int p1), .val (.int p2), .val (.int p3), .val (.int p4), .val (.int p5), .val (.ref b1), .val (.double (FP.i2d p1)), .second, .val (.double (FP.i2d p2)), .second, .val (.double (FP.i2d p3)), .second, .val (.int (1 : Int32)), .val (.ref b7), .val (.ref b9), .val (.ref b11), .val (.double (FP.i2d p1)), .second, .val (.double (FP.i2d p1)), .second] [(.int (FP.cmpInt (-1) (FP.dcmp (FP.i2d p1) (FP.i2d p1))))])) (fun tg kt => ?_) ?_
    · show Steps p.tables e below (T12.setTop (mkF m 103 #[.val (.int p1), .val (.int p2), .val (.int p3), .val (.int p4), .val (.int p5), .val (.ref b1), .val (.double (FP.i2d p1)), .second, .val (.double (FP.i2d p2)), .second, .val (.double (FP.i2d p3)), .second, .val (.int (1 : Int32)), .val (.ref b7), .val (.ref b9), .val (.ref b11), .val (.double (FP.i2d p1)), .second, .unset, .unset] [])) tg
      refine own_dload X12.here hx rfl (hb hby at_103) rfl ?_
      show Steps p.tables e below (T12.setTop (mkF m 105 #[.val (.int p1), .val (.int p2), .val (.int p3), .val (.int p4), .val (.int p5), .val (.ref b1), .val (.double (FP.i2d p1)), .second, .val (.double (FP.i2d p2)), .second, .val (.double (FP.i2d p3)), .second, .val (.int (1 : Int32)), .val (.ref b7), .val (.ref b9), .val (.ref b11), .val (.double (FP.i2d p1)), .second, .unset, .unset] [(.double (FP.i2d p1))])) tg
      refine XS.goto X12.here hx rfl (pc0 := 105) (pc' := 109) rfl (hb hby at_105) (by decide) (by decide) ?_
      show Steps p.tables e below (T12.setTop (mkF m 109 #[.val (.int p1), .val (.int p2), .val (.int p3), .val (.int p4), .val (.int p5), .val (.ref b1), .val (.double (FP.i2d p1)), .second, .val (.double (FP.i2d p2)), .second, .val (.double (FP.i2d p3)), .second, .val (.int (1 : Int32)), .val (.ref b7), .val (.ref b9), .val (.ref b11), .val (.double (FP.i2d p1)), .second, .unset, .unset] [(.double (FP.i2d p1))])) tg
      refine own_dstore X12.here hx rfl (hb hby at_109) rfl (l' := #[.val (.int p1), .val (.int p2), .val (.int p3), .val (.int p4), .val (.int p5), .val (.ref b1), .val (.double (FP.i2d p1)), .second, .val (.double (FP.i2d p2)), .second, .val (.double (FP.i2d p3)), .second, .val (.int (1 : Int32)), .val (.ref b7), .val (.ref b9), .val (.ref b11), .val (.double (FP.i2d p1)), .second, .val (.double (FP.i2d p1)), .second]) rfl ?_
      show Steps p.tables e below (T12.setTop (mkF m 111 #[.val (.int p1), .val (.int p2), .val (.int p3), .val (.int p4), .val (.int p5), .val (.ref b1), .val (.double (FP.i2d p1)), .second, .val (.double (FP.i2d p2)), .second, .val (.double (FP.i2d p3)), .second, .val (.int (1 : Int32)), .val (.ref b7), .val (.ref b9), .val (.ref b11), .val (.double (FP.i2d p1)), .second, .val (.double (FP.i2d p1)), .second] [])) tg
      refine own_dload X12.here hx rfl (hb hby at_111) rfl ?_
      show Steps p.tables e below (T12.setTop (mkF m 113 #[.val (.int p1), .val (.int p2), .val (.int p3), .val (.int p4), .val (.int p5), .val (.ref b1), .val (.double (FP.i2d p1)), .second, .val (.double (FP.i2d p2)), .second, .val (.double (FP.i2d p3)), .second, .val (.int (1 : Int32)), .val (.ref b7), .val (.ref b9), .val (.ref b11), .val (.double (FP.i2d p1)), .second, .val (.double (FP.i2d p1)), .second] [(.double (FP.i2d p1))])) tg
      refine own_dload X12.here hx rfl (hb hby at_113) rfl ?_
      show Steps p.tables e below (T12.setTop (mkF m 115 #[.val (.int p1), .val (.int p2), .val (.int p3), .val (.int p4), .val (.int p5), .val (.ref b1), .val (.double (FP.i2d p1)), .second, .val (.double (FP.i2d p2)), .second, .val (.double (FP.i2d p3)), .second, .val (.int (1 : Int32)), .val (.ref b7), .val (.ref b9), .val (.ref b11), .val (.double (FP.i2d p1)), .second, .val (.double (FP.i2d p1)), .second] [(.double (FP.i2d p1)), (.double (FP.i2d p1))])) tg
      refine own_dcmpl X12.here hx rfl (hb hby at_115) rfl ?_
      exact kt
    have hc116 : (FP.cmpInt (-1) (FP.dcmp (FP.i2d p1) (FP.i2d p1))) = (0 : Int32) := (own_self _)
    refine own_seg (T' := T12) (g' := (mkF m 119 #[.val (.int p1), .val (.int p2), .val (.int p3), .val (.int p4), .val (.int p5), .val (.ref b1), .val (.double (FP.i2d p1)), .second, .val (.double (FP.i2d p2)), .second, .val (.double (FP.i2d p3)), .second, .val (.int (1 : Int32)), .val (.ref b7), .val (.ref b9), .val (.ref b11), .val (.double (FP.i2d p1)), .second, .val (.double (FP.i2d p1)), .second] [])) (fun tg kt => XS.ifNo X12.here hx rfl (hb hby at_116) rfl ((if0 _ _).trans (teq hc116).2) kt) ?_
    refine own_seg (T' := T12) (g' := (mkF m 121 #[.val (.int p1), .val (.int p2), .val (.int p3), .val (.int p4), .val (.int p5), .val (.ref b1), .val (.double (FP.i2d p1)), .second, .val (.double (FP.i2d p2)), .second, .val (.double (FP.i2d p3)), .second, .val (.int (1 : Int32)), .val (.ref b7), .val (.ref b9), .val (.ref b11), .val (.double (FP.i2d p1)), .second, .val (.double (FP.i2d p1)), .second] [(.ref b9)])) (fun tg kt => ?_) ?_
    · show Steps p.tables e below (T12.setTop (mkF m 119 #[.val (.int p1), .val (.int p2), .val (.int p3), .val (.int p4), .val (.int p5), .val (.ref b1), .val (.double (FP.i2d p1)), .second, .val (.double (FP.i2d p2)), .second, .val (.double (FP.i2d p3)), .second, .val (.int (1 : Int32)), .val (.ref b7), .val (.ref b9), .val (.ref b11), .val (.double (FP.i2d p1)), .second, .val (.double (FP.i2d p1)), .second] [])) tg
      refine XS.aload X12.here hx rfl (hb hby at_119) rfl rfl ?_
      exact kt
    refine own_callV K X12 e12 (rmGN l Z a0 hw b9 b1 el (FP.i2d p4) (FP.i2d p3) (FP.i2d p4) 0 0 0 h11 n0 Z11 O_b9_11) (hw _ (List.mem_of_getElem? (i := 97) rfl)) (hw _ (List.mem_of_getElem? (i := 98) rfl)) (fun _ q => notFace_of_selects q) (hw _ (List.mem_of_getElem? (i := 100) rfl)) (hw _ (List.mem_of_getElem? (i := 99) rfl)) (hw _ (List.mem_of_getElem? (i := 28) rfl)) (hw _ (List.mem_of_getElem? (i := 101) rfl)) (by decide) b9 O_b9_11.exa [] [] own_pd12 rfl rfl rfl rfl at_121 (by decide) (Nat.le_of_ble_eq_true rfl) (by decide) (by decide) ?_
    intro T13 L13 v13 X13 hQ13
    obtain ⟨rfl, Nq13, e13⟩ := hQ13
    have N13 := Fr.app N12 Nq13
    show own_Fin p e below _ T13 (mkF m 124 #[.val (.int p1), .val (.int p2), .val (.int p3), .val (.int p4), .val (.int p5), .val (.ref b1), .val (.double (FP.i2d p1)), .second, .val (.double (FP.i2d p2)), .second, .val (.double (FP.i2d p3)), .second, .val (.int (1 : Int32)), .val (.ref b7), .val (.ref b9), .val (.ref b11), .val (.double (FP.i2d p1)), .second, .val (.double (FP.i2d p1)), .second] [(.double 0)])
    refine own_seg (T' := T13) (g' := (mkF m 126 #[.val (.int p1), .val (.int p2), .val (.int p3), .val (.int p4), .val (.int p5), .val (.ref b1), .val (.double (FP.i2d p1)), .second, .val (.double (FP.i2d p2)), .second, .val (.double (FP.i2d p3)), .second, .val (.int (1 : Int32)), .val (.ref b7), .val (.ref b9), .val (.ref b11), .val (.double (FP.i2d p1)), .second, .val (.double (FP.i2d p1)), .second] [(.int (FP.cmpInt (-1) (FP.dcmp 0 0)))])) (fun tg kt => ?_) ?_
    · show Steps p.tables e below (T13.setTop (mkF m 124 #[.val (.int p1), .val (.int p2), .val (.int p3), .val (.int p4), .val (.int p5), .val (.ref b1), .val (.double (FP.i2d p1)), .second, .val (.double (FP.i2d p2)), .second, .val (.double (FP.i2d p3)), .second, .val (.int (1 : Int32)), .val (.ref b7), .val (.ref b9), .val (.ref b11), .val (.double (FP.i2d p1)), .second, .val (.double (FP.i2d p1)), .second] [(.double 0)])) tg
      refine own_dconst0 X13.here hx rfl (hb hby at_124) ?_
      show Steps p.tables e below (T13.setTop (mkF m 125 #[.val (.int p1), .val (.int p2), .val (.int p3), .val (.int p4), .val (.int p5), .val (.ref b1), .val (.double (FP.i2d p1)), .second, .val (.double (FP.i2d p2)), .second, .val (.double (FP.i2d p3)), .second, .val (.int (1 : Int32)), .val (.ref b7), .val (.ref b9), .val (.ref b11), .val (.double (FP.i2d p1)), .second, .val (.double (FP.i2d p1)), .second] [(.double 0), (.double 0)])) tg
      refine own_dcmpl X13.here hx rfl (hb hby at_125) rfl ?_
      exact kt
    have hc126 : (FP.cmpInt (-1) (FP.dcmp 0 0)) = (0 : Int32) := (by decide +kernel)
    refine own_seg (T' := T13) (g' := (mkF m 129 #[.val (.int p1), .val (.int p2), .val (.int p3), .val (.int p4), .val (.int p5), .val (.ref b1), .val (.double (FP.i2d p1)), .second, .val (.double (FP.i2d p2)), .second, .val (.double (FP.i2d p3)), .second, .val (.int (1 : Int32)), .val (.ref b7), .val (.ref b9), .val (.ref b11), .val (.double (FP.i2d p1)), .second, .val (.double (FP.i2d p1)), .second] [])) (fun tg kt => XS.ifNo X13.here hx rfl (hb hby at_126) rfl ((if0 _ _).trans (teq hc126).2) kt) ?_
    refine own_seg (T' := T13) (g' := (mkF m 134 #[.val (.int p1), .val (.int p2), .val (.int p3), .val (.int p4), .val (.int p5), .val (.ref b1), .val (.double (FP.i2d p1)), .second, .val (.double (FP.i2d p2)), .second, .val (.double (FP.i2d p3)), .second, .val (.int (1 : Int32)), .val (.ref b7), .val (.ref b9), .val (.ref b11), .val (.double (FP.i2d p1)), .second, .val (.double (FP.i2d p1)), .second] [(.int (1 : Int32))])) (fun tg kt => ?_) ?_
    · show Steps p.tables e below (T13.setTop (mkF m 129 #[.val (.int p1), .val (.int p2), .val (.int p3), .val (.int p4), .val (.int p5), .val (.ref b1), .val (.double (FP.i2d p1)), .second, .val (.double (FP.i2d p2)), .second, .val (.double (FP.i2d p3)), .second, .val (.int (1 : Int32)), .val (.ref b7), .val (.ref b9), .val (.ref b11), .val (.double (FP.i2d p1)), .second, .val (.double (FP.i2d p1)), .second] [])) tg
      refine XS.iconst X13.here hx rfl (hb hby at_129) ?_
      show Steps p.tables e below (T13.setTop (mkF m 130 #[.val (.int p1), .val (.int p2), .val (.int p3), .val (.int p4), .val (.int p5), .val (.ref b1), .val (.double (FP.i2d p1)), .second, .val (.double (FP.i2d p2)), .second, .val (.double (FP.i2d p3)), .second, .val (.int (1 : Int32)), .val (.ref b7), .val (.ref b9), .val (.ref b11), .val (.double (FP.i2d p1)), .second, .val (.double (FP.i2d p1)), .second] [(.int (1 : Int32))])) tg
      refine XS.goto X13.here hx rfl (pc0 := 130) (pc' := 134) rfl (hb hby at_130) (by decide) (by decide) ?_
      exact kt
    exact own_retN K (by simp) X13 at_134 (⟨rfl, N13⟩) (by decide) (by decide)
theorem own_fieldI {args : Array Value} {s : State} {t : Term} {x : Addr} {C n d : String} {M : Int32} (h : (Jvm.Cond.eq (.field t C n d) (.int M)).value args s none s [] = some true) (ht : t.eval args s none [] s = some (.ref x)) : Fld s s.heap x C n d (.int M) := by
  obtain ⟨u, w, h1, h2, hk, hk'⟩ := cmp_v (Or.inl h)
  obtain rfl : w = .int M := Option.some.inj (h2.symm.trans (Term.int_eval M))
  obtain ⟨z, rfl⟩ := hk'
  have q : z = M := by simpa [Cond.value, h1, h2] using h
  subst q
  rw [fld_at ht] at h1
  exact Fld.start h1
set_option maxRecDepth 65536 in
set_option maxHeartbeats 40000000 in
theorem own_comes {Post : Tables → Env → Array Value → State → Outcome → State → Prop} (hpost : ∀ tb e args s v u, (limb_1_1.after args s (.returned v) u = true ∧ limb_1_2.after args s (.returned v) u = true) → FrameEnd s (.returned v) u (Jvm.fieldLocs frame_1_writes args s ++ Jvm.arrayLocs frame_1_arrays args s ++ Jvm.staticLocs frame_1_statics s) 24 128 → Post tb e args s (.returned v) u) :
    ArmFor flags0 classFile x code maxLocals ret World_1 tables_1 room_1 Calls_1 rest_1 Pre_1 Post := by
  intro l hfl _ _ p e ha hc hk s m args below hf hA hF happ hP
  obtain ⟨hcalls, hrest, hpre⟩ := hP
  obtain ⟨-, -, -, hnamed, -, -, -, hat⟩ := (Spec.applies_iff hf).mp happ
  obtain ⟨hg, hn⟩ := and_e (Cond.before_iff.mp (show (Jvm.Cond.and given_1 narrow_1).before args s = true from hpre))
  obtain ⟨q1, q2⟩ := and_e hg
  obtain ⟨q3, q4⟩ := and_e q2
  obtain ⟨q5, q6⟩ := and_e q4
  obtain ⟨q7, q8⟩ := and_e q6
  obtain ⟨q9, q10⟩ := and_e q8
  obtain ⟨w0, w1, w2, w3, w4, rfl⟩ : ∃ w0 w1 w2 w3 w4 : Value, args = #[w0, w1, w2, w3, w4] := by
    have hs : args.size = 5 := by simpa [Cond.value, given_1] using q1
    obtain ⟨L⟩ := args
    match L, hs with
    | [w0, w1, w2, w3, w4], _ => exact ⟨w0, w1, w2, w3, w4, rfl⟩
  have hw := fun d (hd : d ∈ tables_1) => atoms_spec (ws := Jvm.Cond.code x code maxLocals ret :: tables_1) hat d (List.mem_cons_of_mem _ hd)
  obtain ⟨hsets, hown0⟩ := atoms_of _ (rest_1_c_eq ▸ (show rest_1_c.before _ s = true from hrest))
  obtain ⟨i0, ei0⟩ := is_v q3
  obtain rfl : w0 = (.int i0) := Option.some.inj ei0
  obtain ⟨i1, ei1⟩ := is_v q5
  obtain rfl : w1 = (.int i1) := Option.some.inj ei1
  obtain ⟨i2, ei2⟩ := is_v q7
  obtain rfl : w2 = (.int i2) := Option.some.inj ei2
  obtain ⟨i3, ei3⟩ := is_v q9
  obtain rfl : w3 = (.int i3) := Option.some.inj ei3
  obtain ⟨i4, ei4⟩ := is_v q10
  obtain rfl : w4 = (.int i4) := Option.some.inj ei4
  obtain ⟨cs, ecs⟩ := is_v (Cond.before_iff.mp (hsets _ (List.mem_of_getElem? (i := 1) rfl)))
  have S_cs := Sta.start ecs (Or.inl (hsets _ (List.mem_of_getElem? (i := 0) rfl)))
  have hcs : ¬ cs = (0 : Int32) := fun q => by
    have q2 := not_v (Cond.before_iff.mp (hsets _ (List.mem_of_getElem? (i := 2) rfl)))
    subst q
    simp [Cond.value, ecs, Term.int_eval] at q2
  have mel := Cond.before_iff.mp (hsets _ (List.mem_of_getElem? (i := 11) rfl))
  obtain ⟨el, eel⟩ := exa_v mel
  have S_el := Sta.start eel (Or.inl (hsets _ (List.mem_of_getElem? (i := 10) rfl)))
  have OE : own_Obj s s.heap el "java/util/ImmutableCollections$ListN" [("java/util/ImmutableCollections$ListN", "allowNulls", "Z", (.int (0 : Int32)))] := ⟨Exa.start eel mel, fun z hz => by
    simp only [List.mem_cons, List.not_mem_nil, or_false] at hz
    subst hz
    exact own_fieldI (Cond.before_iff.mp (hsets _ (List.mem_of_getElem? (i := 15) rfl))) eel⟩
  obtain ⟨n, o, h1, h2, h3, _, L, rfl, ⟨rfl, N⟩, hq⟩ := rm0 l s _ hw i0 i1 i2 i3 i4 cs el s.heap s.heap.size (Nat.le_refl _) (Old.start s) S_cs hcs S_el OE tables_1 p e ha hc hk s m _ below hf ((Spec.applies_iff_loose hf).mp happ).1 ⟨rfl, State.Warmed39.refl s, rfl⟩ trivial
  exact ⟨n, _, h1, h2, h3, hpost _ _ _ _ _ _ ⟨Cond.after_iff.mpr rfl, Cond.after_iff.mpr (eq_i res_at (Term.int_eval (1)) rfl)⟩ ⟨hq.1, hq.2.1, (hq.2.2.sift fun y hy => Or.inr (N y hy)).mono (by decide) (by decide)⟩⟩
theorem main_1_1 : Claimed_1_1 := own_comes fun _ _ _ _ _ _ h hF => ⟨h.1, hF⟩
theorem main_1_2 : Claimed_1_2 := own_comes fun _ _ _ _ _ _ h hF => ⟨h.2, hF⟩
end Jvm.Pilot.@@N@@
namespace Jvm.Pilot.@@N@@
open Jvm Jvm.ClassFile Sem Op Lib Jvm.Free Jvm.Stand Jvm.Pilot.@@N@@.Jvm.D
/-! MADE BY PROGRAM (witnessworld.py) out of the Statement's table words and the real class files: 31 classes; the members and pool entries that the words name. The judged class is class 1, her method 1. -/
namespace start1
open Jvm.ClassFile
def u (s : String) : CpInfo := .utf8 (stringToUtf16 s)
/-- a pool by its gaps: so many unusable entries, then the entry; so many at the end -/
def gap : Nat → List CpInfo → List CpInfo
  | 0, r => r
  | n + 1, r => .unusable :: gap n r
def poolList (es : List (Nat × CpInfo)) (last : Nat) : List CpInfo := es.foldr (fun e r => gap e.1 (e.2 :: r)) (gap last [])
def pool (es : List (Nat × CpInfo)) (last : Nat) : Array CpInfo := ⟨poolList es last⟩
def fileOf (pool : Array CpInfo) (this : Nat) (attrs : Array Attribute := #[]) (ms : Array MethodInfo := #[]) (fl : Nat := 33) (sup : Nat := 0) (ifs : Array Nat := #[]) (fds : Array FieldInfo := #[]) : ClassFile where
  minorVersion := 0
  majorVersion := 65
  constantPool := pool
  accessFlags := fl
  thisClass := this
  superClass := sup
  interfaces := ifs
  fields := fds
  methods := ms
  attributes := attrs
def plain (name : String) (sup : Option ClassId) : Class where
  name := name
  kind := .ordinary
  loader := none
  accessFlags := 33
  super := sup
  interfaces := #[]
  cf := none
  fields := #[]
  methods := #[]
  instanceTypes := #[]
  staticTypes := #[]
  resolved := #[]
  callSites := []
  init := .initialized
  statics := none
  mirror := none

def pool0 : Array CpInfo := pool [(5, u "<init>"), (0, u "()V"), (1, .class_ 10), (1, u "java/lang/Object")] 113

def k0c0 : Code := { maxStack := 0, maxLocals := 1, code := object_method_1_code, exceptionTable := #[], attributes := #[] }
def k0m0 : Method := { name := "<init>", desc := "()V", sig := { parameters := [], returnType := none }, accessFlags := 1, code := some k0c0 }
/-- java/lang/Object -/
def k0 : Class := { plain "java/lang/Object" none with
  accessFlags := 33
  interfaces := #[]
  cf := some (fileOf pool0 8 #[] #[{ accessFlags := 1, nameIndex := 5, descriptorIndex := 6, attributes := #[] }] 33 0 #[] #[])
  fields := #[]
  methods := #[k0m0]
  instanceTypes := #[]
  staticTypes := #[]
  resolved := Array.replicate 124 none
  statics := none }

def pool1 : Array CpInfo := pool [(2, .class_ 4), (1, u "java/lang/Object"), (0, u "<init>"), (0, u "()V"), (0, .methodref 8 9), (0, .class_ 10), (0, .nameAndType 11 12), (0, u "java/lang/String"), (0, u "valueOf"), (0, u "(C)Ljava/lang/String;"), (0, .class_ 14), (0, u "com/example/murmuration/murmuration/Place$Window"), (0, .methodref 13 16), (0, .nameAndType 5 17), (0, u "(DD)V"), (0, .class_ 19), (0, u "com/example/murmuration/murmuration/Place"), (0, .methodref 18 21), (0, .nameAndType 5 22), (0, u "(Ljava/lang/String;DDD)V"), (0, .methodref 18 24), (0, .nameAndType 25 26), (0, u "withTimes"), (0, u "(Lcom/example/murmuration/murmuration/Place$Window;D)Lcom/example/murmuration/murmuration/Place;"), (0, .methodref 18 28), (0, .nameAndType 29 30), (0, u "getEarliestStart"), (0, u "()D"), (0, .class_ 32), (0, u "com/example/murmuration/murmuration/PlaceGetEarliestStartPinLaw"), (2, u "law"), (0, u "(IIIII)Z")] 5

def k1m0 : Method := { name := "<init>", desc := "()V", sig := { parameters := [], returnType := none }, accessFlags := 1, code := none }
def k1c1 : Code := { maxStack := 9, maxLocals := 20, code := code, exceptionTable := #[], attributes := #[] }
def k1m1 : Method := { name := "law", desc := "(IIIII)Z", sig := { parameters := [.int, .int, .int, .int, .int], returnType := some .boolean }, accessFlags := 9, code := some k1c1 }
/-- com/example/murmuration/murmuration/PlaceGetEarliestStartPinLaw -/
def k1 : Class := { plain "com/example/murmuration/murmuration/PlaceGetEarliestStartPinLaw" (some 0) with
  accessFlags := 49
  interfaces := #[]
  cf := some (fileOf pool1 31 #[] #[{ accessFlags := 1, nameIndex := 5, descriptorIndex := 6, attributes := #[] }, { accessFlags := 9, nameIndex := 35, descriptorIndex := 36, attributes := #[] }] 49 2 #[] #[])
  fields := #[]
  methods := #[k1m0, k1m1]
  instanceTypes := #[]
  staticTypes := #[]
  resolved := Array.replicate 42 none
  statics := none }

def pool2 : Array CpInfo := pool [(1, .class_ 2), (0, u "java/io/Serializable"), (0, .class_ 4), (0, u "java/lang/Object")] 2

/-- java/io/Serializable -/
def k2 : Class := { plain "java/io/Serializable" (some 0) with
  accessFlags := 1537
  interfaces := #[]
  cf := some (fileOf pool2 1 #[] #[] 1537 3 #[] #[])
  fields := #[]
  methods := #[]
  instanceTypes := #[]
  staticTypes := #[]
  resolved := Array.replicate 7 none
  statics := none }

def pool3 : Array CpInfo := pool [(1, .class_ 2), (0, u "java/lang/Comparable"), (0, .class_ 4), (0, u "java/lang/Object")] 7

/-- java/lang/Comparable -/
def k3 : Class := { plain "java/lang/Comparable" (some 0) with
  accessFlags := 1537
  interfaces := #[]
  cf := some (fileOf pool3 1 #[] #[] 1537 3 #[] #[])
  fields := #[]
  methods := #[]
  instanceTypes := #[]
  staticTypes := #[]
  resolved := Array.replicate 12 none
  statics := none }

def pool4 : Array CpInfo := pool [(2, .class_ 4), (1, u "java/lang/CharSequence"), (42, .class_ 48), (0, u "java/lang/CharSequence$1CodePointIterator"), (10, .class_ 60), (0, u "java/lang/CharSequence$1CharIterator"), (5, .class_ 67), (0, u "java/lang/Object")] 63

/-- java/lang/CharSequence -/
def k4 : Class := { plain "java/lang/CharSequence" (some 0) with
  accessFlags := 1537
  interfaces := #[]
  cf := some (fileOf pool4 2 #[.nestMembers #[47, 59]] #[] 1537 66 #[] #[])
  fields := #[]
  methods := #[]
  instanceTypes := #[]
  staticTypes := #[]
  resolved := Array.replicate 131 none
  statics := none }

def pool5 : Array CpInfo := pool [(1, .class_ 2), (0, u "java/lang/constant/Constable"), (0, .class_ 4), (0, u "java/lang/Object")] 6

/-- java/lang/constant/Constable -/
def k5 : Class := { plain "java/lang/constant/Constable" (some 0) with
  accessFlags := 1537
  interfaces := #[]
  cf := some (fileOf pool5 1 #[] #[] 1537 3 #[] #[])
  fields := #[]
  methods := #[]
  instanceTypes := #[]
  staticTypes := #[]
  resolved := Array.replicate 11 none
  statics := none }

def pool6 : Array CpInfo := pool [(1, .class_ 2), (0, u "java/lang/constant/ConstantDesc"), (0, .class_ 4), (0, u "java/lang/Object")] 32

/-- java/lang/constant/ConstantDesc -/
def k6 : Class := { plain "java/lang/constant/ConstantDesc" (some 0) with
  accessFlags := 1537
  interfaces := #[]
  cf := some (fileOf pool6 1 #[] #[] 1537 3 #[] #[])
  fields := #[]
  methods := #[]
  instanceTypes := #[]
  staticTypes := #[]
  resolved := Array.replicate 37 none
  statics := none }

def pool7 : Array CpInfo := pool [(1, .methodref 2 3), (0, .class_ 4), (0, .nameAndType 5 6), (0, u "java/lang/Object"), (0, u "<init>"), (0, u "()V"), (2, .fieldref 10 11), (0, .class_ 12), (0, .nameAndType 13 14), (0, u "java/lang/String"), (0, u "value"), (0, u "[B"), (0, .fieldref 10 16), (0, .nameAndType 17 18), (0, u "coder"), (0, u "B"), (2, u "hash"), (0, u "I"), (2, u "hashIsZero"), (0, u "Z"), (11, .fieldref 10 39), (0, .nameAndType 40 26), (0, u "COMPACT_STRINGS"), (12, u "toBytes"), (53, .class_ 109), (1, u "java/lang/StringLatin1"), (99, .methodref 10 210), (0, .nameAndType 5 211), (0, u "([BB)V"), (157, u "(C)Z"), (205, .class_ 576), (0, u "java/lang/CharSequence"), (22, u "CASE_INSENSITIVE_ORDER"), (0, u "Ljava/util/Comparator;"), (181, u "valueOf"), (0, u "(C)Ljava/lang/String;"), (231, .methodref 107 1016), (0, .nameAndType 1017 369), (0, u "canEncode"), (0, .methodref 107 1019), (0, .nameAndType 53 1020), (0, u "(C)[B"), (80, u "serialPersistentFields"), (0, u "[Ljava/io/ObjectStreamField;"), (0, .class_ 1104), (0, u "java/lang/String$CaseInsensitiveComparator"), (1, .class_ 1107), (0, u "java/io/Serializable"), (0, .class_ 1109), (0, u "java/lang/Comparable"), (0, .class_ 1111), (0, u "java/lang/constant/Constable"), (0, .class_ 1113), (0, u "java/lang/constant/ConstantDesc"), (2, u "serialVersionUID"), (0, u "J"), (3, u "REPL"), (0, u "C"), (2, u "LATIN1"), (1, u "UTF16")] 323

def k7m0 : Method := { name := "<init>", desc := "()V", sig := { parameters := [], returnType := none }, accessFlags := 1, code := none }
def k7c1 : Code := { maxStack := 4, maxLocals := 1, code := jdk_42_method_139_code, exceptionTable := #[], attributes := #[] }
def k7m1 : Method := { name := "valueOf", desc := "(C)Ljava/lang/String;", sig := { parameters := [.char], returnType := some (.object "java/lang/String") }, accessFlags := 9, code := some k7c1 }
def k7c2 : Code := { maxStack := 2, maxLocals := 3, code := jdk_42_method_151_code, exceptionTable := #[], attributes := #[] }
def k7m2 : Method := { name := "<init>", desc := "([BB)V", sig := { parameters := [(.array .byte), .byte], returnType := none }, accessFlags := 0, code := some k7c2 }
/-- java/lang/String -/
def k7 : Class := { plain "java/lang/String" (some 0) with
  accessFlags := 49
  interfaces := #[2, 3, 4, 5, 6]
  cf := some (fileOf pool7 10 #[.nestMembers #[1103]] #[{ accessFlags := 1, nameIndex := 5, descriptorIndex := 6, attributes := #[] }, { accessFlags := 9, nameIndex := 782, descriptorIndex := 783, attributes := #[] }, { accessFlags := 0, nameIndex := 5, descriptorIndex := 211, attributes := #[] }] 49 2 #[1106, 1108, 575, 1110, 1112] #[{ accessFlags := 18, nameIndex := 13, descriptorIndex := 14, attributes := #[] }, { accessFlags := 18, nameIndex := 17, descriptorIndex := 18, attributes := #[] }, { accessFlags := 2, nameIndex := 21, descriptorIndex := 22, attributes := #[] }, { accessFlags := 2, nameIndex := 25, descriptorIndex := 26, attributes := #[] }, { accessFlags := 26, nameIndex := 1116, descriptorIndex := 1117, attributes := #[] }, { accessFlags := 24, nameIndex := 40, descriptorIndex := 26, attributes := #[] }, { accessFlags := 26, nameIndex := 1101, descriptorIndex := 1102, attributes := #[] }, { accessFlags := 26, nameIndex := 1121, descriptorIndex := 1122, attributes := #[] }, { accessFlags := 25, nameIndex := 599, descriptorIndex := 600, attributes := #[] }, { accessFlags := 24, nameIndex := 1125, descriptorIndex := 18, attributes := #[] }, { accessFlags := 24, nameIndex := 1127, descriptorIndex := 18, attributes := #[] }])
  fields := #[{ name := "value", type := (.array .byte), accessFlags := 18, slot := 0, constantValue := 0 }, { name := "coder", type := .byte, accessFlags := 18, slot := 1, constantValue := 0 }, { name := "hash", type := .int, accessFlags := 2, slot := 2, constantValue := 0 }, { name := "hashIsZero", type := .boolean, accessFlags := 2, slot := 3, constantValue := 0 }, { name := "serialVersionUID", type := .long, accessFlags := 26, slot := 0, constantValue := 0 }, { name := "COMPACT_STRINGS", type := .boolean, accessFlags := 24, slot := 1, constantValue := 0 }, { name := "serialPersistentFields", type := (.array (.object "java/io/ObjectStreamField")), accessFlags := 26, slot := 2, constantValue := 0 }, { name := "REPL", type := .char, accessFlags := 26, slot := 3, constantValue := 0 }, { name := "CASE_INSENSITIVE_ORDER", type := (.object "java/util/Comparator"), accessFlags := 25, slot := 4, constantValue := 0 }, { name := "LATIN1", type := .byte, accessFlags := 24, slot := 5, constantValue := 0 }, { name := "UTF16", type := .byte, accessFlags := 24, slot := 6, constantValue := 0 }]
  methods := #[k7m0, k7m1, k7m2]
  instanceTypes := #[(.array .byte), .byte, .int, .boolean]
  staticTypes := #[.long, .boolean, (.array (.object "java/io/ObjectStreamField")), .char, (.object "java/util/Comparator"), .byte, .byte]
  resolved := Array.replicate 1451 none
  statics := some 0 }

def pool8 : Array CpInfo := pool [(4, .class_ 6), (1, u "java/lang/Object"), (0, u "<init>"), (0, u "()V"), (5, .class_ 16), (1, u "java/lang/StringLatin1"), (73, u "canEncode"), (14, u "(C)Z"), (15, u "$assertionsDisabled"), (0, u "Z"), (98, .class_ 223), (1, u "java/lang/StringLatin1$LinesSpliterator"), (156, u "toBytes"), (1, u "(C)[B"), (7, .class_ 391), (0, u "java/lang/StringLatin1$CharsSpliterator")] 3

def k8m0 : Method := { name := "<init>", desc := "()V", sig := { parameters := [], returnType := none }, accessFlags := 0, code := none }
def k8c1 : Code := { maxStack := 2, maxLocals := 1, code := jdk_43_method_3_code, exceptionTable := #[], attributes := #[] }
def k8m1 : Method := { name := "canEncode", desc := "(C)Z", sig := { parameters := [.char], returnType := some .boolean }, accessFlags := 9, code := some k8c1 }
def k8c2 : Code := { maxStack := 4, maxLocals := 1, code := jdk_43_method_46_code, exceptionTable := #[], attributes := #[] }
def k8m2 : Method := { name := "toBytes", desc := "(C)[B", sig := { parameters := [.char], returnType := some (.array .byte) }, accessFlags := 9, code := some k8c2 }
/-- java/lang/StringLatin1 -/
def k8 : Class := { plain "java/lang/StringLatin1" (some 0) with
  accessFlags := 48
  interfaces := #[]
  cf := some (fileOf pool8 14 #[.nestMembers #[390, 221]] #[{ accessFlags := 0, nameIndex := 7, descriptorIndex := 8, attributes := #[] }, { accessFlags := 9, nameIndex := 90, descriptorIndex := 105, attributes := #[] }, { accessFlags := 9, nameIndex := 380, descriptorIndex := 382, attributes := #[] }] 48 4 #[] #[{ accessFlags := 4120, nameIndex := 121, descriptorIndex := 122, attributes := #[] }])
  fields := #[{ name := "$assertionsDisabled", type := .boolean, accessFlags := 4120, slot := 0, constantValue := 0 }]
  methods := #[k8m0, k8m1, k8m2]
  instanceTypes := #[]
  staticTypes := #[.boolean]
  resolved := Array.replicate 395 none
  statics := none }

def pool9 : Array CpInfo := pool [(1, .methodref 2 3), (0, .class_ 4), (0, .nameAndType 5 6), (0, u "java/lang/Object"), (0, u "<init>"), (0, u "()V"), (0, .fieldref 8 9), (0, .class_ 10), (0, .nameAndType 11 12), (0, u "com/example/murmuration/murmuration/Site"), (0, u "id"), (0, u "Ljava/lang/String;"), (0, .fieldref 8 14), (0, .nameAndType 15 16), (0, u "first"), (0, u "D"), (0, .fieldref 8 18), (0, .nameAndType 19 16), (0, u "second"), (0, .methodref 8 21), (0, .nameAndType 5 22), (0, u "(Ljava/lang/String;DD)V"), (20, u "(Lcom/example/murmuration/murmuration/Site;)V")] 29

def k9c0 : Code := { maxStack := 3, maxLocals := 6, code := prog_15_method_1_code, exceptionTable := #[], attributes := #[] }
def k9m0 : Method := { name := "<init>", desc := "(Ljava/lang/String;DD)V", sig := { parameters := [(.object "java/lang/String"), .double, .double], returnType := none }, accessFlags := 0, code := some k9c0 }
def k9c1 : Code := { maxStack := 6, maxLocals := 2, code := prog_15_method_2_code, exceptionTable := #[], attributes := #[] }
def k9m1 : Method := { name := "<init>", desc := "(Lcom/example/murmuration/murmuration/Site;)V", sig := { parameters := [(.object "com/example/murmuration/murmuration/Site")], returnType := none }, accessFlags := 0, code := some k9c1 }
/-- com/example/murmuration/murmuration/Site -/
def k9 : Class := { plain "com/example/murmuration/murmuration/Site" (some 0) with
  accessFlags := 1057
  interfaces := #[]
  cf := some (fileOf pool9 8 #[] #[{ accessFlags := 0, nameIndex := 5, descriptorIndex := 22, attributes := #[] }, { accessFlags := 0, nameIndex := 5, descriptorIndex := 43, attributes := #[] }] 1057 2 #[] #[{ accessFlags := 18, nameIndex := 11, descriptorIndex := 12, attributes := #[] }, { accessFlags := 18, nameIndex := 15, descriptorIndex := 16, attributes := #[] }, { accessFlags := 18, nameIndex := 19, descriptorIndex := 16, attributes := #[] }])
  fields := #[{ name := "id", type := (.object "java/lang/String"), accessFlags := 18, slot := 0, constantValue := 0 }, { name := "first", type := .double, accessFlags := 18, slot := 1, constantValue := 0 }, { name := "second", type := .double, accessFlags := 18, slot := 2, constantValue := 0 }]
  methods := #[k9m0, k9m1]
  instanceTypes := #[(.object "java/lang/String"), .double, .double]
  staticTypes := #[]
  resolved := Array.replicate 73 none
  statics := none }

def pool10 : Array CpInfo := pool [(1, .interfaceMethodref 2 3), (0, .class_ 4), (0, .nameAndType 5 6), (0, u "java/util/List"), (0, u "of"), (0, u "()Ljava/util/List;"), (0, .methodref 8 9), (0, .class_ 10), (0, .nameAndType 11 12), (0, u "com/example/murmuration/murmuration/Place"), (0, u "<init>"), (0, u "(Ljava/lang/String;DDDLjava/util/List;Ljava/util/List;D)V"), (12, .methodref 26 27), (0, .class_ 28), (0, .nameAndType 11 29), (0, u "com/example/murmuration/murmuration/Site"), (0, u "(Ljava/lang/String;DD)V"), (0, .fieldref 8 31), (0, .nameAndType 32 33), (0, u "value"), (0, u "D"), (0, .interfaceMethodref 2 35), (0, .nameAndType 36 37), (0, u "copyOf"), (0, u "(Ljava/util/Collection;)Ljava/util/List;"), (0, .fieldref 8 39), (0, .nameAndType 40 41), (0, u "needs"), (0, u "Ljava/util/List;"), (0, .fieldref 8 43), (0, .nameAndType 44 41), (0, u "paths"), (0, .fieldref 8 46), (0, .nameAndType 47 33), (0, u "detect"), (0, .fieldref 8 49), (0, .nameAndType 50 51), (0, u "window"), (0, u "Lcom/example/murmuration/murmuration/Place$Window;"), (0, .fieldref 8 53), (0, .nameAndType 54 33), (0, u "duration"), (0, .methodref 26 56), (0, .nameAndType 11 57), (0, u "(Lcom/example/murmuration/murmuration/Site;)V"), (0, .methodref 8 59), (0, .nameAndType 11 60), (0, u "(Lcom/example/murmuration/murmuration/Place;Lcom/example/murmuration/murmuration/Place$Window;D)V"), (19, u "()D"), (19, .fieldref 101 102), (0, .class_ 103), (0, .nameAndType 104 33), (0, u "com/example/murmuration/murmuration/Place$Window"), (0, u "earliest"), (7, u "MOST_VALUE"), (5, u "(Ljava/lang/String;DDD)V"), (7, u "withTimes"), (0, u "(Lcom/example/murmuration/murmuration/Place$Window;D)Lcom/example/murmuration/murmuration/Place;"), (12, u "getEarliestStart")] 6

def k10c0 : Code := { maxStack := 12, maxLocals := 8, code := prog_10_method_1_code, exceptionTable := #[], attributes := #[] }
def k10m0 : Method := { name := "<init>", desc := "(Ljava/lang/String;DDD)V", sig := { parameters := [(.object "java/lang/String"), .double, .double, .double], returnType := none }, accessFlags := 0, code := some k10c0 }
def k10c1 : Code := { maxStack := 6, maxLocals := 12, code := prog_10_method_4_code, exceptionTable := #[], attributes := #[] }
def k10m1 : Method := { name := "<init>", desc := "(Ljava/lang/String;DDDLjava/util/List;Ljava/util/List;D)V", sig := { parameters := [(.object "java/lang/String"), .double, .double, .double, (.object "java/util/List"), (.object "java/util/List"), .double], returnType := none }, accessFlags := 2, code := some k10c1 }
def k10c2 : Code := { maxStack := 3, maxLocals := 5, code := prog_10_method_5_code, exceptionTable := #[], attributes := #[] }
def k10m2 : Method := { name := "<init>", desc := "(Lcom/example/murmuration/murmuration/Place;Lcom/example/murmuration/murmuration/Place$Window;D)V", sig := { parameters := [(.object "com/example/murmuration/murmuration/Place"), (.object "com/example/murmuration/murmuration/Place$Window"), .double], returnType := none }, accessFlags := 2, code := some k10c2 }
def k10c3 : Code := { maxStack := 6, maxLocals := 4, code := prog_10_method_6_code, exceptionTable := #[], attributes := #[] }
def k10m3 : Method := { name := "withTimes", desc := "(Lcom/example/murmuration/murmuration/Place$Window;D)Lcom/example/murmuration/murmuration/Place;", sig := { parameters := [(.object "com/example/murmuration/murmuration/Place$Window"), .double], returnType := some (.object "com/example/murmuration/murmuration/Place") }, accessFlags := 0, code := some k10c3 }
def k10c4 : Code := { maxStack := 2, maxLocals := 1, code := prog_10_method_15_code, exceptionTable := #[], attributes := #[] }
def k10m4 : Method := { name := "getEarliestStart", desc := "()D", sig := { parameters := [], returnType := some .double }, accessFlags := 0, code := some k10c4 }
/-- com/example/murmuration/murmuration/Place -/
def k10 : Class := { plain "com/example/murmuration/murmuration/Place" (some 9) with
  accessFlags := 49
  interfaces := #[]
  cf := some (fileOf pool10 8 #[.nestMembers #[101]] #[{ accessFlags := 0, nameIndex := 11, descriptorIndex := 118, attributes := #[] }, { accessFlags := 2, nameIndex := 11, descriptorIndex := 12, attributes := #[] }, { accessFlags := 2, nameIndex := 11, descriptorIndex := 60, attributes := #[] }, { accessFlags := 0, nameIndex := 126, descriptorIndex := 127, attributes := #[] }, { accessFlags := 0, nameIndex := 140, descriptorIndex := 80, attributes := #[] }] 49 26 #[] #[{ accessFlags := 24, nameIndex := 112, descriptorIndex := 33, attributes := #[] }, { accessFlags := 18, nameIndex := 32, descriptorIndex := 33, attributes := #[] }, { accessFlags := 18, nameIndex := 40, descriptorIndex := 41, attributes := #[] }, { accessFlags := 18, nameIndex := 44, descriptorIndex := 41, attributes := #[] }, { accessFlags := 18, nameIndex := 47, descriptorIndex := 33, attributes := #[] }, { accessFlags := 18, nameIndex := 50, descriptorIndex := 51, attributes := #[] }, { accessFlags := 18, nameIndex := 54, descriptorIndex := 33, attributes := #[] }])
  fields := #[{ name := "MOST_VALUE", type := .double, accessFlags := 24, slot := 0, constantValue := 0 }, { name := "value", type := .double, accessFlags := 18, slot := 3, constantValue := 0 }, { name := "needs", type := (.object "java/util/List"), accessFlags := 18, slot := 4, constantValue := 0 }, { name := "paths", type := (.object "java/util/List"), accessFlags := 18, slot := 5, constantValue := 0 }, { name := "detect", type := .double, accessFlags := 18, slot := 6, constantValue := 0 }, { name := "window", type := (.object "com/example/murmuration/murmuration/Place$Window"), accessFlags := 18, slot := 7, constantValue := 0 }, { name := "duration", type := .double, accessFlags := 18, slot := 8, constantValue := 0 }]
  methods := #[k10m0, k10m1, k10m2, k10m3, k10m4]
  instanceTypes := #[(.object "java/lang/String"), .double, .double, .double, (.object "java/util/List"), (.object "java/util/List"), .double, (.object "com/example/murmuration/murmuration/Place$Window"), .double]
  staticTypes := #[.double]
  resolved := (Array.replicate 147 none).setIfInBounds 100 (some (.field 22 0))
  statics := none }

def pool11 : Array CpInfo := pool [(8, .class_ 10), (1, u "java/lang/Iterable"), (24, .class_ 36), (0, u "java/lang/Object")] 25

/-- java/lang/Iterable -/
def k11 : Class := { plain "java/lang/Iterable" (some 0) with
  accessFlags := 1537
  interfaces := #[]
  cf := some (fileOf pool11 8 #[] #[] 1537 35 #[] #[])
  fields := #[]
  methods := #[]
  instanceTypes := #[]
  staticTypes := #[]
  resolved := Array.replicate 62 none
  statics := none }

def pool12 : Array CpInfo := pool [(10, .class_ 12), (1, u "java/util/Collection"), (47, .class_ 61), (0, u "java/lang/Object"), (0, .class_ 63), (0, u "java/lang/Iterable")] 51

/-- java/util/Collection -/
def k12 : Class := { plain "java/util/Collection" (some 0) with
  accessFlags := 1537
  interfaces := #[11]
  cf := some (fileOf pool12 10 #[] #[] 1537 60 #[62] #[])
  fields := #[]
  methods := #[]
  instanceTypes := #[]
  staticTypes := #[]
  resolved := Array.replicate 115 none
  statics := none }

def pool13 : Array CpInfo := pool [(8, .class_ 10), (1, u "java/util/SequencedCollection"), (15, .class_ 27), (0, u "java/lang/Object"), (0, .class_ 29), (0, u "java/util/Collection")] 27

/-- java/util/SequencedCollection -/
def k13 : Class := { plain "java/util/SequencedCollection" (some 0) with
  accessFlags := 1537
  interfaces := #[12]
  cf := some (fileOf pool13 8 #[] #[] 1537 26 #[28] #[])
  fields := #[]
  methods := #[]
  instanceTypes := #[]
  staticTypes := #[]
  resolved := Array.replicate 57 none
  statics := none }

def pool14 : Array CpInfo := pool [(8, .class_ 10), (1, u "java/util/List"), (77, u "of"), (1, .fieldref 91 92), (0, .class_ 93), (0, .nameAndType 94 95), (0, u "java/util/ImmutableCollections"), (0, u "EMPTY_LIST"), (0, u "Ljava/util/ImmutableCollections$ListN;"), (7, .class_ 104), (0, u "java/lang/Object"), (7, .methodref 91 113), (0, .nameAndType 114 115), (0, u "listCopy"), (0, u "(Ljava/util/Collection;)Ljava/util/List;"), (3, u "()Ljava/util/List;"), (0, .class_ 121), (0, u "java/util/SequencedCollection"), (112, u "copyOf")] 16

def k14c0 : Code := { maxStack := 1, maxLocals := 0, code := jdk_40_method_36_code, exceptionTable := #[], attributes := #[] }
def k14m0 : Method := { name := "of", desc := "()Ljava/util/List;", sig := { parameters := [], returnType := some (.object "java/util/List") }, accessFlags := 9, code := some k14c0 }
def k14c1 : Code := { maxStack := 1, maxLocals := 1, code := jdk_40_method_48_code, exceptionTable := #[], attributes := #[] }
def k14m1 : Method := { name := "copyOf", desc := "(Ljava/util/Collection;)Ljava/util/List;", sig := { parameters := [(.object "java/util/Collection")], returnType := some (.object "java/util/List") }, accessFlags := 9, code := some k14c1 }
/-- java/util/List -/
def k14 : Class := { plain "java/util/List" (some 0) with
  accessFlags := 1537
  interfaces := #[13]
  cf := some (fileOf pool14 8 #[] #[{ accessFlags := 9, nameIndex := 88, descriptorIndex := 119, attributes := #[] }, { accessFlags := 9, nameIndex := 234, descriptorIndex := 115, attributes := #[] }] 1537 103 #[120] #[])
  fields := #[]
  methods := #[k14m0, k14m1]
  instanceTypes := #[]
  staticTypes := #[]
  resolved := Array.replicate 251 none
  statics := none }

def pool15 : Array CpInfo := pool [(2, .class_ 4), (1, u "java/lang/Object"), (0, u "<init>"), (0, u "()V"), (3, .class_ 11), (0, u "java/util/ImmutableCollections$List12"), (0, .class_ 13), (0, u "java/util/ImmutableCollections$ListN"), (0, .fieldref 12 15), (0, .nameAndType 16 17), (0, u "allowNulls"), (0, u "Z"), (0, .class_ 19), (0, u "java/util/List"), (27, .class_ 49), (1, u "java/util/ImmutableCollections"), (0, u "$assertionsDisabled"), (5, u "[Ljava/lang/Object;"), (5, u "EMPTY_LIST"), (0, u "Ljava/util/ImmutableCollections$ListN;"), (8, u "EMPTY_LIST_NULLS"), (22, u "SALT32L"), (0, u "J"), (2, u "REVERSE"), (6, u "archivedObjects"), (2, u "EMPTY"), (0, u "Ljava/lang/Object;"), (0, .class_ 112), (0, u "java/util/ImmutableCollections$SetN"), (5, u "EMPTY_SET"), (0, u "Ljava/util/ImmutableCollections$SetN;"), (0, .class_ 121), (0, u "java/util/ImmutableCollections$MapN"), (3, u "EMPTY_MAP"), (0, u "Ljava/util/ImmutableCollections$MapN;"), (4, u "EXPAND_FACTOR"), (0, u "I"), (9, u "listCopy"), (0, u "(Ljava/util/Collection;)Ljava/util/List;"), (25, .class_ 170), (0, u "java/util/ImmutableCollections$MapN$MapNIterator"), (0, .class_ 172), (0, u "java/util/ImmutableCollections$MapN$1"), (0, .class_ 174), (0, u "java/util/ImmutableCollections$Map1"), (0, .class_ 176), (0, u "java/util/ImmutableCollections$AbstractImmutableMap"), (0, .class_ 178), (0, u "java/util/ImmutableCollections$SetN$SetNIterator"), (0, .class_ 180), (0, u "java/util/ImmutableCollections$Set12"), (0, .class_ 182), (0, u "java/util/ImmutableCollections$Set12$1"), (0, .class_ 184), (0, u "java/util/ImmutableCollections$AbstractImmutableSet"), (0, .class_ 186), (0, u "java/util/ImmutableCollections$SubList"), (0, .class_ 188), (0, u "java/util/ImmutableCollections$ListItr"), (0, .class_ 190), (0, u "java/util/ImmutableCollections$AbstractImmutableList"), (0, .class_ 192), (0, u "java/util/ImmutableCollections$AbstractImmutableCollection"), (0, .class_ 194), (0, u "java/util/ImmutableCollections$Access"), (0, .class_ 196), (0, u "java/util/ImmutableCollections$Access$1")] 16

def k15m0 : Method := { name := "<init>", desc := "()V", sig := { parameters := [], returnType := none }, accessFlags := 2, code := none }
def k15c1 : Code := { maxStack := 1, maxLocals := 2, code := jdk_56_method_3_code, exceptionTable := #[], attributes := #[] }
def k15m1 : Method := { name := "listCopy", desc := "(Ljava/util/Collection;)Ljava/util/List;", sig := { parameters := [(.object "java/util/Collection")], returnType := some (.object "java/util/List") }, accessFlags := 8, code := some k15c1 }
/-- java/util/ImmutableCollections -/
def k15 : Class := { plain "java/util/ImmutableCollections" (some 0) with
  accessFlags := 32
  interfaces := #[]
  cf := some (fileOf pool15 47 #[.nestMembers #[120, 169, 171, 173, 175, 111, 177, 179, 181, 183, 12, 10, 185, 187, 189, 191, 193, 195]] #[{ accessFlags := 2, nameIndex := 5, descriptorIndex := 6, attributes := #[] }, { accessFlags := 8, nameIndex := 142, descriptorIndex := 143, attributes := #[] }] 32 2 #[] #[{ accessFlags := 26, nameIndex := 95, descriptorIndex := 96, attributes := #[] }, { accessFlags := 26, nameIndex := 99, descriptorIndex := 17, attributes := #[] }, { accessFlags := 10, nameIndex := 106, descriptorIndex := 56, attributes := #[] }, { accessFlags := 26, nameIndex := 109, descriptorIndex := 110, attributes := #[] }, { accessFlags := 24, nameIndex := 62, descriptorIndex := 63, attributes := #[] }, { accessFlags := 24, nameIndex := 72, descriptorIndex := 63, attributes := #[] }, { accessFlags := 24, nameIndex := 118, descriptorIndex := 119, attributes := #[] }, { accessFlags := 24, nameIndex := 125, descriptorIndex := 126, attributes := #[] }, { accessFlags := 24, nameIndex := 131, descriptorIndex := 132, attributes := #[] }, { accessFlags := 4120, nameIndex := 50, descriptorIndex := 17, attributes := #[] }])
  fields := #[{ name := "SALT32L", type := .long, accessFlags := 26, slot := 0, constantValue := 0 }, { name := "REVERSE", type := .boolean, accessFlags := 26, slot := 1, constantValue := 0 }, { name := "archivedObjects", type := (.array (.object "java/lang/Object")), accessFlags := 10, slot := 2, constantValue := 0 }, { name := "EMPTY", type := (.object "java/lang/Object"), accessFlags := 26, slot := 3, constantValue := 0 }, { name := "EMPTY_LIST", type := (.object "java/util/ImmutableCollections$ListN"), accessFlags := 24, slot := 4, constantValue := 0 }, { name := "EMPTY_LIST_NULLS", type := (.object "java/util/ImmutableCollections$ListN"), accessFlags := 24, slot := 5, constantValue := 0 }, { name := "EMPTY_SET", type := (.object "java/util/ImmutableCollections$SetN"), accessFlags := 24, slot := 6, constantValue := 0 }, { name := "EMPTY_MAP", type := (.object "java/util/ImmutableCollections$MapN"), accessFlags := 24, slot := 7, constantValue := 0 }, { name := "EXPAND_FACTOR", type := .int, accessFlags := 24, slot := 8, constantValue := 0 }, { name := "$assertionsDisabled", type := .boolean, accessFlags := 4120, slot := 9, constantValue := 0 }]
  methods := #[k15m0, k15m1]
  instanceTypes := #[]
  staticTypes := #[.long, .boolean, (.array (.object "java/lang/Object")), (.object "java/lang/Object"), (.object "java/util/ImmutableCollections$ListN"), (.object "java/util/ImmutableCollections$ListN"), (.object "java/util/ImmutableCollections$SetN"), (.object "java/util/ImmutableCollections$MapN"), .int, .boolean]
  resolved := Array.replicate 213 none
  statics := some 1 }

def pool16 : Array CpInfo := pool [(2, .class_ 4), (1, u "java/lang/Object"), (0, u "<init>"), (0, u "()V"), (1, .class_ 10), (1, u "java/util/AbstractCollection"), (66, .class_ 78), (0, u "java/util/Collection")] 81

def k16m0 : Method := { name := "<init>", desc := "()V", sig := { parameters := [], returnType := none }, accessFlags := 4, code := none }
/-- java/util/AbstractCollection -/
def k16 : Class := { plain "java/util/AbstractCollection" (some 0) with
  accessFlags := 1057
  interfaces := #[12]
  cf := some (fileOf pool16 8 #[] #[{ accessFlags := 4, nameIndex := 5, descriptorIndex := 6, attributes := #[] }] 1057 2 #[77] #[])
  fields := #[]
  methods := #[k16m0]
  instanceTypes := #[]
  staticTypes := #[]
  resolved := Array.replicate 160 none
  statics := none }

def pool17 : Array CpInfo := pool [(2, .class_ 4), (1, u "java/util/AbstractCollection"), (0, u "<init>"), (0, u "()V"), (1, .class_ 10), (1, u "java/util/ImmutableCollections"), (2, .class_ 14), (0, u "java/util/ImmutableCollections$AbstractImmutableCollection")] 41

def k17m0 : Method := { name := "<init>", desc := "()V", sig := { parameters := [], returnType := none }, accessFlags := 0, code := none }
/-- java/util/ImmutableCollections$AbstractImmutableCollection -/
def k17 : Class := { plain "java/util/ImmutableCollections$AbstractImmutableCollection" (some 16) with
  accessFlags := 1056
  interfaces := #[]
  cf := some (fileOf pool17 13 #[.nestHost 8] #[{ accessFlags := 0, nameIndex := 5, descriptorIndex := 6, attributes := #[] }] 1056 2 #[] #[])
  fields := #[]
  methods := #[k17m0]
  instanceTypes := #[]
  staticTypes := #[]
  resolved := Array.replicate 56 none
  statics := none }

def pool18 : Array CpInfo := pool [(1, .class_ 2), (0, u "java/util/RandomAccess"), (0, .class_ 4), (0, u "java/lang/Object")] 2

/-- java/util/RandomAccess -/
def k18 : Class := { plain "java/util/RandomAccess" (some 0) with
  accessFlags := 1537
  interfaces := #[]
  cf := some (fileOf pool18 1 #[] #[] 1537 3 #[] #[])
  fields := #[]
  methods := #[]
  instanceTypes := #[]
  staticTypes := #[]
  resolved := Array.replicate 7 none
  statics := none }

def pool19 : Array CpInfo := pool [(2, .class_ 4), (1, u "java/util/ImmutableCollections$AbstractImmutableCollection"), (0, u "<init>"), (0, u "()V"), (1, .class_ 10), (1, u "java/util/ImmutableCollections"), (3, .class_ 16), (1, u "java/util/ImmutableCollections$AbstractImmutableList"), (60, .class_ 78), (0, u "java/util/List"), (45, .class_ 125), (0, u "java/util/RandomAccess")] 70

def k19m0 : Method := { name := "<init>", desc := "()V", sig := { parameters := [], returnType := none }, accessFlags := 0, code := none }
/-- java/util/ImmutableCollections$AbstractImmutableList -/
def k19 : Class := { plain "java/util/ImmutableCollections$AbstractImmutableList" (some 17) with
  accessFlags := 1056
  interfaces := #[14, 18]
  cf := some (fileOf pool19 14 #[.nestHost 8] #[{ accessFlags := 0, nameIndex := 5, descriptorIndex := 6, attributes := #[] }] 1056 2 #[77, 124] #[])
  fields := #[]
  methods := #[k19m0]
  instanceTypes := #[]
  staticTypes := #[]
  resolved := Array.replicate 196 none
  statics := none }

def pool20 : Array CpInfo := pool [(2, .class_ 4), (1, u "java/util/ImmutableCollections$AbstractImmutableList"), (9, .class_ 16), (1, u "java/util/ImmutableCollections$List12"), (0, u "e0"), (0, u "Ljava/lang/Object;"), (1, .class_ 22), (1, u "java/util/ImmutableCollections"), (3, u "e1"), (43, .class_ 71), (0, u "java/io/Serializable")] 53

/-- java/util/ImmutableCollections$List12 -/
def k20 : Class := { plain "java/util/ImmutableCollections$List12" (some 19) with
  accessFlags := 48
  interfaces := #[2]
  cf := some (fileOf pool20 14 #[.nestHost 20] #[] 48 2 #[70] #[{ accessFlags := 18, nameIndex := 17, descriptorIndex := 18, attributes := #[] }, { accessFlags := 18, nameIndex := 26, descriptorIndex := 18, attributes := #[] }])
  fields := #[{ name := "e0", type := (.object "java/lang/Object"), accessFlags := 18, slot := 0, constantValue := 0 }, { name := "e1", type := (.object "java/lang/Object"), accessFlags := 18, slot := 1, constantValue := 0 }]
  methods := #[]
  instanceTypes := #[(.object "java/lang/Object"), (.object "java/lang/Object")]
  staticTypes := #[]
  resolved := Array.replicate 125 none
  statics := none }

def pool21 : Array CpInfo := pool [(2, .class_ 4), (1, u "java/util/ImmutableCollections$AbstractImmutableList"), (3, .class_ 10), (1, u "java/util/ImmutableCollections$ListN"), (0, u "elements"), (0, u "[Ljava/lang/Object;"), (2, u "allowNulls"), (0, u "Z"), (42, .class_ 60), (0, u "java/io/Serializable"), (53, .class_ 115), (0, u "java/util/ImmutableCollections")] 3

/-- java/util/ImmutableCollections$ListN -/
def k21 : Class := { plain "java/util/ImmutableCollections$ListN" (some 19) with
  accessFlags := 48
  interfaces := #[2]
  cf := some (fileOf pool21 8 #[.nestHost 114] #[] 48 2 #[59] #[{ accessFlags := 18, nameIndex := 11, descriptorIndex := 12, attributes := #[] }, { accessFlags := 18, nameIndex := 15, descriptorIndex := 16, attributes := #[] }])
  fields := #[{ name := "elements", type := (.array (.object "java/lang/Object")), accessFlags := 18, slot := 0, constantValue := 0 }, { name := "allowNulls", type := .boolean, accessFlags := 18, slot := 1, constantValue := 0 }]
  methods := #[]
  instanceTypes := #[(.array (.object "java/lang/Object")), .boolean]
  staticTypes := #[]
  resolved := Array.replicate 119 none
  statics := none }

def pool22 : Array CpInfo := pool [(1, .methodref 2 3), (0, .class_ 4), (0, .nameAndType 5 6), (0, u "java/lang/Object"), (0, u "<init>"), (0, u "()V"), (0, .fieldref 8 9), (0, .class_ 10), (0, .nameAndType 11 12), (0, u "com/example/murmuration/murmuration/Place$Window"), (0, u "earliest"), (0, u "D"), (0, .fieldref 8 14), (0, .nameAndType 15 12), (0, u "latest"), (0, u "(DD)V"), (8, .class_ 26), (0, u "com/example/murmuration/murmuration/Place")] 2

def k22c0 : Code := { maxStack := 3, maxLocals := 5, code := prog_11_method_1_code, exceptionTable := #[], attributes := #[] }
def k22m0 : Method := { name := "<init>", desc := "(DD)V", sig := { parameters := [.double, .double], returnType := none }, accessFlags := 0, code := some k22c0 }
/-- com/example/murmuration/murmuration/Place$Window -/
def k22 : Class := { plain "com/example/murmuration/murmuration/Place$Window" (some 0) with
  accessFlags := 49
  interfaces := #[]
  cf := some (fileOf pool22 8 #[.nestHost 25] #[{ accessFlags := 0, nameIndex := 5, descriptorIndex := 16, attributes := #[] }] 49 2 #[] #[{ accessFlags := 18, nameIndex := 11, descriptorIndex := 12, attributes := #[] }, { accessFlags := 18, nameIndex := 15, descriptorIndex := 12, attributes := #[] }])
  fields := #[{ name := "earliest", type := .double, accessFlags := 18, slot := 0, constantValue := 0 }, { name := "latest", type := .double, accessFlags := 18, slot := 1, constantValue := 0 }]
  methods := #[k22m0]
  instanceTypes := #[.double, .double]
  staticTypes := #[]
  resolved := Array.replicate 29 none
  statics := none }

def pool23 : Array CpInfo := pool [(2, .class_ 4), (1, u "java/lang/Object"), (0, u "<init>"), (0, u "()V"), (17, .class_ 26), (1, u "jdk/internal/util/Preconditions"), (28, .class_ 56), (0, u "jdk/internal/util/Preconditions$4"), (57, .class_ 115), (0, u "jdk/internal/util/Preconditions$1"), (7, u "SIOOBE_FORMATTER"), (0, u "Ljava/util/function/BiFunction;"), (0, .class_ 126), (0, u "jdk/internal/util/Preconditions$2"), (3, u "AIOOBE_FORMATTER"), (0, .class_ 132), (0, u "jdk/internal/util/Preconditions$3"), (3, u "IOOBE_FORMATTER")] 57

def k23m0 : Method := { name := "<init>", desc := "()V", sig := { parameters := [], returnType := none }, accessFlags := 1, code := none }
/-- jdk/internal/util/Preconditions -/
def k23 : Class := { plain "jdk/internal/util/Preconditions" (some 0) with
  accessFlags := 33
  interfaces := #[]
  cf := some (fileOf pool23 24 #[.nestMembers #[55, 131, 125, 114]] #[{ accessFlags := 1, nameIndex := 5, descriptorIndex := 6, attributes := #[] }] 33 2 #[] #[{ accessFlags := 25, nameIndex := 123, descriptorIndex := 124, attributes := #[] }, { accessFlags := 25, nameIndex := 130, descriptorIndex := 124, attributes := #[] }, { accessFlags := 25, nameIndex := 136, descriptorIndex := 124, attributes := #[] }])
  fields := #[{ name := "SIOOBE_FORMATTER", type := (.object "java/util/function/BiFunction"), accessFlags := 25, slot := 0, constantValue := 0 }, { name := "AIOOBE_FORMATTER", type := (.object "java/util/function/BiFunction"), accessFlags := 25, slot := 1, constantValue := 0 }, { name := "IOOBE_FORMATTER", type := (.object "java/util/function/BiFunction"), accessFlags := 25, slot := 2, constantValue := 0 }]
  methods := #[k23m0]
  instanceTypes := #[]
  staticTypes := #[(.object "java/util/function/BiFunction"), (.object "java/util/function/BiFunction"), (.object "java/util/function/BiFunction")]
  resolved := Array.replicate 194 none
  statics := some 2 }

def pool24 : Array CpInfo := pool [(9, u "<init>"), (6, .class_ 18), (1, u "java/lang/Object"), (0, u "()V"), (1, .class_ 23), (1, u "jdk/internal/util/ArraysSupport"), (0, u "LOG2_ARRAY_LONG_INDEX_SCALE"), (0, u "I"), (2, u "U"), (0, u "Ljdk/internal/misc/Unsafe;"), (8, u "BIG_ENDIAN"), (0, u "Z"), (8, u "LOG2_BYTE_BIT_SIZE"), (4, u "LOG2_ARRAY_INT_INDEX_SCALE"), (54, u "JLA"), (0, u "Ljdk/internal/access/JavaLangAccess;"), (11, u "LOG2_ARRAY_BOOLEAN_INDEX_SCALE"), (9, u "LOG2_ARRAY_BYTE_INDEX_SCALE"), (5, u "LOG2_ARRAY_CHAR_INDEX_SCALE"), (5, u "LOG2_ARRAY_SHORT_INDEX_SCALE"), (18, u "LOG2_ARRAY_FLOAT_INDEX_SCALE"), (24, u "LOG2_ARRAY_DOUBLE_INDEX_SCALE"), (89, u "T_BOOLEAN"), (2, u "T_CHAR"), (1, u "T_FLOAT"), (1, u "T_DOUBLE"), (1, u "T_BYTE"), (1, u "T_SHORT"), (1, u "T_INT"), (1, u "T_LONG"), (1, u "SOFT_MAX_ARRAY_LENGTH")] 83

def k24m0 : Method := { name := "<init>", desc := "()V", sig := { parameters := [], returnType := none }, accessFlags := 2, code := none }
/-- jdk/internal/util/ArraysSupport -/
def k24 : Class := { plain "jdk/internal/util/ArraysSupport" (some 0) with
  accessFlags := 33
  interfaces := #[]
  cf := some (fileOf pool24 21 #[] #[{ accessFlags := 2, nameIndex := 9, descriptorIndex := 19, attributes := #[] }] 33 16 #[] #[{ accessFlags := 24, nameIndex := 28, descriptorIndex := 29, attributes := #[] }, { accessFlags := 26, nameIndex := 38, descriptorIndex := 39, attributes := #[] }, { accessFlags := 25, nameIndex := 121, descriptorIndex := 25, attributes := #[] }, { accessFlags := 25, nameIndex := 131, descriptorIndex := 25, attributes := #[] }, { accessFlags := 25, nameIndex := 137, descriptorIndex := 25, attributes := #[] }, { accessFlags := 25, nameIndex := 143, descriptorIndex := 25, attributes := #[] }, { accessFlags := 25, nameIndex := 53, descriptorIndex := 25, attributes := #[] }, { accessFlags := 25, nameIndex := 24, descriptorIndex := 25, attributes := #[] }, { accessFlags := 25, nameIndex := 162, descriptorIndex := 25, attributes := #[] }, { accessFlags := 25, nameIndex := 187, descriptorIndex := 25, attributes := #[] }, { accessFlags := 26, nameIndex := 48, descriptorIndex := 25, attributes := #[] }, { accessFlags := 25, nameIndex := 277, descriptorIndex := 25, attributes := #[] }, { accessFlags := 25, nameIndex := 280, descriptorIndex := 25, attributes := #[] }, { accessFlags := 25, nameIndex := 282, descriptorIndex := 25, attributes := #[] }, { accessFlags := 25, nameIndex := 284, descriptorIndex := 25, attributes := #[] }, { accessFlags := 25, nameIndex := 286, descriptorIndex := 25, attributes := #[] }, { accessFlags := 25, nameIndex := 288, descriptorIndex := 25, attributes := #[] }, { accessFlags := 25, nameIndex := 290, descriptorIndex := 25, attributes := #[] }, { accessFlags := 25, nameIndex := 292, descriptorIndex := 25, attributes := #[] }, { accessFlags := 26, nameIndex := 108, descriptorIndex := 109, attributes := #[] }, { accessFlags := 25, nameIndex := 294, descriptorIndex := 25, attributes := #[] }])
  fields := #[{ name := "U", type := (.object "jdk/internal/misc/Unsafe"), accessFlags := 24, slot := 0, constantValue := 0 }, { name := "BIG_ENDIAN", type := .boolean, accessFlags := 26, slot := 1, constantValue := 0 }, { name := "LOG2_ARRAY_BOOLEAN_INDEX_SCALE", type := .int, accessFlags := 25, slot := 2, constantValue := 0 }, { name := "LOG2_ARRAY_BYTE_INDEX_SCALE", type := .int, accessFlags := 25, slot := 3, constantValue := 0 }, { name := "LOG2_ARRAY_CHAR_INDEX_SCALE", type := .int, accessFlags := 25, slot := 4, constantValue := 0 }, { name := "LOG2_ARRAY_SHORT_INDEX_SCALE", type := .int, accessFlags := 25, slot := 5, constantValue := 0 }, { name := "LOG2_ARRAY_INT_INDEX_SCALE", type := .int, accessFlags := 25, slot := 6, constantValue := 0 }, { name := "LOG2_ARRAY_LONG_INDEX_SCALE", type := .int, accessFlags := 25, slot := 7, constantValue := 0 }, { name := "LOG2_ARRAY_FLOAT_INDEX_SCALE", type := .int, accessFlags := 25, slot := 8, constantValue := 0 }, { name := "LOG2_ARRAY_DOUBLE_INDEX_SCALE", type := .int, accessFlags := 25, slot := 9, constantValue := 0 }, { name := "LOG2_BYTE_BIT_SIZE", type := .int, accessFlags := 26, slot := 10, constantValue := 0 }, { name := "T_BOOLEAN", type := .int, accessFlags := 25, slot := 11, constantValue := 0 }, { name := "T_CHAR", type := .int, accessFlags := 25, slot := 12, constantValue := 0 }, { name := "T_FLOAT", type := .int, accessFlags := 25, slot := 13, constantValue := 0 }, { name := "T_DOUBLE", type := .int, accessFlags := 25, slot := 14, constantValue := 0 }, { name := "T_BYTE", type := .int, accessFlags := 25, slot := 15, constantValue := 0 }, { name := "T_SHORT", type := .int, accessFlags := 25, slot := 16, constantValue := 0 }, { name := "T_INT", type := .int, accessFlags := 25, slot := 17, constantValue := 0 }, { name := "T_LONG", type := .int, accessFlags := 25, slot := 18, constantValue := 0 }, { name := "JLA", type := (.object "jdk/internal/access/JavaLangAccess"), accessFlags := 26, slot := 19, constantValue := 0 }, { name := "SOFT_MAX_ARRAY_LENGTH", type := .int, accessFlags := 25, slot := 20, constantValue := 0 }]
  methods := #[k24m0]
  instanceTypes := #[]
  staticTypes := #[(.object "jdk/internal/misc/Unsafe"), .boolean, .int, .int, .int, .int, .int, .int, .int, .int, .int, .int, .int, .int, .int, .int, .int, .int, .int, (.object "jdk/internal/access/JavaLangAccess"), .int]
  resolved := Array.replicate 378 none
  statics := none }

def pool25 : Array CpInfo := pool [(1, u "java/lang/Cloneable"), (0, .class_ 1), (0, u "java/lang/Object"), (0, .class_ 3)] 3

/-- java/lang/Cloneable -/
def k25 : Class := { plain "java/lang/Cloneable" (some 0) with
  accessFlags := 1537
  interfaces := #[]
  cf := some (fileOf pool25 2 #[] #[] 1537 4 #[] #[])
  fields := #[]
  methods := #[]
  instanceTypes := #[]
  staticTypes := #[]
  resolved := Array.replicate 8 none
  statics := none }

/-- the primitive byte -/
def k26 : Class := { plain "byte" none with kind := .primitive 'B', accessFlags := 0x411 }
/-- [B -/
def k27 : Class := { plain "[B" (some 0) with kind := .array 26 .byte, interfaces := #[25, 2], accessFlags := 1041 }

/-- the primitive int -/
def k28 : Class := { plain "int" none with kind := .primitive 'I', accessFlags := 0x411 }
/-- [I -/
def k29 : Class := { plain "[I" (some 0) with kind := .array 28 .int, interfaces := #[25, 2], accessFlags := 1041 }

/-- [Ljava/lang/Object; -/
def k30 : Class := { plain "[Ljava/lang/Object;" (some 0) with kind := .array 0 (.object "java/lang/Object"), interfaces := #[25, 2], accessFlags := 1041 }

def heap : Heap := #[{ cls := 7, slots := #[.long 0, .int 1, .null, .int 0, .null, .int 0, .int 0], vm := .statics 7 },
  { cls := 15, slots := #[.long 0, .int 0, .null, .null, .ref 4, .null, .null, .null, .int 0, .int 0], vm := .statics 15 },
  { cls := 23, slots := #[.null, .null, .null], vm := .statics 23 },
  { cls := 30, slots := #[], vm := .none },
  { cls := 21, slots := #[.ref 3, .int 0], vm := .none }]
def classes : Array Class := #[k0, k1, k2, k3, k4, k5, k6, k7, k8, k9, k10, k11, k12, k13, k14, k15, k16, k17, k18, k19, k20, k21, k22, k23, k24, k25, k26, k27, k28, k29, k30]
def interned : List (Array UInt16 × Addr) := []
def slotsUsed : Nat := 22
def theMethod : MethodId := ⟨1, 1⟩
def args0 : Array Value := #[.int 1, .int 2, .int 3, .int 4, .int 5]
def aboutOver (below : List Frame) : State where
  vm := { classes := classes, interned := interned.toArray }
  heap := heap
  slotsUsed := slotsUsed
  threads := #[{ frames := .invoking theMethod args0 :: below }]
def below0 : List Frame := [.native { method := ⟨0, 0⟩, args := #[] }]
def about1 : State := aboutOver below0
def p0 : Program := .bare "" "" ""
def e0 : Env := launch0.env 0 0 0
theorem w_frames : about1.frames = Frame.invoking theMethod args0 :: below0 := rfl
set_option maxRecDepth 65536 in
theorem w_args : argsFit about1.vm theMethod args0 = true := by decide +kernel
set_option maxRecDepth 65536 in
theorem w_heap : heapFits about1 = true := by decide +kernel
set_option maxRecDepth 65536 in
theorem w_runnable : about1.curStatus? = some .runnable := by decide +kernel
set_option maxRecDepth 65536 in
theorem w_alone : about1.alone = true := by decide +kernel
set_option maxRecDepth 65536 in
theorem w_named : about1.methodNamed? x = some theMethod := by decide +kernel
set_option maxRecDepth 65536 in
theorem w_hears : about1.hears theMethod below0 = true := by decide +kernel
set_option maxRecDepth 65536 in
theorem w_ripe : about1.ripe theMethod args0 below0 = true := by decide +kernel
theorem w_running : about1.status = .running := rfl
set_option maxRecDepth 65536 in
theorem w_room : about1.hasRoom e0.platform room_1 = true :=
  launch0.hasRoom_least _ room_1 (by decide +kernel) (by decide +kernel) (by decide +kernel) (by decide +kernel) (by decide +kernel) (by decide +kernel)
theorem allAtoms_all (ts : List Jvm.Cond) (a : Array Jvm.Value) (st : Jvm.State) : (allAtoms ts).before a st = ts.all (fun c => c.before a st) := by
  induction ts with
  | nil => rfl
  | cons c t ih =>
    show (Jvm.Cond.and c (allAtoms t)).before a st = _
    rw [Jvm.Cond.before_and, ih, List.all_cons]
def words1 : List Jvm.Cond := Jvm.Cond.code x code maxLocals ret :: tables_1
/-- a 'code' word, met by the world's own term for the bytes: nothing is compared byte by byte -/
theorem code_word {y : MethodName} {bytes : ByteArray} {mx : Nat} {rt : Option FieldType} {a : Array Value} {s : State} {m : MethodId} {meth : Method} {c : Code} (h1 : s.methodNamed? y = some m) (h2 : s.vm.method? m = some meth) (h3 : meth.code = some c) (h4 : c.code = bytes)
    (h5 : (c.maxLocals == mx && c.exceptionTable.isEmpty && decide (c.maxStack ≤ mostOperands) && decide (meth.sig.returnType = rt) && !meth.locks && decide (parseMethodDescriptor y.desc = some meth.sig)) = true) : (Jvm.Cond.code y bytes mx rt).before a s = true := by
  simp only [Bool.and_eq_true, beq_iff_eq, Bool.not_eq_true', decide_eq_true_eq] at h5
  obtain ⟨⟨⟨⟨⟨g1, g2⟩, g3⟩, g4⟩, g5⟩, g6⟩ := h5
  simp [Cond.before, Cond.holds, Cond.value, h1, h2, h3, h4, g1, g2, g3, g4, g5, g6]
def isCode : Jvm.Cond → Bool
  | .code _ _ _ _ => true
  | _ => false
theorem all_split {L : List Jvm.Cond} {P : Jvm.Cond → Bool} (h1 : L.all (fun c => isCode c || P c) = true) (h2 : ∀ c ∈ L.filter isCode, P c = true) : L.all P = true := by
  refine List.all_eq_true.mpr fun c hc => ?_
  have h := List.all_eq_true.mp h1 c hc
  rcases Bool.eq_false_or_eq_true (isCode c) with hi | hi
  · exact h2 c (List.mem_filter.mpr ⟨hc, hi⟩)
  · simpa [hi] using h
set_option maxRecDepth 65536 in
theorem w_c0 : (Jvm.Cond.code x code maxLocals ret).before args0 about1 = true := code_word (m := ⟨1, 1⟩) (meth := k1m1) (c := k1c1) (by decide +kernel) rfl rfl rfl (by decide +kernel)
set_option maxRecDepth 65536 in
theorem w_c1 : (Jvm.Cond.code ({ cls := "java/lang/String", name := "valueOf", desc := "(C)Ljava/lang/String;" } : Jvm.MethodName) jdk_42_method_139_code (1 : Nat) (Option.some (Jvm.ClassFile.FieldType.object "java/lang/String"))).before args0 about1 = true := code_word (m := ⟨7, 1⟩) (meth := k7m1) (c := k7c1) (by decide +kernel) rfl rfl rfl (by decide +kernel)
set_option maxRecDepth 65536 in
theorem w_c2 : (Jvm.Cond.code ({ cls := "java/lang/StringLatin1", name := "canEncode", desc := "(C)Z" } : Jvm.MethodName) jdk_43_method_3_code (1 : Nat) (Option.some Jvm.ClassFile.FieldType.boolean)).before args0 about1 = true := code_word (m := ⟨8, 1⟩) (meth := k8m1) (c := k8c1) (by decide +kernel) rfl rfl rfl (by decide +kernel)
set_option maxRecDepth 65536 in
theorem w_c3 : (Jvm.Cond.code ({ cls := "java/lang/StringLatin1", name := "toBytes", desc := "(C)[B" } : Jvm.MethodName) jdk_43_method_46_code (1 : Nat) (Option.some (Jvm.ClassFile.FieldType.array Jvm.ClassFile.FieldType.byte))).before args0 about1 = true := code_word (m := ⟨8, 2⟩) (meth := k8m2) (c := k8c2) (by decide +kernel) rfl rfl rfl (by decide +kernel)
set_option maxRecDepth 65536 in
theorem w_c4 : (Jvm.Cond.code ({ cls := "java/lang/String", name := "<init>", desc := "([BB)V" } : Jvm.MethodName) jdk_42_method_151_code (3 : Nat) (Option.none : Option Jvm.ClassFile.FieldType)).before args0 about1 = true := code_word (m := ⟨7, 2⟩) (meth := k7m2) (c := k7c2) (by decide +kernel) rfl rfl rfl (by decide +kernel)
set_option maxRecDepth 65536 in
theorem w_c5 : (Jvm.Cond.code ({ cls := "java/lang/Object", name := "<init>", desc := "()V" } : Jvm.MethodName) object_method_1_code (1 : Nat) (Option.none : Option Jvm.ClassFile.FieldType)).before args0 about1 = true := code_word (m := ⟨0, 0⟩) (meth := k0m0) (c := k0c0) (by decide +kernel) rfl rfl rfl (by decide +kernel)
set_option maxRecDepth 65536 in
theorem w_c6 : (Jvm.Cond.code ({ cls := "com/example/murmuration/murmuration/Place", name := "<init>", desc := "(Ljava/lang/String;DDD)V" } : Jvm.MethodName) prog_10_method_1_code (8 : Nat) (Option.none : Option Jvm.ClassFile.FieldType)).before args0 about1 = true := code_word (m := ⟨10, 0⟩) (meth := k10m0) (c := k10c0) (by decide +kernel) rfl rfl rfl (by decide +kernel)
set_option maxRecDepth 65536 in
theorem w_c7 : (Jvm.Cond.code ({ cls := "java/util/List", name := "of", desc := "()Ljava/util/List;" } : Jvm.MethodName) jdk_40_method_36_code (0 : Nat) (Option.some (Jvm.ClassFile.FieldType.object "java/util/List"))).before args0 about1 = true := code_word (m := ⟨14, 0⟩) (meth := k14m0) (c := k14c0) (by decide +kernel) rfl rfl rfl (by decide +kernel)
set_option maxRecDepth 65536 in
theorem w_c8 : (Jvm.Cond.code ({ cls := "com/example/murmuration/murmuration/Place", name := "<init>", desc := "(Ljava/lang/String;DDDLjava/util/List;Ljava/util/List;D)V" } : Jvm.MethodName) prog_10_method_4_code (12 : Nat) (Option.none : Option Jvm.ClassFile.FieldType)).before args0 about1 = true := code_word (m := ⟨10, 1⟩) (meth := k10m1) (c := k10c1) (by decide +kernel) rfl rfl rfl (by decide +kernel)
set_option maxRecDepth 65536 in
theorem w_c9 : (Jvm.Cond.code ({ cls := "com/example/murmuration/murmuration/Site", name := "<init>", desc := "(Ljava/lang/String;DD)V" } : Jvm.MethodName) prog_15_method_1_code (6 : Nat) (Option.none : Option Jvm.ClassFile.FieldType)).before args0 about1 = true := code_word (m := ⟨9, 0⟩) (meth := k9m0) (c := k9c0) (by decide +kernel) rfl rfl rfl (by decide +kernel)
set_option maxRecDepth 65536 in
theorem w_c10 : (Jvm.Cond.code ({ cls := "java/util/List", name := "copyOf", desc := "(Ljava/util/Collection;)Ljava/util/List;" } : Jvm.MethodName) jdk_40_method_48_code (1 : Nat) (Option.some (Jvm.ClassFile.FieldType.object "java/util/List"))).before args0 about1 = true := code_word (m := ⟨14, 1⟩) (meth := k14m1) (c := k14c1) (by decide +kernel) rfl rfl rfl (by decide +kernel)
set_option maxRecDepth 65536 in
theorem w_c11 : (Jvm.Cond.code ({ cls := "java/util/ImmutableCollections", name := "listCopy", desc := "(Ljava/util/Collection;)Ljava/util/List;" } : Jvm.MethodName) jdk_56_method_3_code (2 : Nat) (Option.some (Jvm.ClassFile.FieldType.object "java/util/List"))).before args0 about1 = true := code_word (m := ⟨15, 1⟩) (meth := k15m1) (c := k15c1) (by decide +kernel) rfl rfl rfl (by decide +kernel)
set_option maxRecDepth 65536 in
theorem w_c12 : (Jvm.Cond.code ({ cls := "com/example/murmuration/murmuration/Place", name := "withTimes", desc := "(Lcom/example/murmuration/murmuration/Place$Window;D)Lcom/example/murmuration/murmuration/Place;" } : Jvm.MethodName) prog_10_method_6_code (4 : Nat) (Option.some (Jvm.ClassFile.FieldType.object "com/example/murmuration/murmuration/Place"))).before args0 about1 = true := code_word (m := ⟨10, 3⟩) (meth := k10m3) (c := k10c3) (by decide +kernel) rfl rfl rfl (by decide +kernel)
set_option maxRecDepth 65536 in
theorem w_c13 : (Jvm.Cond.code ({ cls := "com/example/murmuration/murmuration/Place", name := "<init>", desc := "(Lcom/example/murmuration/murmuration/Place;Lcom/example/murmuration/murmuration/Place$Window;D)V" } : Jvm.MethodName) prog_10_method_5_code (5 : Nat) (Option.none : Option Jvm.ClassFile.FieldType)).before args0 about1 = true := code_word (m := ⟨10, 2⟩) (meth := k10m2) (c := k10c2) (by decide +kernel) rfl rfl rfl (by decide +kernel)
set_option maxRecDepth 65536 in
theorem w_c14 : (Jvm.Cond.code ({ cls := "com/example/murmuration/murmuration/Site", name := "<init>", desc := "(Lcom/example/murmuration/murmuration/Site;)V" } : Jvm.MethodName) prog_15_method_2_code (2 : Nat) (Option.none : Option Jvm.ClassFile.FieldType)).before args0 about1 = true := code_word (m := ⟨9, 1⟩) (meth := k9m1) (c := k9c1) (by decide +kernel) rfl rfl rfl (by decide +kernel)
set_option maxRecDepth 65536 in
theorem w_c15 : (Jvm.Cond.code ({ cls := "com/example/murmuration/murmuration/Place", name := "getEarliestStart", desc := "()D" } : Jvm.MethodName) prog_10_method_15_code (1 : Nat) (Option.some Jvm.ClassFile.FieldType.double)).before args0 about1 = true := code_word (m := ⟨10, 4⟩) (meth := k10m4) (c := k10c4) (by decide +kernel) rfl rfl rfl (by decide +kernel)
set_option maxRecDepth 65536 in
theorem w_c16 : (Jvm.Cond.code ({ cls := "com/example/murmuration/murmuration/Place$Window", name := "<init>", desc := "(DD)V" } : Jvm.MethodName) prog_11_method_1_code (5 : Nat) (Option.none : Option Jvm.ClassFile.FieldType)).before args0 about1 = true := code_word (m := ⟨22, 0⟩) (meth := k22m0) (c := k22c0) (by decide +kernel) rfl rfl rfl (by decide +kernel)
def codes1 : List Jvm.Cond := [Jvm.Cond.code x code maxLocals ret, Jvm.Cond.code ({ cls := "java/lang/String", name := "valueOf", desc := "(C)Ljava/lang/String;" } : Jvm.MethodName) jdk_42_method_139_code (1 : Nat) (Option.some (Jvm.ClassFile.FieldType.object "java/lang/String")), Jvm.Cond.code ({ cls := "java/lang/StringLatin1", name := "canEncode", desc := "(C)Z" } : Jvm.MethodName) jdk_43_method_3_code (1 : Nat) (Option.some Jvm.ClassFile.FieldType.boolean), Jvm.Cond.code ({ cls := "java/lang/StringLatin1", name := "toBytes", desc := "(C)[B" } : Jvm.MethodName) jdk_43_method_46_code (1 : Nat) (Option.some (Jvm.ClassFile.FieldType.array Jvm.ClassFile.FieldType.byte)), Jvm.Cond.code ({ cls := "java/lang/String", name := "<init>", desc := "([BB)V" } : Jvm.MethodName) jdk_42_method_151_code (3 : Nat) (Option.none : Option Jvm.ClassFile.FieldType), Jvm.Cond.code ({ cls := "java/lang/Object", name := "<init>", desc := "()V" } : Jvm.MethodName) object_method_1_code (1 : Nat) (Option.none : Option Jvm.ClassFile.FieldType), Jvm.Cond.code ({ cls := "com/example/murmuration/murmuration/Place", name := "<init>", desc := "(Ljava/lang/String;DDD)V" } : Jvm.MethodName) prog_10_method_1_code (8 : Nat) (Option.none : Option Jvm.ClassFile.FieldType), Jvm.Cond.code ({ cls := "java/util/List", name := "of", desc := "()Ljava/util/List;" } : Jvm.MethodName) jdk_40_method_36_code (0 : Nat) (Option.some (Jvm.ClassFile.FieldType.object "java/util/List")), Jvm.Cond.code ({ cls := "com/example/murmuration/murmuration/Place", name := "<init>", desc := "(Ljava/lang/String;DDDLjava/util/List;Ljava/util/List;D)V" } : Jvm.MethodName) prog_10_method_4_code (12 : Nat) (Option.none : Option Jvm.ClassFile.FieldType), Jvm.Cond.code ({ cls := "com/example/murmuration/murmuration/Site", name := "<init>", desc := "(Ljava/lang/String;DD)V" } : Jvm.MethodName) prog_15_method_1_code (6 : Nat) (Option.none : Option Jvm.ClassFile.FieldType), Jvm.Cond.code ({ cls := "java/util/List", name := "copyOf", desc := "(Ljava/util/Collection;)Ljava/util/List;" } : Jvm.MethodName) jdk_40_method_48_code (1 : Nat) (Option.some (Jvm.ClassFile.FieldType.object "java/util/List")), Jvm.Cond.code ({ cls := "java/util/ImmutableCollections", name := "listCopy", desc := "(Ljava/util/Collection;)Ljava/util/List;" } : Jvm.MethodName) jdk_56_method_3_code (2 : Nat) (Option.some (Jvm.ClassFile.FieldType.object "java/util/List")), Jvm.Cond.code ({ cls := "com/example/murmuration/murmuration/Place", name := "withTimes", desc := "(Lcom/example/murmuration/murmuration/Place$Window;D)Lcom/example/murmuration/murmuration/Place;" } : Jvm.MethodName) prog_10_method_6_code (4 : Nat) (Option.some (Jvm.ClassFile.FieldType.object "com/example/murmuration/murmuration/Place")), Jvm.Cond.code ({ cls := "com/example/murmuration/murmuration/Place", name := "<init>", desc := "(Lcom/example/murmuration/murmuration/Place;Lcom/example/murmuration/murmuration/Place$Window;D)V" } : Jvm.MethodName) prog_10_method_5_code (5 : Nat) (Option.none : Option Jvm.ClassFile.FieldType), Jvm.Cond.code ({ cls := "com/example/murmuration/murmuration/Site", name := "<init>", desc := "(Lcom/example/murmuration/murmuration/Site;)V" } : Jvm.MethodName) prog_15_method_2_code (2 : Nat) (Option.none : Option Jvm.ClassFile.FieldType), Jvm.Cond.code ({ cls := "com/example/murmuration/murmuration/Place", name := "getEarliestStart", desc := "()D" } : Jvm.MethodName) prog_10_method_15_code (1 : Nat) (Option.some Jvm.ClassFile.FieldType.double), Jvm.Cond.code ({ cls := "com/example/murmuration/murmuration/Place$Window", name := "<init>", desc := "(DD)V" } : Jvm.MethodName) prog_11_method_1_code (5 : Nat) (Option.none : Option Jvm.ClassFile.FieldType)]
set_option maxRecDepth 65536 in
theorem codes_eq : words1.filter isCode = codes1 := rfl
theorem w_codes : ∀ c ∈ words1.filter isCode, c.before args0 about1 = true := by
  rw [codes_eq]
  intro c hc
  simp only [codes1, List.mem_cons, List.not_mem_nil, or_false] at hc
  rcases hc with rfl | rfl | rfl | rfl | rfl | rfl | rfl | rfl | rfl | rfl | rfl | rfl | rfl | rfl | rfl | rfl | rfl
  · exact w_c0
  · exact w_c1
  · exact w_c2
  · exact w_c3
  · exact w_c4
  · exact w_c5
  · exact w_c6
  · exact w_c7
  · exact w_c8
  · exact w_c9
  · exact w_c10
  · exact w_c11
  · exact w_c12
  · exact w_c13
  · exact w_c14
  · exact w_c15
  · exact w_c16
set_option maxRecDepth 65536 in
theorem w_t1 : (words1.take 24).all (fun c => isCode c || c.before args0 about1) = true := by decide +kernel
set_option maxRecDepth 65536 in
theorem w_t2 : ((words1.drop 24).take 24).all (fun c => isCode c || c.before args0 about1) = true := by decide +kernel
set_option maxRecDepth 65536 in
theorem w_t3 : (((words1.drop 24).drop 24).take 24).all (fun c => isCode c || c.before args0 about1) = true := by decide +kernel
set_option maxRecDepth 65536 in
theorem w_t4 : ((((words1.drop 24).drop 24).drop 24).take 24).all (fun c => isCode c || c.before args0 about1) = true := by decide +kernel
set_option maxRecDepth 65536 in
theorem w_t5 : ((((words1.drop 24).drop 24).drop 24).drop 24).all (fun c => isCode c || c.before args0 about1) = true := by decide +kernel
theorem w_tables : (allAtoms (Jvm.Cond.code x code maxLocals ret :: tables_1)).before args0 about1 = true := by
  rw [allAtoms_all]
  show words1.all (fun c => c.before args0 about1) = true
  refine all_split ?_ w_codes
  rw [← List.take_append_drop 24 words1, List.all_append, w_t1, ← List.take_append_drop 24 (words1.drop 24), List.all_append, w_t2, ← List.take_append_drop 24 ((words1.drop 24).drop 24), List.all_append, w_t3, ← List.take_append_drop 24 (((words1.drop 24).drop 24).drop 24), List.all_append, w_t4, w_t5]
  rfl
set_option maxRecDepth 65536 in
theorem w_rest : rest_1_c.before args0 about1 = true := by decide +kernel
set_option maxRecDepth 65536 in
theorem w_case : (Jvm.Cond.and given_1 narrow_1).before args0 about1 = true := by decide +kernel
theorem w_applies : (headSpec (Jvm.Cond.code x code maxLocals ret :: tables_1) room_1).applies x e0.platform about1 = true :=
  (Spec.applies_iff w_frames).mpr ⟨w_running, w_runnable, w_alone, w_named, w_hears, w_ripe, w_room, w_tables⟩
theorem atStart : AtStart classFile x code maxLocals ret World_1 tables_1 room_1 Calls_1 rest_1 Pre_1 launch0 p0 e0 about1 theMethod args0 below0 :=
  ⟨lists_1, trivial, launch0.admits_env _ _ _, launch0.least_env, fairChoices_fair.cas, fairChoices_fair.clock, w_frames, w_args, w_heap, w_applies, trivial, w_rest, w_case⟩
end start1
theorem witness_1 : WitnessClaimed_1 := ⟨start1.p0, start1.e0, start1.about1, start1.theMethod, start1.args0, start1.below0, start1.atStart⟩
end Jvm.Pilot.@@N@@
