import JvmDerived
import JvmDerived.Pilot.@@N@@Statement
import JvmDerived.Pilot.@@N@@Code
set_option linter.unusedVariables false
set_option linter.unusedSimpArgs false
@@BLOCK:HandJ.lean.txt@@
@@BLOCK:NumsL.lean.txt@@
@@BLOCK:SymMore.lean.txt@@
namespace Jvm.Pilot.@@N@@
open Jvm Jvm.ClassFile Sem Op Lib Jvm.Free Jvm.Stand Jvm.LawKit Jvm.RoadKit Bundle Jvm.Pilot.@@N@@.Jvm.D
/-! ## own_..: a layer of continuations over the library's laws: a walk that may branch -/
/-- from T with the frame g on top the run comes to an end of which P holds -/
def own_Fin (p : Program) (e : Env) (below : List Frame) (P : Outcome → State → Prop) (T : State) (g : JFrame) : Prop :=
  ∃ s₂ o, Steps p.tables e below (T.setTop g) s₂ ∧ s₂.status = .running ∧ Ended s₂ below o ∧ P o s₂
/-- what is known of the method that is walked -/
def own_Ctx (p : Program) (Z s : State) (m : MethodId) (meth : Method) (c : Code) (cls : String) (bytes : ByteArray) (maxL : Nat) (ret : Option FieldType) (nm : String) : Prop :=
  p.tables.exec = Jvm.exec ∧ Z.Warmed39 s.vm ∧ c.code = bytes ∧ c.maxLocals = maxL ∧ s.vm.findClass cls = some m.cls ∧ meth.sig.returnType = ret ∧ meth.locks = false ∧ meth.name = nm
/-- the walk's end: it returns v, Q says what it leaves -/
def own_P (s : State) (rm : Room) (Q : Option Value → Heap → List Loc → Prop) : Outcome → State → Prop :=
  fun o t => ∃ v L, o = .returned v ∧ Q v t.heap L ∧ FrameEnd s o t L rm.cells rm.slots
/-- a method's contract at one heap and one list of arguments -/
def own_Met (l : Launch) (Z : State) (y : MethodName) (bytes : ByteArray) (maxL : Nat) (ret : Option FieldType) (rm : Room) (as' : Array Value) (h : Heap) (Q : Option Value → Heap → List Loc → Prop) : Prop :=
  ∀ ws, MetFree l y (head1 (Jvm.Cond.code y bytes maxL ret :: ws) rm) (fun a U => a = as' ∧ Z.Warmed39 U.vm ∧ U.heap = h) (fun _ _ _ _ _ => True) (fun _ U o U' => ∃ v L, o = .returned v ∧ Q v U'.heap L ∧ FrameEnd U o U' L rm.cells rm.slots)
theorem own_enter {l : Launch} {Z : State} {y : MethodName} {bytes : ByteArray} {maxL : Nat} {ret : Option FieldType} {rm : Room} {as' : Array Value} {h : Heap} {Q : Option Value → Heap → List Loc → Prop} {Ls : Array Slot}
    (hpl : plainFor y = true) (hef : ∀ m, entryFrame m as' maxL = mkF m 0 Ls [])
    (body : ∀ (p : Program) (e : Env) (s : State) (m : MethodId) (below : List Frame) (meth : Method) (c : Code) (T : State), own_Ctx p Z s m meth c y.cls bytes maxL ret y.name → Stand p l e rm s m as' below meth c T [] 0 0 → T.heap = h → own_Fin p e below (own_P s rm Q) T (mkF m 0 Ls [])) :
    own_Met l Z y bytes maxL ret rm as' h Q := by
  intro ws
  refine MetFree.of_bodySF hpl hisR ?_
  intro p e s m args below meth c s₁ Bd hml0 hP hK
  obtain ⟨rfl, hZ, hh⟩ := hP
  have q := body p e s m below meth c s₁ ⟨Bd.exec, hZ, Bd.bytes, hml0, findClass_of_methodNamed Bd.named, Bd.returns, BodyLoose.notSynchronized Bd, (name_of_methodNamed Bd.named Bd.method).1⟩ (Stand.of_body Bd) (by rw [← hh, Bd.state]; rfl)
  rw [← hef m] at q
  exact q
/-- what a method leaves that writes nothing: the value, and the heap as it was -/
def own_QI (r : Int32) (h0 : Heap) (n0 : Nat) (v : Option Value) (h : Heap) (L : List Loc) : Prop := v = some (.int r) ∧ Fr n0 L ∧ h = h0
def own_QJ (r : Int64) (h0 : Heap) (n0 : Nat) (v : Option Value) (h : Heap) (L : List Loc) : Prop := v = some (.long r) ∧ Fr n0 L ∧ h = h0
def own_QR (r : Value) (h0 : Heap) (n0 : Nat) (v : Option Value) (h : Heap) (L : List Loc) : Prop := v = some r ∧ Fr n0 L ∧ h = h0
def own_QV (h0 : Heap) (n0 : Nat) (v : Option Value) (h : Heap) (L : List Loc) : Prop := v = none ∧ Fr n0 L ∧ h = h0
/-- what a law leaves: true -/
def own_Q1 (n0 : Nat) (v : Option Value) (h : Heap) (L : List Loc) : Prop := v = some (.int 1) ∧ Fr n0 L
theorem own_lrem_eq (x y : Int64) : x - (x / y) * y = x % y := Int64.toInt_inj.mp ((Jvm.Kit.i64_rem x y).trans (Int64.toInt_mod x y).symm)
theorem own_lrem {tb : Tables} [Ours tb] {e : Env} {below : List Frame} {T target : State} {m : MethodId} {c : Code} {g : JFrame} (h : At T m c below) (hx : tb.exec = Jvm.exec) (hg : g.method = m) {x y : Int64} {rest : List Value} (hd : decode c.code g.pc = .ok (.lrem, 1)) (hs : g.stack = .long y :: .long x :: rest) (hy : y ≠ 0)
    (hr : Steps tb e below (T.setTop { g with pc := g.pc + 1, stack := .long (x % y) :: rest }) target) : Steps tb e below (T.setTop g) target :=
  XS.lrem h hx hg hd hs hy (by rw [own_lrem_eq]; exact hr)
section Own
variable {p : Program} {l : Launch} {e : Env} {R : Room} {s : State} {m : MethodId} {args : Array Value} {below : List Frame} {meth : Method} {c : Code} {T : State} {locs : List Loc} {cells slots : Nat} {Z : State} {a0 : Array Value} {h : Heap}
  {P : Outcome → State → Prop} {cls : String} {bytes : ByteArray} {maxL : Nat} {ret : Option FieldType} {nm : String} {Q : Option Value → Heap → List Loc → Prop}
theorem own_seg {T' : State} {g g' : JFrame} (st : ∀ t, Steps p.tables e below (T'.setTop g') t → Steps p.tables e below (T.setTop g) t) (k : own_Fin p e below P T' g') : own_Fin p e below P T g := by
  obtain ⟨s₂, o, h1, h2⟩ := k
  exact ⟨s₂, o, st _ h1, h2⟩
theorem own_mono (X : Stand p l e R s m args below meth c T locs cells slots) {cells' slots' : Nat} (h1 : cells ≤ cells') (h2 : slots ≤ slots') : Stand p l e R s m args below meth c T locs cells' slots' :=
  ⟨X.admits, X.cas, X.clock, X.frames, X.room, X.hears, X.method, X.code, X.here, X.tail, X.warmed, X.limits, X.bytes, X.same.mono h1 h2⟩
/-- the end of a walk -/
theorem own_out (K : own_Ctx p Z s m meth c cls bytes maxL ret nm) (X : Stand p l e R s m args below meth c T locs cells slots) {v : Option Value} (hv : ret = none → v = none) {g : JFrame}
    (st : ∀ fs, (∀ (f : JFrame) (acts : List Action), f.method = m → f.locked = none → f.entered = [] → (doReturn e (T.setTop f) acts v).1 = T.setFrames fs) → Steps p.tables e below (T.setTop g) (T.setFrames fs))
    (hQ : Q v T.heap locs) (hc : cells ≤ R.cells) (hs : slots ≤ R.slots) : own_Fin p e below (own_P s R Q) T g := by
  obtain ⟨hx, hZ, hby, hml, hown, hret, hlk, hnm⟩ := K
  obtain ⟨fs, hr, hrun, hended, hW, hsame⟩ := X.leave (v := v) (fun q => hv (hret ▸ q)) hlk
  exact ⟨_, _, st fs hr, hrun, hended, _, _, rfl, hQ, ⟨_, rfl⟩, hW, hsame.mono hc hs⟩
theorem own_retV (K : own_Ctx p Z s m meth c cls bytes maxL none nm) (X : Stand p l e R s m args below meth c T locs cells slots) {pc : Nat} {Ls : Array Slot} (hd : decode bytes pc = .ok (.return_, 1))
    (hQ : Q none T.heap locs) (hc : cells ≤ R.cells) (hs : slots ≤ R.slots) : own_Fin p e below (own_P s R Q) T (mkF m pc Ls []) :=
  own_out K X (fun _ => rfl) (fun fs hr => X.returnOut K.1 K.2.2.2.2.2.1 (hb K.2.2.1 hd) hr) hQ hc hs
theorem own_retO {t : FieldType} (K : own_Ctx p Z s m meth c cls bytes maxL (some t) nm) (X : Stand p l e R s m args below meth c T locs cells slots) {pc : Nat} {Ls : Array Slot} {w : Value} {i : Instr} {rest : List Value} (hn : narrow t w = w)
    (hi : (i = .ireturn ∧ (t = .int ∨ t = .boolean ∨ t = .byte ∨ t = .char ∨ t = .short) ∧ ∃ z, w = .int z) ∨ (i = .lreturn ∧ t = .long ∧ ∃ z, w = .long z) ∨ (i = .dreturn ∧ t = .double ∧ ∃ z, w = .double z) ∨ (i = .freturn ∧ t = .float ∧ ∃ z, w = .float z) ∨ (i = .areturn ∧ t.isReference = true ∧ w.isRef = true))
    (hd : decode bytes pc = .ok (i, 1)) (hQ : Q (some w) T.heap locs) (hc : cells ≤ R.cells) (hs : slots ≤ R.slots) : own_Fin p e below (own_P s R Q) T (mkF m pc Ls (w :: rest)) :=
  own_out K X (fun q => nomatch q) (fun fs hr => retOut X K.1 K.2.2.2.2.2.1 hn hi (hb K.2.2.1 hd) hr) hQ hc hs
theorem own_retI (K : own_Ctx p Z s m meth c cls bytes maxL (some .int) nm) (X : Stand p l e R s m args below meth c T locs cells slots) {pc : Nat} {Ls : Array Slot} {z : Int32} {rest : List Value}
    (hd : decode bytes pc = .ok (.ireturn, 1)) (hQ : Q (some (.int z)) T.heap locs) (hc : cells ≤ R.cells) (hs : slots ≤ R.slots) : own_Fin p e below (own_P s R Q) T (mkF m pc Ls (.int z :: rest)) :=
  own_retO K X rfl (Or.inl ⟨rfl, Or.inl rfl, z, rfl⟩) hd hQ hc hs
theorem own_retJ (K : own_Ctx p Z s m meth c cls bytes maxL (some .long) nm) (X : Stand p l e R s m args below meth c T locs cells slots) {pc : Nat} {Ls : Array Slot} {z : Int64} {rest : List Value}
    (hd : decode bytes pc = .ok (.lreturn, 1)) (hQ : Q (some (.long z)) T.heap locs) (hc : cells ≤ R.cells) (hs : slots ≤ R.slots) : own_Fin p e below (own_P s R Q) T (mkF m pc Ls (.long z :: rest)) :=
  own_retO K X rfl (Or.inr (Or.inl ⟨rfl, rfl, z, rfl⟩)) hd hQ hc hs
theorem own_retA {t : FieldType} (K : own_Ctx p Z s m meth c cls bytes maxL (some t) nm) (ht : t.isReference = true) (X : Stand p l e R s m args below meth c T locs cells slots) {pc : Nat} {Ls : Array Slot} {w : Value} {rest : List Value} (hw : w.isRef = true)
    (hd : decode bytes pc = .ok (.areturn, 1)) (hQ : Q (some w) T.heap locs) (hc : cells ≤ R.cells) (hs : slots ≤ R.slots) : own_Fin p e below (own_P s R Q) T (mkF m pc Ls (w :: rest)) :=
  own_retO K X (by cases t <;> first | rfl | (cases ht; done) | (rcases ref_cases hw with rfl | ⟨a, rfl⟩ <;> rfl)) (Or.inr (Or.inr (Or.inr (Or.inr ⟨rfl, ht, hw⟩)))) hd hQ hc hs
theorem own_retN {t : FieldType} (K : own_Ctx p Z s m meth c cls bytes maxL (some t) nm) (ht : t = .boolean ∨ t = .byte ∨ t = .char ∨ t = .short) (X : Stand p l e R s m args below meth c T locs cells slots) {pc : Nat} {Ls : Array Slot} {z : Int32} {rest : List Value}
    (hd : decode bytes pc = .ok (.ireturn, 1)) (hQ : Q (some (.int (nar t z))) T.heap locs) (hc : cells ≤ R.cells) (hs : slots ≤ R.slots) : own_Fin p e below (own_P s R Q) T (mkF m pc Ls (.int z :: rest)) :=
  own_out K X (fun q => nomatch q) (fun fs hr => retN X K.1 K.2.2.2.2.2.1 ht (hb K.2.2.1 hd) hr) hQ hc hs
/-! calls -/
theorem own_callS (K : own_Ctx p Z s m meth c cls bytes maxL ret nm) (X : Stand p l e R s m args below meth c T locs cells slots) (eT : T.heap = h) {y : MethodName} {yb : ByteArray} {yl : Nat} {yr : Option FieldType} {rm : Room} {as' : Array Value} {Q' : Option Value → Heap → List Loc → Prop}
    (M : own_Met l Z y yb yl yr rm as' h Q') {index : Nat} (w1 : (Jvm.Cond.methodLink cls index y).before a0 Z = true) (w2 : (Jvm.Cond.static y).before a0 Z = true) (w3 : (Jvm.Cond.initialized y.cls).before a0 Z = true) (w4 : (Jvm.Cond.code y yb yl yr).before a0 Z = true)
    (hy : y.cls ≠ "java/lang/invoke/MethodHandle" ∧ y.cls ≠ "java/lang/invoke/VarHandle") (argsL rest : List Value) {ps : List FieldType} {r : Option FieldType} (hpd : parseMethodDescriptor y.desc = some ⟨ps, r⟩) (hlen : argsL.length = ps.length) {pc : Nat} {Ls : Array Slot} {stk : List Value}
    (hstk : stk = argsL.reverse ++ rest) (has : argsL.toArray = as') (hsize : Ls.size = maxL) (hd : decode bytes pc = .ok (.invokestatic index, 3)) (hf : rm.frames + 1 ≤ R.frames) (hl : (rest.map fun v => v.category).sum + (yl + 11) + rm.locals ≤ R.locals) (hc : cells + rm.cells ≤ R.cells) (hs : slots + rm.slots ≤ R.slots)
    (k : ∀ (T' : State) (L : List Loc) (v : Option Value), Stand p l e R s m args below meth c T' (locs ++ L) (cells + rm.cells) (slots + rm.slots) → Q' v T'.heap L → own_Fin p e below P T' (mkF m (pc + 3) Ls (v.toList ++ rest))) :
    own_Fin p e below P T (mkF m pc Ls stk) := by
  obtain ⟨hx, hZ, hby, hml, hown, hret, hlk, hnm⟩ := K
  obtain ⟨v, _, ⟨T', L', k', n'⟩, -, X', ⟨L, hQ, l1, l2, l3⟩, st⟩ := Jvm.LawKit.callS X hx (y := y) hown (mvT hZ w1) (mvT hZ w2) (mvT hZ w3) (mvT hZ w4) hy (backOf (W := (rest.map fun v => v.category).sum) (M []) hZ w4 w3 hf hl) (g := mkF m pc Ls stk) rfl (hsize.trans hml.symm) (argsL := argsL) (rest := rest) (lenOf hpd hlen) hstk (by show 2 * 0 + _ ≤ _; omega) (hb hby hd) (fun _ _ => ⟨has, eT, hc, hs⟩)
  dsimp only [Pt.U, Pt.locs, Pt.cells, Pt.slots] at X' l1 l2 l3 st hQ
  subst l1 l2 l3
  exact own_seg st (k T' L v X' hQ)
theorem own_callI (K : own_Ctx p Z s m meth c cls bytes maxL ret nm) (X : Stand p l e R s m args below meth c T locs cells slots) (eT : T.heap = h) {y : MethodName} {yb : ByteArray} {yl : Nat} {rm : Room} {as' : Array Value} {Q' : Option Value → Heap → List Loc → Prop}
    (M : own_Met l Z y yb yl none rm as' h Q') (hy1 : y.name = "<init>") {index : Nat} (w1 : (Jvm.Cond.methodLink cls index y).before a0 Z = true) (w2 : (Jvm.Cond.instanceMethod y).before a0 Z = true) (w3 : (Jvm.Cond.initialized y.cls).before a0 Z = true) (w4 : (Jvm.Cond.code y yb yl none).before a0 Z = true)
    (hy : y.cls ≠ "java/lang/invoke/MethodHandle" ∧ y.cls ≠ "java/lang/invoke/VarHandle") (a : Addr) (argsL rest : List Value) {ps : List FieldType} {r : Option FieldType} (hpd : parseMethodDescriptor y.desc = some ⟨ps, r⟩) (hlen : argsL.length = ps.length) {pc : Nat} {Ls : Array Slot} {stk : List Value}
    (hstk : stk = argsL.reverse ++ .ref a :: rest) (has : (.ref a :: argsL).toArray = as') (hsize : Ls.size = maxL) (hd : decode bytes pc = .ok (.invokespecial index, 3)) (hf : rm.frames + 1 ≤ R.frames) (hl : (rest.map fun v => v.category).sum + (yl + 11) + rm.locals ≤ R.locals) (hc : cells + rm.cells ≤ R.cells) (hs : slots + rm.slots ≤ R.slots)
    (k : ∀ (T' : State) (L : List Loc) (v : Option Value), Stand p l e R s m args below meth c T' (locs ++ L) (cells + rm.cells) (slots + rm.slots) → Q' v T'.heap L → own_Fin p e below P T' (mkF m (pc + 3) Ls (v.toList ++ rest))) :
    own_Fin p e below P T (mkF m pc Ls stk) := by
  obtain ⟨hx, hZ, hby, hml, hown, hret, hlk, hnm⟩ := K
  obtain ⟨v, _, ⟨T', L', k', n'⟩, -, X', ⟨L, hQ, l1, l2, l3⟩, st⟩ := X.specialBack hx (y := y) hy1 hown (mvT hZ w1) (mvT hZ w2) (mvT hZ w4) hy (backOf (W := (rest.map fun v => v.category).sum) (M []) hZ w4 w3 hf hl) (g := mkF m pc Ls stk) rfl (hsize.trans hml.symm) (Steps.refl _) (a := a) (argsL := argsL) (rest := rest) (lenOf hpd hlen) hstk (by show 2 * 0 + _ ≤ _; omega) (hb hby hd) (fun _ _ => ⟨has, eT, hc, hs⟩)
  dsimp only [Pt.U, Pt.locs, Pt.cells, Pt.slots] at X' l1 l2 l3 st hQ
  subst l1 l2 l3
  exact own_seg (fun t q => st.trans q) (k T' L v X' hQ)
theorem own_callV (K : own_Ctx p Z s m meth c cls bytes maxL ret nm) (X : Stand p l e R s m args below meth c T locs cells slots) (eT : T.heap = h) {y z : MethodName} {yb : ByteArray} {yl : Nat} {yr : Option FieldType} {rm : Room} {as' : Array Value} {Q' : Option Value → Heap → List Loc → Prop}
    (M : own_Met l Z z yb yl yr rm as' h Q') {index : Nat} {C : String} (w1 : (Jvm.Cond.methodLink cls index y).before a0 Z = true) (w2 : (Jvm.Cond.declares y).before a0 Z = true) (nf : ∀ args, (Jvm.Cond.selects C y z).before args s = true → NotFace s y) (w5 : (Jvm.Cond.selects C y z).before a0 Z = true) (w6 : (Jvm.Cond.instanceMethod z).before a0 Z = true) (w3 : (Jvm.Cond.initialized z.cls).before a0 Z = true) (w4 : (Jvm.Cond.code z yb yl yr).before a0 Z = true)
    (hy : y.cls ≠ "java/lang/invoke/MethodHandle" ∧ y.cls ≠ "java/lang/invoke/VarHandle") (a : Addr) (E : Exa Z h a C) (argsL rest : List Value) {ps : List FieldType} {r : Option FieldType} (hpd : parseMethodDescriptor y.desc = some ⟨ps, r⟩) (hlen : argsL.length = ps.length) {pc : Nat} {Ls : Array Slot} {stk : List Value}
    (hstk : stk = argsL.reverse ++ .ref a :: rest) (has : (.ref a :: argsL).toArray = as') (hsize : Ls.size = maxL) (hd : decode bytes pc = .ok (.invokevirtual index, 3)) (hf : rm.frames + 1 ≤ R.frames) (hl : (rest.map fun v => v.category).sum + (yl + 11) + rm.locals ≤ R.locals) (hc : cells + rm.cells ≤ R.cells) (hs : slots + rm.slots ≤ R.slots)
    (k : ∀ (T' : State) (L : List Loc) (v : Option Value), Stand p l e R s m args below meth c T' (locs ++ L) (cells + rm.cells) (slots + rm.slots) → Q' v T'.heap L → own_Fin p e below P T' (mkF m (pc + 3) Ls (v.toList ++ rest))) :
    own_Fin p e below P T (mkF m pc Ls stk) := by
  obtain ⟨hx, hZ, hby, hml, hown, hret, hlk, hnm⟩ := K
  obtain ⟨cq, kq, qa, qb, qc⟩ := isOf hZ eT E
  obtain ⟨v, _, ⟨T', L', k', n'⟩, -, X', ⟨L, hQ, l1, l2, l3⟩, st⟩ := X.virtualBack hx (y := y) (z := z) hown (mvT hZ w1) (mvT hZ w2) (nf #[] (mvT hZ w5)) (mvT hZ w5) (mvT hZ w6) hy (backOf (W := (rest.map fun v => v.category).sum) (M []) hZ w4 w3 hf hl) qa qc (g := mkF m pc Ls stk) rfl (hsize.trans hml.symm) (Steps.refl _) (argsL := argsL) (rest := rest) (lenOf hpd hlen) hstk (by show 2 * 0 + _ ≤ _; omega) (hb hby hd) (fun _ _ => ⟨has, eT, hc, hs⟩)
  dsimp only [Pt.U, Pt.locs, Pt.cells, Pt.slots] at X' l1 l2 l3 st hQ
  subst l1 l2 l3
  exact own_seg (fun t q => st.trans q) (k T' L v X' hQ)
theorem own_callP (K : own_Ctx p Z s m meth c cls bytes maxL ret nm) (X : Stand p l e R s m args below meth c T locs cells slots) (eT : T.heap = h) {y : MethodName} {yb : ByteArray} {yl : Nat} {yr : Option FieldType} {rm : Room} {as' : Array Value} {Q' : Option Value → Heap → List Loc → Prop}
    (M : own_Met l Z y yb yl yr rm as' h Q') {index kk : Nat} (w1 : (Jvm.Cond.methodLink cls index y).before a0 Z = true) (w2 : (Jvm.Cond.instanceMethod y).before a0 Z = true) (w7 : (Jvm.Cond.instantiable y.cls kk).before a0 Z = true) (w6 : (Jvm.Cond.privateMethod y).before a0 Z = true) (w3 : (Jvm.Cond.initialized y.cls).before a0 Z = true) (w4 : (Jvm.Cond.code y yb yl yr).before a0 Z = true)
    (hy : y.cls ≠ "java/lang/invoke/MethodHandle" ∧ y.cls ≠ "java/lang/invoke/VarHandle") (a : Addr) (E : Exa Z h a y.cls) (argsL rest : List Value) {ps : List FieldType} {r : Option FieldType} (hpd : parseMethodDescriptor y.desc = some ⟨ps, r⟩) (hlen : argsL.length = ps.length) {pc : Nat} {Ls : Array Slot} {stk : List Value}
    (hstk : stk = argsL.reverse ++ .ref a :: rest) (has : (.ref a :: argsL).toArray = as') (hsize : Ls.size = maxL) (hd : decode bytes pc = .ok (.invokevirtual index, 3)) (hf : rm.frames + 1 ≤ R.frames) (hl : (rest.map fun v => v.category).sum + (yl + 11) + rm.locals ≤ R.locals) (hc : cells + rm.cells ≤ R.cells) (hs : slots + rm.slots ≤ R.slots)
    (k : ∀ (T' : State) (L : List Loc) (v : Option Value), Stand p l e R s m args below meth c T' (locs ++ L) (cells + rm.cells) (slots + rm.slots) → Q' v T'.heap L → own_Fin p e below P T' (mkF m (pc + 3) Ls (v.toList ++ rest))) :
    own_Fin p e below P T (mkF m pc Ls stk) := by
  obtain ⟨hx, hZ, hby, hml, hown, hret, hlk, hnm⟩ := K
  obtain ⟨cq, q1, q2⟩ := E.cell
  obtain ⟨v, _, ⟨T', L', k', n'⟩, -, X', ⟨L, hQ, l1, l2, l3⟩, st⟩ := X.privateBack hx (y := y) hown (mvT hZ w1) (mvT hZ w2) (Jvm.Kit.selects_private hy (mvT hZ w7) (mvP hZ w6) (mvT hZ w2)) (Cond.privateMethod_at (mvP hZ w6 (args := #[]))) (mvT hZ w4) hy (backOf (W := (rest.map fun v => v.category).sum) (M []) hZ w4 w3 hf hl) (g := mkF m pc Ls stk) rfl (hsize.trans hml.symm) (Steps.refl _) (a := a) (by rw [eT]; exact q1) q2 (argsL := argsL) (rest := rest) (lenOf hpd hlen) hstk (by show 2 * 0 + _ ≤ _; omega) (hb hby hd) (fun _ _ => ⟨has, eT, hc, hs⟩)
  dsimp only [Pt.U, Pt.locs, Pt.cells, Pt.slots] at X' l1 l2 l3 st hQ
  subst l1 l2 l3
  exact own_seg (fun t q => st.trans q) (k T' L v X' hQ)
theorem own_callF (K : own_Ctx p Z s m meth c cls bytes maxL ret nm) (X : Stand p l e R s m args below meth c T locs cells slots) (eT : T.heap = h) {xi y : MethodName} {yb : ByteArray} {yl : Nat} {yr : Option FieldType} {rm : Room} {as' : Array Value} {Q' : Option Value → Heap → List Loc → Prop}
    (M : own_Met l Z y yb yl yr rm as' h Q') {index count : Nat} {C : String} (w1 : (Jvm.Cond.methodLink cls index xi).before a0 Z = true) (w2 : (Jvm.Cond.declares xi).before a0 Z = true) (w8 : (Jvm.Cond.interfaceMethod xi.cls xi.cls xi.name xi.desc).before a0 Z = true) (w8f : ((Jvm.Cond.interfaceMethod xi.cls xi.cls xi.name xi.desc).onTables && (Jvm.Cond.interfaceMethod xi.cls xi.cls xi.name xi.desc).keepsFace) = true) (w5 : (Jvm.Cond.selects C xi y).before a0 Z = true) (w6 : (Jvm.Cond.instanceMethod y).before a0 Z = true) (w9 : (Jvm.Cond.publicMethod y).before a0 Z = true) (w10 : (Jvm.Cond.unhidden C xi.name xi.desc).before a0 Z = true) (w11 : (Jvm.Cond.castable C xi.cls).before a0 Z = true) (w3 : (Jvm.Cond.initialized y.cls).before a0 Z = true) (w4 : (Jvm.Cond.code y yb yl yr).before a0 Z = true)
    (hy : xi.cls ≠ "java/lang/invoke/MethodHandle" ∧ xi.cls ≠ "java/lang/invoke/VarHandle") (a : Addr) (E : Exa Z h a C) (argsL rest : List Value) {ps : List FieldType} {r : Option FieldType} (hpd : parseMethodDescriptor xi.desc = some ⟨ps, r⟩) (hlen : argsL.length = ps.length) {pc : Nat} {Ls : Array Slot} {stk : List Value}
    (hstk : stk = argsL.reverse ++ .ref a :: rest) (has : (.ref a :: argsL).toArray = as') (hsize : Ls.size = maxL) (hd : decode bytes pc = .ok (.invokeinterface index count, 5)) (hf : rm.frames + 1 ≤ R.frames) (hl : (rest.map fun v => v.category).sum + (yl + 11) + rm.locals ≤ R.locals) (hc : cells + rm.cells ≤ R.cells) (hs : slots + rm.slots ≤ R.slots)
    (k : ∀ (T' : State) (L : List Loc) (v : Option Value), Stand p l e R s m args below meth c T' (locs ++ L) (cells + rm.cells) (slots + rm.slots) → Q' v T'.heap L → own_Fin p e below P T' (mkF m (pc + 5) Ls (v.toList ++ rest))) :
    own_Fin p e below P T (mkF m pc Ls stk) := by
  obtain ⟨hx, hZ, hby, hml, hown, hret, hlk, hnm⟩ := K
  obtain ⟨cq, kq, qa, qb, qc⟩ := isOf hZ eT E
  obtain ⟨v, _, ⟨T', L', k', n'⟩, -, X', ⟨L, hQ, l1, l2, l3⟩, st⟩ := X.interfaceBack hx (xi := xi) (y := y) hown (mvT hZ w1) (mvT hZ w2) (mvT hZ w8 w8f) (mvT hZ w5) (mvT hZ w6) (mvT hZ w9) (mvT hZ w10) (mvT hZ w11) hy (backOf (W := (rest.map fun v => v.category).sum) (M []) hZ w4 w3 hf hl) qa qb qc (g := mkF m pc Ls stk) rfl (hsize.trans hml.symm) (Steps.refl _) (argsL := argsL) (rest := rest) (lenOf hpd hlen) hstk (by show 2 * 0 + _ ≤ _; omega) (hb hby hd) (fun _ _ => ⟨has, eT, hc, hs⟩)
  dsimp only [Pt.U, Pt.locs, Pt.cells, Pt.slots] at X' l1 l2 l3 st hQ
  subst l1 l2 l3
  exact own_seg (fun t q => st.trans q) (k T' L v X' hQ)
/-! fields, objects -/
theorem own_getF (K : own_Ctx p Z s m meth c cls bytes maxL ret nm) (X : Stand p l e R s m args below meth c T locs cells slots) (eT : T.heap = h) {index : Nat} {R0 O n d host : String} {a : Addr} {v : Value} (w : (Jvm.Cond.fieldLink cls index R0 n d).before a0 Z = true ∨ (Jvm.Cond.fieldLinkNest cls index R0 n d host).before a0 Z = true) (via : Via Z R0 O n d) (F : Fld Z h a O n d v)
    {pc : Nat} {Ls : Array Slot} {rest : List Value} (hd : decode bytes pc = .ok (.getfield index, 3)) (k : ∀ T', Stand p l e R s m args below meth c T' locs cells slots → T'.heap = h → own_Fin p e below P T' (mkF m (pc + 3) Ls (v :: rest))) : own_Fin p e below P T (mkF m pc Ls (.ref a :: rest)) := by
  obtain ⟨hx, hZ, hby, hml, hown, hret, hlk, hnm⟩ := K
  obtain ⟨T', X', e', st⟩ := getF X hx hZ hown w via eT F (g := mkF m pc Ls (.ref a :: rest)) rfl rfl (hb hby hd)
  exact own_seg st (k T' X' e')
theorem own_putF (K : own_Ctx p Z s m meth c cls bytes maxL ret nm) (X : Stand p l e R s m args below meth c T locs cells slots) (eT : T.heap = h) {index kk : Nat} {R0 O n d host C : String} {a : Addr} {v old : Value} {ty : FieldType} (w : (Jvm.Cond.fieldLink cls index R0 n d).before a0 Z = true ∨ (Jvm.Cond.fieldLinkNest cls index R0 n d host).before a0 Z = true) (via : Via Z R0 O n d) (F : Fld Z h a O n d old) (E : Exa Z h a C)
    (L : (Jvm.Cond.lays C O n d).before a0 Z = true ∨ ((Jvm.Cond.laysFinal C O n d).before a0 Z = true ∧ cls = O ∧ nm = "<init>")) (wi : (Jvm.Cond.instantiable C kk).before a0 Z = true) (hty : parseFieldDescriptor d = some ty) (hn : narrow ty v = v) (hf : fits ty v = true)
    {pc : Nat} {Ls : Array Slot} {rest : List Value} (hd : decode bytes pc = .ok (.putfield index, 3)) (k : ∀ T' h', Stand p l e R s m args below meth c T' (locs ++ [⟨a, Jvm.RoadKit.slotOf Z O n d⟩]) cells slots → T'.heap = h' → Wr h h' a (Jvm.RoadKit.slotOf Z O n d) v → own_Fin p e below P T' (mkF m (pc + 3) Ls rest)) : own_Fin p e below P T (mkF m pc Ls (v :: .ref a :: rest)) := by
  obtain ⟨hx, hZ, hby, hml, hown, hret, hlk, hnm⟩ := K
  obtain ⟨T', h', X', e', W, st⟩ := putF X hx hZ hown w via eT F E (L.imp id fun q => ⟨q.1, q.2.1, hnm.trans q.2.2⟩) wi hty hn hf (g := mkF m pc Ls (v :: .ref a :: rest)) rfl rfl (hb hby hd)
  exact own_seg st (k T' h' X' e' W)
theorem own_newO (K : own_Ctx p Z s m meth c cls bytes maxL ret nm) (X : Stand p l e R s m args below meth c T locs cells slots) (eT : T.heap = h) {C : String} {index n : Nat} (w : (Jvm.Cond.classLink cls index C).before a0 Z = true) (wi : (Jvm.Cond.instantiable C n).before a0 Z = true) (wz : (Jvm.Cond.initialized C).before a0 Z = true)
    {pc : Nat} {Ls : Array Slot} {stk : List Value} (hd : decode bytes pc = .ok (.new index, 3)) (hc : cells + 1 ≤ R.cells) (hl : slots + n ≤ R.slots)
    (k : ∀ T' h' a, a = h.size → Stand p l e R s m args below meth c T' locs (cells + 1) (slots + n) → T'.heap = h' → Ext h h' → Exa Z h' a C → (∀ {O nm d : String} {ty : FieldType}, Laid Z a0 C O nm d → parseFieldDescriptor d = some ty → Fld Z h' a O nm d (defaultValue ty)) → own_Fin p e below P T' (mkF m (pc + 3) Ls (.ref a :: stk))) : own_Fin p e below P T (mkF m pc Ls stk) := by
  obtain ⟨hx, hZ, hby, hml, hown, hret, hlk, hnm⟩ := K
  obtain ⟨T', h', X', e', E, A, D, -, st⟩ := newO X hx hZ hown w wi wz eT (g := mkF m pc Ls stk) rfl (hb hby hd) hc hl
  exact own_seg st (k T' h' _ rfl X' e' E A D)
theorem own_initO (K : own_Ctx p Z s m meth c cls bytes maxL ret nm) (X : Stand p l e R s m args below meth c T locs cells slots) (eT : T.heap = h) {index : Nat} (w1 : (Jvm.Cond.methodLink cls index Lib.objectInit).before a0 Z = true) (w2 : (Jvm.Cond.instanceMethod Lib.objectInit).before a0 Z = true) (w3 : (Jvm.Cond.code Lib.objectInit ⟨#[0xb1]⟩ 1 none).before a0 Z = true)
    {pc : Nat} {Ls : Array Slot} {a : Addr} {rest : List Value} (hsize : Ls.size = maxL) (hd : decode bytes pc = .ok (.invokespecial index, 3)) (hf : 1 ≤ R.frames) (hl : (rest.map fun v => v.category).sum + 12 ≤ R.locals)
    (k : ∀ T', Stand p l e R s m args below meth c T' locs cells slots → T'.heap = h → own_Fin p e below P T' (mkF m (pc + 3) Ls rest)) : own_Fin p e below P T (mkF m pc Ls (.ref a :: rest)) := by
  obtain ⟨hx, hZ, hby, hml, hown, hret, hlk, hnm⟩ := K
  obtain ⟨T', X', e', st⟩ := initO X hx hZ hown w1 w2 w3 eT (g := mkF m pc Ls (.ref a :: rest)) rfl (hsize.trans hml.symm) rfl (hb hby hd) hf (W := (rest.map fun v => v.category).sum) (by show 2 * 0 + _ ≤ _; omega) hl
  exact own_seg st (k T' X' e')
theorem own_getS (K : own_Ctx p Z s m meth c cls bytes maxL ret nm) (X : Stand p l e R s m args below meth c T locs cells slots) (eT : T.heap = h) {index : Nat} {R0 O n d host : String} {v : Value} (w : (Jvm.Cond.fieldLink cls index R0 n d).before a0 Z = true ∨ (Jvm.Cond.fieldLinkNest cls index R0 n d host).before a0 Z = true) (via : Via Z R0 O n d) (F : Sta Z h O n d v)
    {pc : Nat} {Ls : Array Slot} {stk : List Value} (hd : decode bytes pc = .ok (.getstatic index, 3)) (k : ∀ T', Stand p l e R s m args below meth c T' locs cells slots → T'.heap = h → own_Fin p e below P T' (mkF m (pc + 3) Ls (v :: stk))) : own_Fin p e below P T (mkF m pc Ls stk) := by
  obtain ⟨hx, hZ, hby, hml, hown, hret, hlk, hnm⟩ := K
  obtain ⟨T', X', e', st⟩ := getS2 X hx hZ hown w via eT F (g := mkF m pc Ls stk) rfl (hb hby hd)
  exact own_seg st (k T' X' e')
end Own
/-! ## what an object's fields hold, all at once -/
def own_Obj (Z : State) (h : Heap) (a : Addr) (C : String) (fs : List (String × String × String × Value)) : Prop := Exa Z h a C ∧ ∀ q ∈ fs, Fld Z h a q.1 q.2.1 q.2.2.1 q.2.2.2
def own_Lay (Z : State) (a0 : Array Value) (C : String) (fs : List (String × String × String)) : Prop := ∀ q ∈ fs, Laid Z a0 C q.1 q.2.1 q.2.2 ∧ ∃ t, parseFieldDescriptor q.2.2 = some t
section Obj
variable {Z : State} {a0 : Array Value} {h h' : Heap} {a b : Addr} {C : String} {fs : List (String × String × String × Value)} {ws : List Addr} {sl : Nat} {v : Value}
theorem own_Obj.exa (O : own_Obj Z h a C fs) : Exa Z h a C := O.1
theorem own_Obj.lt (O : own_Obj Z h a C fs) : a < h.size := O.1.lt
theorem own_Obj.get (O : own_Obj Z h a C fs) (i : Nat) {q : String × String × String × Value} (hi : fs[i]? = some q) : Fld Z h a q.1 q.2.1 q.2.2.1 q.2.2.2 := O.2 q (List.mem_of_getElem? hi)
theorem own_Obj.ext (O : own_Obj Z h a C fs) (E : Ext h h') : own_Obj Z h' a C fs := ⟨O.1.ext E, fun q hq => (O.2 q hq).ext E⟩
theorem own_Obj.keep (O : own_Obj Z h a C fs) (K : Keep h h' ws) (n : a ∉ ws) : own_Obj Z h' a C fs := ⟨O.1.keep K, fun q hq => (O.2 q hq).keep K n⟩
theorem own_Obj.other (O : own_Obj Z h b C fs) (W : Wr h h' a sl v) (n : b ≠ a) : own_Obj Z h' b C fs := ⟨O.1.wr W, fun q hq => (O.2 q hq).other W (Or.inl n)⟩
theorem own_Obj.put (O : own_Obj Z h a C fs) {ls : List (String × String × String)} (Y : own_Lay Z a0 C ls) (hls : fs.map (fun q => (q.1, q.2.1, q.2.2.1)) = ls) (hnd : (ls.map (fun q => q.2.1)).Nodup) (i : Nat) {O' n d : String} {old : Value} (hi : fs[i]? = some (O', n, d, old)) (W : Wr h h' a (Jvm.RoadKit.slotOf Z O' n d) v) : own_Obj Z h' a C (fs.set i (O', n, d, v)) := by
  subst hls
  refine ⟨O.1.wr W, fun q hq => ?_⟩
  obtain ⟨j, hj⟩ := List.mem_iff_getElem?.mp hq
  by_cases e : i = j
  · subst e
    have hlt : i < fs.length := (List.getElem?_eq_some_iff.mp hi).1
    rw [List.getElem?_set_self hlt] at hj
    cases hj
    exact (O.get i hi).same W
  · rw [List.getElem?_set_ne e] at hj
    refine (O.get j hj).other W (Or.inr ?_)
    obtain ⟨L1, t1, p1⟩ := Y (q.1, q.2.1, q.2.2.1) (List.mem_map.mpr ⟨q, List.mem_of_getElem? hj, rfl⟩)
    obtain ⟨L2, t2, p2⟩ := Y (O', n, d) (List.mem_map.mpr ⟨(O', n, d, old), List.mem_of_getElem? hi, rfl⟩)
    refine slot_ne L1 L2 ?_ p1 p2
    intro en
    apply e
    rw [List.map_map] at hnd
    have k1 : (fs.map ((fun q : String × String × String => q.2.1) ∘ fun q : String × String × String × Value => (q.1, q.2.1, q.2.2.1)))[i]? = some n := by rw [List.getElem?_map, hi]; rfl
    have k2 : (fs.map ((fun q : String × String × String => q.2.1) ∘ fun q : String × String × String × Value => (q.1, q.2.1, q.2.2.1)))[j]? = some n := by rw [List.getElem?_map, hj, ← en]; rfl
    exact (List.getElem?_inj (List.getElem?_eq_some_iff.mp k1).1 hnd).mp (k1.trans k2.symm)
end Obj
/-! ## an array by the list of all that it holds -/
def own_Arr (Z : State) (h : Heap) (a : Addr) (ty : FieldType) (vs : List Value) : Prop := ∃ cl : Cell, Arr Z h a cl ty ∧ cl.slots.toList = vs
section Arrs
variable {p : Program} {l : Launch} {e : Env} {R : Room} {s : State} {m : MethodId} {args : Array Value} {below : List Frame} {meth : Method} {c : Code} {T : State} {locs : List Loc} {cells slots : Nat} {Z : State} {a0 : Array Value} {h h' : Heap}
  {P : Outcome → State → Prop} {cls : String} {bytes : ByteArray} {maxL : Nat} {ret : Option FieldType} {nm : String} {a b : Addr} {ty : FieldType} {vs : List Value} {ws : List Addr} {sl : Nat} {v : Value}
theorem own_Arr.lt (A : own_Arr Z h a ty vs) : a < h.size := by obtain ⟨cl, A, -⟩ := A; exact A.lt
theorem own_Arr.ext (A : own_Arr Z h a ty vs) (E : Ext h h') : own_Arr Z h' a ty vs := by obtain ⟨cl, A, q⟩ := A; exact ⟨cl, A.ext E, q⟩
theorem own_Arr.other (A : own_Arr Z h b ty vs) (W : Wr h h' a sl v) (n : b ≠ a) : own_Arr Z h' b ty vs := by obtain ⟨cl, A, q⟩ := A; exact ⟨cl, A.other W n, q⟩
theorem own_Arr.keep (A : own_Arr Z h a ty vs) (K : Keep h h' ws) (n : a ∉ ws) : own_Arr Z h' a ty vs := by obtain ⟨cl, A, q⟩ := A; exact ⟨cl, ⟨K.2.1 a cl A.1 n, A.2⟩, q⟩
theorem own_Arr.set (A : own_Arr Z h a ty vs) (W : Wr h h' a sl v) : own_Arr Z h' a ty (vs.set sl v) := by
  obtain ⟨cl, A, q⟩ := A
  exact ⟨_, A.same W, by simp [Cell.setSlot, q]⟩
theorem own_Arr.new {cA : ClassId} {n : Int32} (A : Arr Z h a (newA cA ty n) ty) : own_Arr Z h a ty (List.replicate n.toNatClampNeg (defaultValue ty)) := ⟨_, A, by simp [newA]⟩
theorem own_at {cl : Cell} (q : cl.slots.toList = vs) {i : Nat} (hv : vs[i]? = some v) : cl.slots[i]? = some v := by rw [← hv, ← q, Array.getElem?_toList]
theorem own_in {cl : Cell} (q : cl.slots.toList = vs) {j : Int32} (hj : ¬ j < 0) (hv : vs[j.toNatClampNeg]? = some v) : ¬ (j < 0 ∨ cl.slots.size ≤ j.toNatClampNeg) := by
  rintro (r | r)
  · exact hj r
  · have := (Array.getElem?_eq_some_iff.mp (own_at q hv)).1; omega
theorem own_iaload (K : own_Ctx p Z s m meth c cls bytes maxL ret nm) (X : Stand p l e R s m args below meth c T locs cells slots) (eT : T.heap = h) (A : own_Arr Z h a .int vs) {j : Int32} (hj : ¬ j < 0) (hv : vs[j.toNatClampNeg]? = some v)
    {pc : Nat} {Ls : Array Slot} {rest : List Value} (hd : decode bytes pc = .ok (.iaload, 1)) (k : own_Fin p e below P T (mkF m (pc + 1) Ls (v :: rest))) : own_Fin p e below P T (mkF m pc Ls (.int j :: .ref a :: rest)) := by
  obtain ⟨hx, hZ, hby, -⟩ := K
  obtain ⟨cl, A, q⟩ := A
  exact own_seg (fun t u => X.iaload hx (j := j) (v := v) (by rw [eT]; exact A.1) (State.isArrayOf_alike hZ.alike A.2.1) A.2.2 (own_in q hj hv) (own_at q hv) (g := mkF m pc Ls (.int j :: .ref a :: rest)) rfl rfl (hb hby hd) t u) k
theorem own_laload (K : own_Ctx p Z s m meth c cls bytes maxL ret nm) (X : Stand p l e R s m args below meth c T locs cells slots) (eT : T.heap = h) (A : own_Arr Z h a .long vs) {j : Int32} (hj : ¬ j < 0) (hv : vs[j.toNatClampNeg]? = some v)
    {pc : Nat} {Ls : Array Slot} {rest : List Value} (hd : decode bytes pc = .ok (.laload, 1)) (k : own_Fin p e below P T (mkF m (pc + 1) Ls (v :: rest))) : own_Fin p e below P T (mkF m pc Ls (.int j :: .ref a :: rest)) := by
  obtain ⟨hx, hZ, hby, -⟩ := K
  obtain ⟨cl, A, q⟩ := A
  exact own_seg (fun t u => X.laload hx (j := j) (v := v) (by rw [eT]; exact A.1) (State.isArrayOf_alike hZ.alike A.2.1) A.2.2 (own_in q hj hv) (own_at q hv) (g := mkF m pc Ls (.int j :: .ref a :: rest)) rfl rfl (hb hby hd) t u) k
theorem own_alen (K : own_Ctx p Z s m meth c cls bytes maxL ret nm) (X : Stand p l e R s m args below meth c T locs cells slots) (eT : T.heap = h) (A : own_Arr Z h a ty vs) {n : Int32} (hn : vs.length.toInt32 = n)
    {pc : Nat} {Ls : Array Slot} {rest : List Value} (hd : decode bytes pc = .ok (.arraylength, 1)) (k : own_Fin p e below P T (mkF m (pc + 1) Ls (.int n :: rest))) : own_Fin p e below P T (mkF m pc Ls (.ref a :: rest)) := by
  obtain ⟨hx, hZ, hby, -⟩ := K
  obtain ⟨cl, A, q⟩ := A
  subst q hn
  rw [Array.length_toList] at k
  exact own_seg (fun t u => X.arraylength hx (by rw [eT]; exact A.1) (State.isArrayOf_alike hZ.alike A.2.1) (g := mkF m pc Ls (.ref a :: rest)) rfl rfl (hb hby hd) t u) k
theorem own_iastore (K : own_Ctx p Z s m meth c cls bytes maxL ret nm) (X : Stand p l e R s m args below meth c T locs cells slots) (eT : T.heap = h) (A : own_Arr Z h a .int vs) {j x : Int32} (hj : ¬ j < 0) (hv : j.toNatClampNeg < vs.length)
    {pc : Nat} {Ls : Array Slot} {rest : List Value} (hd : decode bytes pc = .ok (.iastore, 1)) (k : ∀ T' h', Stand p l e R s m args below meth c T' (locs ++ [⟨a, j.toNatClampNeg⟩]) cells slots → T'.heap = h' → Wr h h' a j.toNatClampNeg (.int x) → own_Fin p e below P T' (mkF m (pc + 1) Ls rest)) : own_Fin p e below P T (mkF m pc Ls (.int x :: .int j :: .ref a :: rest)) := by
  obtain ⟨hx, hZ, hby, -⟩ := K
  obtain ⟨cl, A, q⟩ := A
  obtain ⟨T', h', X', e', W, st⟩ := stI X hx hZ eT A (j := j) (x := x) (own_in q hj (List.getElem?_eq_getElem hv)) (g := mkF m pc Ls (.int x :: .int j :: .ref a :: rest)) rfl rfl (hb hby hd)
  exact own_seg st (k T' h' X' e' W)
theorem own_lastore (K : own_Ctx p Z s m meth c cls bytes maxL ret nm) (X : Stand p l e R s m args below meth c T locs cells slots) (eT : T.heap = h) (A : own_Arr Z h a .long vs) {j : Int32} {x : Int64} (hj : ¬ j < 0) (hv : j.toNatClampNeg < vs.length)
    {pc : Nat} {Ls : Array Slot} {rest : List Value} (hd : decode bytes pc = .ok (.lastore, 1)) (k : ∀ T' h', Stand p l e R s m args below meth c T' (locs ++ [⟨a, j.toNatClampNeg⟩]) cells slots → T'.heap = h' → Wr h h' a j.toNatClampNeg (.long x) → own_Fin p e below P T' (mkF m (pc + 1) Ls rest)) : own_Fin p e below P T (mkF m pc Ls (.long x :: .int j :: .ref a :: rest)) := by
  obtain ⟨hx, hZ, hby, -⟩ := K
  obtain ⟨cl, A, q⟩ := A
  obtain ⟨T', h', X', e', W, st⟩ := stJ X hx hZ eT A (j := j) (x := x) (own_in q hj (List.getElem?_eq_getElem hv)) (g := mkF m pc Ls (.long x :: .int j :: .ref a :: rest)) rfl rfl (hb hby hd)
  exact own_seg st (k T' h' X' e' W)
theorem own_newP (K : own_Ctx p Z s m meth c cls bytes maxL ret nm) (X : Stand p l e R s m args below meth c T locs cells slots) (eT : T.heap = h) {aty : ArrayType} (w : (Jvm.Cond.arrayClass (newarray.typeOf aty)).before a0 Z = true) {n : Int32} (hn : ¬ n < 0) (cap : Nat) (hcap : n.toNatClampNeg ≤ cap) (hcb : cap * 8 ≤ 536870912)
    {pc : Nat} {Ls : Array Slot} {rest : List Value} (hd : decode bytes pc = .ok (.newarray aty, 2)) (hc : cells + 1 ≤ R.cells) (hl : slots + cap ≤ R.slots)
    (k : ∀ T' h' a, a = h.size → Stand p l e R s m args below meth c T' locs (cells + 1) (slots + cap) → T'.heap = h' → Ext h h' → own_Arr Z h' a (newarray.typeOf aty) (List.replicate n.toNatClampNeg (defaultValue (newarray.typeOf aty))) → own_Fin p e below P T' (mkF m (pc + 2) Ls (.ref a :: rest))) : own_Fin p e below P T (mkF m pc Ls (.int n :: rest)) := by
  obtain ⟨hx, hZ, hby, -⟩ := K
  obtain ⟨T', h', cA, X', e', E, A, st⟩ := newP X hx hZ w eT (g := mkF m pc Ls (.int n :: rest)) rfl (hb hby hd) rfl hn hcap hcb hc hl
  exact own_seg st (k T' h' _ rfl X' e' E (own_Arr.new A))
end Arrs
/-! ## an array of references, of which only the class and the length are told; a list of ints by a function -/
def own_RArr (Z : State) (h : Heap) (a : Addr) (C : String) (n : Nat) : Prop := ∃ cl : Cell, Arr Z h a cl (.object C) ∧ cl.slots.size = n ∧ Ovr Z cl.cls C
section RArrs
variable {p : Program} {l : Launch} {e : Env} {R : Room} {s : State} {m : MethodId} {args : Array Value} {below : List Frame} {meth : Method} {c : Code} {T : State} {locs : List Loc} {cells slots : Nat} {Z : State} {a0 : Array Value} {h h' : Heap}
  {P : Outcome → State → Prop} {cls : String} {bytes : ByteArray} {maxL : Nat} {ret : Option FieldType} {nm : String} {a b : Addr} {C : String} {n : Nat} {ws : List Addr} {sl : Nat} {v : Value}
theorem own_RArr.lt (A : own_RArr Z h a C n) : a < h.size := by obtain ⟨cl, A, -⟩ := A; exact A.lt
theorem own_RArr.ext (A : own_RArr Z h a C n) (E : Ext h h') : own_RArr Z h' a C n := by obtain ⟨cl, A, q⟩ := A; exact ⟨cl, A.ext E, q⟩
theorem own_RArr.other (A : own_RArr Z h b C n) (W : Wr h h' a sl v) (q : b ≠ a) : own_RArr Z h' b C n := by obtain ⟨cl, A, r⟩ := A; exact ⟨cl, A.other W q, r⟩
theorem own_RArr.keep (A : own_RArr Z h a C n) (K : Keep h h' ws) (q : a ∉ ws) : own_RArr Z h' a C n := by obtain ⟨cl, A, r⟩ := A; exact ⟨cl, ⟨K.2.1 a cl A.1 q, A.2⟩, r⟩
theorem own_RArr.set (A : own_RArr Z h a C n) (W : Wr h h' a sl v) : own_RArr Z h' a C n := by obtain ⟨cl, A, r1, r2⟩ := A; exact ⟨_, A.same W, by rw [sz_set]; exact r1, r2⟩
theorem own_aastore (K : own_Ctx p Z s m meth c cls bytes maxL ret nm) (X : Stand p l e R s m args below meth c T locs cells slots) (eT : T.heap = h) (A : own_RArr Z h a C n) {j : Int32} (hj : ¬ j < 0) (hv : j.toNatClampNeg < n) (F : v = .null ∨ ∃ y, v = .ref y ∧ Ins Z h y C true)
    {pc : Nat} {Ls : Array Slot} {rest : List Value} (hd : decode bytes pc = .ok (.aastore, 1)) (k : ∀ T' h', Stand p l e R s m args below meth c T' (locs ++ [⟨a, j.toNatClampNeg⟩]) cells slots → T'.heap = h' → Wr h h' a j.toNatClampNeg v → own_Fin p e below P T' (mkF m (pc + 1) Ls rest)) : own_Fin p e below P T (mkF m pc Ls (v :: .int j :: .ref a :: rest)) := by
  obtain ⟨hx, hZ, hby, -⟩ := K
  obtain ⟨cl, A, r1, r2⟩ := A
  have S : Sto Z h a v := by
    rcases F with rfl | ⟨y, rfl, I⟩
    · exact Or.inl rfl
    · exact Sto.of A r2 I
  obtain ⟨T', h', X', e', W, st⟩ := stR X hx hZ eT A (j := j) (v := v) (fun q => q.elim hj (fun q => by omega)) rfl S (g := mkF m pc Ls (v :: .int j :: .ref a :: rest)) rfl rfl (hb hby hd)
  exact own_seg st (k T' h' X' e' W)
theorem own_newR (K : own_Ctx p Z s m meth c cls bytes maxL ret nm) (X : Stand p l e R s m args below meth c T locs cells slots) (eT : T.heap = h) {index : Nat} (w1 : (Jvm.Cond.classLink cls index C).before a0 Z = true) (w2 : (Jvm.Cond.arrayOver (.object C)).before a0 Z = true) {z : Int32} (hn : ¬ z < 0) (cap : Nat) (hcap : z.toNatClampNeg = cap) (hcb : cap * 8 ≤ 536870912)
    {pc : Nat} {Ls : Array Slot} {rest : List Value} (hd : decode bytes pc = .ok (.anewarray index, 3)) (hc : cells + 1 ≤ R.cells) (hl : slots + cap ≤ R.slots)
    (k : ∀ T' h' a, a = h.size → Stand p l e R s m args below meth c T' locs (cells + 1) (slots + cap) → T'.heap = h' → Ext h h' → own_RArr Z h' a C cap → own_Fin p e below P T' (mkF m (pc + 3) Ls (.ref a :: rest))) : own_Fin p e below P T (mkF m pc Ls (.int z :: rest)) := by
  obtain ⟨hx, hZ, hby, hml, hown, -⟩ := K
  obtain ⟨T', h', cA, X', e', E, A, O, st⟩ := newR X hx hZ hown w1 w2 eT (g := mkF m pc Ls (.int z :: rest)) rfl (hb hby hd) rfl hn (Nat.le_of_eq hcap) hcb hc hl
  exact own_seg st (k T' h' _ rfl X' e' E ⟨_, A, by rw [sz_new]; exact hcap, O⟩)
end RArrs
def own_L (n : Nat) (f : Nat → Int32) : List Value := (List.range n).map fun i => Value.int (f i)
theorem own_L_len (n : Nat) (f : Nat → Int32) : (own_L n f).length = n := by simp [own_L]
theorem own_L_at {n : Nat} {f : Nat → Int32} {i : Nat} (h : i < n) : (own_L n f)[i]? = some (.int (f i)) := by simp [own_L, h]
theorem own_L_set {n : Nat} {f : Nat → Int32} {i : Nat} {v : Int32} (h : i < n) : (own_L n f).set i (.int v) = own_L n (fun j => if j = i then v else f j) := by
  apply List.ext_getElem?
  intro j
  by_cases e : i = j
  · subst e
    rw [List.getElem?_set_self (by rw [own_L_len]; exact h), own_L_at h, if_pos rfl]
  · rw [List.getElem?_set_ne e]
    by_cases q : j < n
    · rw [own_L_at q, own_L_at q, if_neg (Ne.symm e)]
    · rw [List.getElem?_eq_none (by rw [own_L_len]; omega), List.getElem?_eq_none (by rw [own_L_len]; omega)]
theorem own_L_rep (n : Nat) : List.replicate n (Value.int 0) = own_L n (fun _ => 0) := by
  apply List.ext_getElem?
  intro j
  by_cases q : j < n
  · rw [own_L_at q, List.getElem?_replicate, if_pos q]
  · rw [List.getElem?_replicate, if_neg q, List.getElem?_eq_none (by rw [own_L_len]; omega)]
theorem own_i0 : (0 : Int32).toInt = 0 := by decide
theorem own_i1 : (1 : Int32).toInt = 1 := by decide
theorem own_of {k : Nat} (h : k < 2 ^ 31) : (Int32.ofNat k).toInt = k := Int32.toInt_ofNat_of_lt h
theorem own_nn {k : Nat} (h : k < 2 ^ 31) : ¬ Int32.ofNat k < 0 := by rw [Int32.lt_iff_toInt_lt, own_of h, own_i0]; omega
theorem own_cl {k : Nat} (h : k < 2 ^ 31) : (Int32.ofNat k).toNatClampNeg = k := by show (Int32.ofNat k).toInt.toNat = k; rw [own_of h]; omega
theorem own_add1 {k : Nat} (h : k < 2 ^ 30) : Int32.ofNat k + 1 = Int32.ofNat (k + 1) := by
  apply Int32.toInt_inj.mp
  rw [Jvm.Kit.i32_add (by rw [own_of (by omega), own_i1]; omega) (by rw [own_of (by omega), own_i1]; omega), own_of (by omega), own_of (by omega), own_i1]; omega
theorem own_sub1 {k : Nat} (h : k < 2 ^ 30) : Int32.ofNat (k + 1) - 1 = Int32.ofNat k := by
  apply Int32.toInt_inj.mp
  rw [Jvm.Kit.i32_sub (by rw [own_of (by omega), own_i1]; omega) (by rw [own_of (by omega), own_i1]; omega), own_of (by omega), own_of (by omega), own_i1]; omega
theorem own_sub1' {v : Nat} (h : v < 2 ^ 30) (nz : v ≠ 0) : Int32.ofNat v - 1 = Int32.ofNat (v - 1) := by
  obtain ⟨w, rfl⟩ : ∃ w, v = w + 1 := ⟨v - 1, by omega⟩
  exact own_sub1 (by omega)
theorem own_ofz {k : Nat} (h : k < 2 ^ 31) : Int32.ofNat k = 0 ↔ k = 0 := by
  rw [← Int32.toInt_inj, own_of h, own_i0]; omega
theorem own_inj {j k : Nat} (hj : j < 2 ^ 31) (hk : k < 2 ^ 31) : Int32.ofNat j = Int32.ofNat k ↔ j = k := by
  rw [← Int32.toInt_inj, own_of hj, own_of hk]; omega
def own_hs (c : Int32) : Int32 := ((c * (-1640531527 : Int32)) ^^^ (((c * (-1640531527 : Int32)).toUInt32 >>> ((16 : Int32) &&& 31).toUInt32).toInt32))
def own_H (c : Int32) : Nat := (own_hs c &&& (31 : Int32)).toInt.toNat
theorem own_m31 (x : Int32) : (x &&& (31 : Int32)).toInt = x.toInt % 32 := Jvm.Kit.i32_mask x 31 (k := 5) (by decide) (by decide)
theorem own_H_lt (c : Int32) : own_H c < 32 := by rw [own_H, own_m31]; omega
theorem own_H_eq (c : Int32) : own_hs c &&& (31 : Int32) = Int32.ofNat (own_H c) := by
  apply Int32.toInt_inj.mp
  rw [own_of (by have := own_H_lt c; omega), own_H]
  have := own_m31 (own_hs c); omega
theorem own_nx {k : Nat} (h : k < 32) : (Int32.ofNat k + 1) &&& (31 : Int32) = Int32.ofNat ((k + 1) % 32) := by
  apply Int32.toInt_inj.mp
  rw [own_m31, own_add1 (by omega), own_of (by omega), own_of (by omega)]; omega
def own_up (g : Nat → Int32) (n : Nat) (c : Int32) : Nat → Int32 := fun i => if i = n then c else g i
def own_un (u : Nat → Nat) (k v : Nat) : Nat → Nat := fun i => if i = k then v else u i
def own_F (u : Nat → Nat) : Nat → Int32 := fun k => Int32.ofNat (u k)
theorem own_Lat {n : Nat} {f : Nat → Int32} {k : Nat} (h : k < n) (hn : n < 2 ^ 31) : (own_L n f)[(Int32.ofNat k).toNatClampNeg]? = some (.int (f k)) := by rw [own_cl (by omega)]; exact own_L_at h
theorem own_Lset {n : Nat} {f : Nat → Int32} {k : Nat} {v : Int32} (h : k < n) (hn : n < 2 ^ 31) : (own_L n f).set (Int32.ofNat k).toNatClampNeg (.int v) = own_L n (own_up f k v) := by rw [own_cl (by omega), own_L_set h]; rfl
theorem own_Fun (u : Nat → Nat) (k v : Nat) : own_up (own_F u) k (Int32.ofNat v) = own_F (own_un u k v) := by
  funext j; simp only [own_up, own_F, own_un]; split <;> rfl
/-- the table u (one more than a place, or 0) of the n concepts g: linear probing from each one's hash -/
def own_Tab (u : Nat → Nat) (g : Nat → Int32) (n : Nat) : Prop :=
  n ≤ 3 ∧ (∀ k, k < 32 → u k ≤ n) ∧ (∀ k k', k < 32 → k' < 32 → u k = u k' → u k ≠ 0 → k = k') ∧ (∀ i i', i < n → i' < n → g i = g i' → i = i') ∧
  ∀ i, i < n → ∃ j, j < 4 ∧ u ((own_H (g i) + j) % 32) = i + 1 ∧ ∀ j', j' < j → u ((own_H (g i) + j') % 32) ≠ 0 ∧ u ((own_H (g i) + j') % 32) ≤ i
theorem own_Tab0 (g : Nat → Int32) : own_Tab (fun _ => 0) g 0 := ⟨by omega, fun _ _ => Nat.le_refl _, fun _ _ _ _ _ h => absurd rfl h, fun _ _ h => absurd h (Nat.not_lt_zero _), fun _ h => absurd h (Nat.not_lt_zero _)⟩
theorem own_gap {u : Nat → Nat} {g : Nat → Int32} {n : Nat} (T : own_Tab u g n) {k : Nat} (hk : k < 32) : ∃ j, j < 4 ∧ u ((k + j) % 32) = 0 := by
  obtain ⟨h1, h2, h3, -, -⟩ := T
  have key : u k = 0 ∨ u ((k + 1) % 32) = 0 ∨ u ((k + 2) % 32) = 0 ∨ u ((k + 3) % 32) = 0 := by
    have a0 := h2 k hk
    have a1 := h2 ((k + 1) % 32) (by omega)
    have a2 := h2 ((k + 2) % 32) (by omega)
    have a3 := h2 ((k + 3) % 32) (by omega)
    have d : ∀ x y, x < 32 → y < 32 → x ≠ y → u x ≠ 0 → u x ≠ u y := fun x y hx hy ne nz e => ne (h3 x y hx hy e nz)
    by_cases z0 : u k = 0
    · exact Or.inl z0
    by_cases z1 : u ((k + 1) % 32) = 0
    · exact Or.inr (Or.inl z1)
    by_cases z2 : u ((k + 2) % 32) = 0
    · exact Or.inr (Or.inr (Or.inl z2))
    by_cases z3 : u ((k + 3) % 32) = 0
    · exact Or.inr (Or.inr (Or.inr z3))
    have e01 := d k ((k + 1) % 32) hk (by omega) (by omega) z0
    have e02 := d k ((k + 2) % 32) hk (by omega) (by omega) z0
    have e03 := d k ((k + 3) % 32) hk (by omega) (by omega) z0
    have e12 := d ((k + 1) % 32) ((k + 2) % 32) (by omega) (by omega) (by omega) z1
    have e13 := d ((k + 1) % 32) ((k + 3) % 32) (by omega) (by omega) (by omega) z1
    have e23 := d ((k + 2) % 32) ((k + 3) % 32) (by omega) (by omega) (by omega) z2
    omega
  have hk' : (k + 0) % 32 = k := by omega
  rcases key with z | z | z | z
  · exact ⟨0, by omega, by rw [hk']; exact z⟩
  · exact ⟨1, by omega, z⟩
  · exact ⟨2, by omega, z⟩
  · exact ⟨3, by omega, z⟩
theorem own_it (k j : Nat) : ((k + 1) % 32 + j) % 32 = (k + (j + 1)) % 32 := by omega
def own_pos (u : Nat → Nat) (g : Nat → Int32) (c : Int32) : Nat → Nat → Int32
  | 0, _ => -1
  | F + 1, k => if u k = 0 then -1 else if g (u k - 1) = c then Int32.ofNat (u k - 1) else own_pos u g c F ((k + 1) % 32)
def own_stop (u : Nat → Nat) (g : Nat → Int32) (c : Int32) : Nat → Nat → Prop
  | 0, _ => False
  | F + 1, k => u k = 0 ∨ g (u k - 1) = c ∨ own_stop u g c F ((k + 1) % 32)
def own_sk (u : Nat → Nat) (v : Nat) : Nat → Nat → Nat
  | 0, k => k
  | F + 1, k => if u k = v then k else own_sk u v F ((k + 1) % 32)
def own_sstop (u : Nat → Nat) (v : Nat) : Nat → Nat → Prop
  | 0, _ => False
  | F + 1, k => u k = v ∨ own_sstop u v F ((k + 1) % 32)
theorem own_stop_of {u : Nat → Nat} {g : Nat → Int32} {c : Int32} : ∀ (F k j : Nat), k < 32 → j < F → u ((k + j) % 32) = 0 → own_stop u g c F k
  | 0, _, _, _, h, _ => absurd h (Nat.not_lt_zero _)
  | F + 1, k, 0, hk, _, z => Or.inl (by have e : (k + 0) % 32 = k := by omega
                                        rw [e] at z; exact z)
  | F + 1, k, j + 1, hk, h, z => Or.inr (Or.inr (own_stop_of F ((k + 1) % 32) j (by omega) (by omega) (by rw [own_it]; exact z)))
theorem own_sstop_of {u : Nat → Nat} {v : Nat} : ∀ (F k j : Nat), k < 32 → j < F → u ((k + j) % 32) = v → own_sstop u v F k
  | 0, _, _, _, h, _ => absurd h (Nat.not_lt_zero _)
  | F + 1, k, 0, hk, _, z => Or.inl (by have e : (k + 0) % 32 = k := by omega
                                        rw [e] at z; exact z)
  | F + 1, k, j + 1, hk, h, z => Or.inr (own_sstop_of F ((k + 1) % 32) j (by omega) (by omega) (by rw [own_it]; exact z))
theorem own_sk_spec {u : Nat → Nat} {v : Nat} : ∀ (F k : Nat), k < 32 → own_sstop u v F k → ∃ j, j < F ∧ own_sk u v F k = (k + j) % 32 ∧ u ((k + j) % 32) = v ∧ ∀ j', j' < j → u ((k + j') % 32) ≠ v
  | 0, _, _, h => h.elim
  | F + 1, k, hk, h => by
    by_cases z : u k = v
    · have e : (k + 0) % 32 = k := by omega
      exact ⟨0, by omega, by rw [own_sk, if_pos z, e], by rw [e]; exact z, fun j' h => absurd h (Nat.not_lt_zero _)⟩
    · obtain ⟨j, h1, h2, h3, h4⟩ := own_sk_spec F ((k + 1) % 32) (by omega) (h.resolve_left z)
      refine ⟨j + 1, by omega, by rw [own_sk, if_neg z, h2, own_it], by rw [← own_it]; exact h3, fun j' hj' => ?_⟩
      match j', hj' with
      | 0, _ => have e : (k + 0) % 32 = k := by omega
                rw [e]; exact z
      | j' + 1, hj' => rw [← own_it]; exact h4 j' (by omega)
theorem own_pos_stop {u : Nat → Nat} {g : Nat → Int32} {n : Nat} (T : own_Tab u g n) (c : Int32) : own_stop u g c 4 (own_H c) := by
  obtain ⟨j, h1, h2⟩ := own_gap T (own_H_lt c)
  exact own_stop_of 4 _ j (own_H_lt c) h1 h2
theorem own_fr_stop {u : Nat → Nat} {g : Nat → Int32} {n : Nat} (T : own_Tab u g n) (c : Int32) : own_sstop u 0 4 (own_H c) := by
  obtain ⟨j, h1, h2⟩ := own_gap T (own_H_lt c)
  exact own_sstop_of 4 _ j (own_H_lt c) h1 h2
theorem own_pos_none {u : Nat → Nat} {g : Nat → Int32} {c : Int32} (h : ∀ k, k < 32 → u k ≠ 0 → g (u k - 1) ≠ c) : ∀ (F k : Nat), k < 32 → own_pos u g c F k = -1
  | 0, _, _ => rfl
  | F + 1, k, hk => by
    by_cases z : u k = 0
    · rw [own_pos, if_pos z]
    · rw [own_pos, if_neg z, if_neg (h k hk z)]; exact own_pos_none h F _ (by omega)
theorem own_pos_hit {u : Nat → Nat} {g : Nat → Int32} {c : Int32} {i : Nat} (hc : g i = c) : ∀ (j F k : Nat), k < 32 → j < F → u ((k + j) % 32) = i + 1 → (∀ j', j' < j → u ((k + j') % 32) ≠ 0 ∧ g (u ((k + j') % 32) - 1) ≠ c) → own_pos u g c F k = Int32.ofNat i
  | _, 0, _, _, h, _, _ => absurd h (Nat.not_lt_zero _)
  | 0, F + 1, k, hk, _, z, _ => by
    have e : (k + 0) % 32 = k := by omega
    rw [e] at z
    rw [own_pos, if_neg (by omega), z, Nat.add_sub_cancel, if_pos hc]
  | j + 1, F + 1, k, hk, h, z, q => by
    have e : (k + 0) % 32 = k := by omega
    have q0 := q 0 (by omega)
    rw [e] at q0
    rw [own_pos, if_neg q0.1, if_neg q0.2]
    exact own_pos_hit hc j F _ (by omega) (by omega) (by rw [own_it]; exact z) (fun j' hj' => by rw [own_it]; exact q (j' + 1) (by omega))
def own_idx (g : Nat → Int32) (n : Nat) (c : Int32) : Int32 := if 0 < n ∧ g 0 = c then 0 else if 1 < n ∧ g 1 = c then 1 else if 2 < n ∧ g 2 = c then 2 else -1
theorem own_pos_at {u : Nat → Nat} {g : Nat → Int32} {n : Nat} (T : own_Tab u g n) {i : Nat} (hi : i < n) : own_pos u g (g i) 4 (own_H (g i)) = Int32.ofNat i := by
  obtain ⟨h1, h2, h3, h4, h5⟩ := T
  obtain ⟨j, j1, j2, j3⟩ := h5 i hi
  refine own_pos_hit rfl j 4 _ (own_H_lt _) j1 j2 fun j' hj' => ⟨(j3 j' hj').1, fun e => ?_⟩
  have := h4 _ _ (by have := (j3 j' hj'); omega) hi e
  have := (j3 j' hj'); omega
theorem own_pos_eq {u : Nat → Nat} {g : Nat → Int32} {n : Nat} (T : own_Tab u g n) (c : Int32) : own_pos u g c 4 (own_H c) = own_idx g n c := by
  unfold own_idx
  split
  · rename_i h; obtain ⟨h, rfl⟩ := h; exact own_pos_at T h
  split
  · rename_i h; obtain ⟨h, rfl⟩ := h; exact own_pos_at T h
  split
  · rename_i h; obtain ⟨h, rfl⟩ := h; exact own_pos_at T h
  rename_i n0 n1 n2
  refine own_pos_none (fun k hk nz e => ?_) 4 _ (own_H_lt c)
  have b := T.2.1 k hk
  have b3 := T.1
  have w : u k = 1 ∨ u k = 2 ∨ u k = 3 := by omega
  rcases w with w | w | w
  · rw [w] at e; exact n0 ⟨by omega, e⟩
  · rw [w] at e; exact n1 ⟨by omega, e⟩
  · rw [w] at e; exact n2 ⟨by omega, e⟩
theorem own_Tab_add {u : Nat → Nat} {g : Nat → Int32} {n : Nat} (T : own_Tab u g n) (hn : n < 3) {c : Int32} (hc : ∀ i, i < n → g i ≠ c) : own_Tab (own_un u (own_sk u 0 4 (own_H c)) (n + 1)) (own_up g n c) (n + 1) := by
  obtain ⟨j, j1, j2, j3, j4⟩ := own_sk_spec 4 _ (own_H_lt c) (own_fr_stop T c)
  rw [j2]
  generalize hK : (own_H c + j) % 32 = K at *
  have K32 : K < 32 := by omega
  obtain ⟨h1, h2, h3, h4, h5⟩ := T
  refine ⟨by omega, fun k hk => ?_, fun k k' hk hk' e nz => ?_, fun i i' hi hi' e => ?_, fun i hi => ?_⟩
  · simp only [own_un]; split
    · exact Nat.le_refl _
    · have := h2 k hk; omega
  · simp only [own_un] at e nz
    have a := h2 k hk
    have b := h2 k' hk'
    by_cases p : k = K <;> by_cases q : k' = K
    · omega
    · rw [if_pos p, if_neg q] at e; omega
    · rw [if_neg p, if_pos q] at e; omega
    · rw [if_neg p, if_neg q] at e; rw [if_neg p] at nz; exact h3 k k' hk hk' e nz
  · simp only [own_up] at e
    by_cases p : i = n <;> by_cases q : i' = n
    · omega
    · rw [if_pos p, if_neg q] at e; exact absurd e.symm (hc i' (by omega))
    · rw [if_neg p, if_pos q] at e; exact absurd e (hc i (by omega))
    · rw [if_neg p, if_neg q] at e; exact h4 i i' (by omega) (by omega) e
  · by_cases p : i = n
    · subst p
      have eg : own_up g i c i = c := by simp [own_up]
      rw [eg]
      refine ⟨j, j1, by rw [hK]; simp [own_un], fun j' hj' => ?_⟩
      have nz := j4 j' hj'
      have ne : (own_H c + j') % 32 ≠ K := fun e => nz (by rw [e]; exact j3)
      simp only [own_un, if_neg ne]
      exact ⟨nz, h2 _ (by omega)⟩
    · have eg : own_up g n c i = g i := by simp [own_up, p]
      rw [eg]
      obtain ⟨w, w1, w2, w3⟩ := h5 i (by omega)
      have ne : (own_H (g i) + w) % 32 ≠ K := fun e => by rw [e, j3] at w2; omega
      refine ⟨w, w1, by simp only [own_un, if_neg ne]; exact w2, fun j' hj' => ?_⟩
      have nz := w3 j' hj'
      have ne' : (own_H (g i) + j') % 32 ≠ K := fun e => nz.1 (by rw [e]; exact j3)
      simp only [own_un, if_neg ne']
      exact nz
theorem own_cut_stop {u : Nat → Nat} {g : Nat → Int32} {n : Nat} (T : own_Tab u g (n + 1)) : own_sstop u (n + 1) 4 (own_H (g n)) := by
  obtain ⟨j, j1, j2, -⟩ := T.2.2.2.2 n (by omega)
  exact own_sstop_of 4 _ j (own_H_lt _) j1 j2
theorem own_Tab_cut {u : Nat → Nat} {g : Nat → Int32} {n : Nat} (T : own_Tab u g (n + 1)) : own_Tab (own_un u (own_sk u (n + 1) 4 (own_H (g n))) 0) g n := by
  obtain ⟨j, j1, j2, j3, j4⟩ := own_sk_spec 4 _ (own_H_lt (g n)) (own_cut_stop T)
  rw [j2]
  generalize hK : (own_H (g n) + j) % 32 = K at *
  have K32 : K < 32 := by omega
  obtain ⟨h1, h2, h3, h4, h5⟩ := T
  refine ⟨by omega, fun k hk => ?_, fun k k' hk hk' e nz => ?_, fun i i' hi hi' e => h4 i i' (by omega) (by omega) e, fun i hi => ?_⟩
  · simp only [own_un]; split
    · omega
    · rename_i p
      have := h2 k hk
      have ne : u k ≠ n + 1 := fun e => p (h3 k K hk K32 (e.trans j3.symm) (by omega))
      omega
  · simp only [own_un] at e nz
    by_cases p : k = K
    · rw [if_pos p] at nz; exact absurd rfl nz
    · by_cases q : k' = K
      · rw [if_neg p, if_pos q] at e; rw [if_neg p] at nz; exact absurd e nz
      · rw [if_neg p, if_neg q] at e; rw [if_neg p] at nz; exact h3 k k' hk hk' e nz
  · obtain ⟨w, w1, w2, w3⟩ := h5 i (by omega)
    have ne : (own_H (g i) + w) % 32 ≠ K := fun e => by rw [e, j3] at w2; omega
    refine ⟨w, w1, by simp only [own_un, if_neg ne]; exact w2, fun j' hj' => ?_⟩
    have nz := w3 j' hj'
    have ne' : (own_H (g i) + j') % 32 ≠ K := fun e => by rw [e, j3] at nz; omega
    simp only [own_un, if_neg ne']
    exact nz
theorem own_idx_none {g : Nat → Int32} {n : Nat} {c : Int32} (hn : n ≤ 3) (h : own_idx g n c = -1) : ∀ i, i < n → g i ≠ c := by
  intro i hi e
  unfold own_idx at h
  have w : i = 0 ∨ i = 1 ∨ i = 2 := by omega
  rcases w with rfl | rfl | rfl
  · rw [if_pos ⟨hi, e⟩] at h; exact absurd h (by decide)
  · split at h
    · exact absurd h (by decide)
    · rw [if_pos ⟨hi, e⟩] at h; exact absurd h (by decide)
  · split at h
    · exact absurd h (by decide)
    split at h
    · exact absurd h (by decide)
    · rw [if_pos ⟨hi, e⟩] at h; exact absurd h (by decide)
def own_Dis (a t1 t2 t3 : Addr) : Prop := a ≠ t1 ∧ a ≠ t2 ∧ a ≠ t3 ∧ t1 ≠ t2 ∧ t1 ≠ t3 ∧ t2 ≠ t3
theorem own_pn6 : plainName "com/example/rhizome/rhizome/tableau/Label" = true := by first | (simp [plainName, overriddenIn]; done) | decide +kernel
theorem d6_0 : decode prog_11_method_14_code 0 = .ok (.iload_n 0, 1) := by decide +kernel
theorem d6_1 : decode prog_11_method_14_code 1 = .ok (.ldc 63, 2) := by decide +kernel
theorem d6_3 : decode prog_11_method_14_code 3 = .ok (.imul, 1) := by decide +kernel
theorem d6_4 : decode prog_11_method_14_code 4 = .ok (.istore_n 1, 1) := by decide +kernel
theorem d6_5 : decode prog_11_method_14_code 5 = .ok (.iload_n 1, 1) := by decide +kernel
theorem d6_6 : decode prog_11_method_14_code 6 = .ok (.iload_n 1, 1) := by decide +kernel
theorem d6_7 : decode prog_11_method_14_code 7 = .ok (.bipush 16, 2) := by decide +kernel
theorem d6_9 : decode prog_11_method_14_code 9 = .ok (.iushr, 1) := by decide +kernel
theorem d6_10 : decode prog_11_method_14_code 10 = .ok (.ixor, 1) := by decide +kernel
theorem d6_11 : decode prog_11_method_14_code 11 = .ok (.ireturn, 1) := by decide +kernel
set_option maxRecDepth 65536 in
set_option maxHeartbeats 40000000 in
theorem rmH (l : Launch) (Z : State) (a0 : Array Value) (hw : ∀ d ∈ tables_1, d.before a0 Z = true) (p1 : Int32) (h0 : Heap) (n0 : Nat) (Z0 : n0 ≤ h0.size)  :
    own_Met l Z (⟨"com/example/rhizome/rhizome/tableau/Label", "hash", "(I)I"⟩ : MethodName) prog_11_method_14_code 2 (some .int) ({ frames := 0, cells := 0, slots := 0, locals := 0 } : Room) #[(.int p1)] h0 (own_QI (own_hs p1) h0 n0) := by
  refine own_enter (plainFor_of_name own_pn6) (fun m => by first | (simp [entryFrame, mkF, argsToLocals, Value.category, maxLocals]; done) | rfl) (Ls := #[.val (.int p1), .unset]) ?_
  intro p e s m below meth c T0 K X0 e0
  have hx := K.1
  have hZ := K.2.1
  have hby := K.2.2.1
  have hown := K.2.2.2.2.1
  have N0 := Fr.nil n0
  show own_Fin p e below _ T0 (mkF m 0 #[.val (.int p1), .unset] [])
  refine own_seg (T' := T0) (g' := (mkF m 11 #[.val (.int p1), .val (.int (p1 * (-1640531527 : Int32)))] [(.int ((p1 * (-1640531527 : Int32)) ^^^ (((p1 * (-1640531527 : Int32)).toUInt32 >>> ((16 : Int32) &&& 31).toUInt32).toInt32)))])) (fun tg kt => ?_) ?_
  · show Steps p.tables e below (T0.setTop (mkF m 0 #[.val (.int p1), .unset] [])) tg
    refine XS.iloadN X0.here hx rfl (hb hby d6_0) rfl ?_
    show Steps p.tables e below (T0.setTop (mkF m 1 #[.val (.int p1), .unset] [(.int p1)])) tg
    refine X0.ldcInt hx hown (mvT hZ (hw _ (List.mem_of_getElem? (i := 39) rfl))) (g := (mkF m 1 #[.val (.int p1), .unset] [(.int p1)])) rfl (hb hby d6_1) _ ?_
    show Steps p.tables e below (T0.setTop (mkF m 3 #[.val (.int p1), .unset] [(.int (-1640531527 : Int32)), (.int p1)])) tg
    refine XS.imul X0.here hx rfl (hb hby d6_3) rfl ?_
    show Steps p.tables e below (T0.setTop (mkF m 4 #[.val (.int p1), .unset] [(.int (p1 * (-1640531527 : Int32)))])) tg
    refine XS.istoreN X0.here hx rfl (hb hby d6_4) rfl (l' := #[.val (.int p1), .val (.int (p1 * (-1640531527 : Int32)))]) rfl ?_
    show Steps p.tables e below (T0.setTop (mkF m 5 #[.val (.int p1), .val (.int (p1 * (-1640531527 : Int32)))] [])) tg
    refine XS.iloadN X0.here hx rfl (hb hby d6_5) rfl ?_
    show Steps p.tables e below (T0.setTop (mkF m 6 #[.val (.int p1), .val (.int (p1 * (-1640531527 : Int32)))] [(.int (p1 * (-1640531527 : Int32)))])) tg
    refine XS.iloadN X0.here hx rfl (hb hby d6_6) rfl ?_
    show Steps p.tables e below (T0.setTop (mkF m 7 #[.val (.int p1), .val (.int (p1 * (-1640531527 : Int32)))] [(.int (p1 * (-1640531527 : Int32))), (.int (p1 * (-1640531527 : Int32)))])) tg
    refine XS.bipush X0.here hx rfl (hb hby d6_7) ?_
    show Steps p.tables e below (T0.setTop (mkF m 9 #[.val (.int p1), .val (.int (p1 * (-1640531527 : Int32)))] [(.int (16 : Int32)), (.int (p1 * (-1640531527 : Int32))), (.int (p1 * (-1640531527 : Int32)))])) tg
    refine XS.iushr X0.here hx rfl (hb hby d6_9) rfl ?_
    show Steps p.tables e below (T0.setTop (mkF m 10 #[.val (.int p1), .val (.int (p1 * (-1640531527 : Int32)))] [(.int (((p1 * (-1640531527 : Int32)).toUInt32 >>> ((16 : Int32) &&& 31).toUInt32).toInt32)), (.int (p1 * (-1640531527 : Int32)))])) tg
    refine XS.ixor X0.here hx rfl (hb hby d6_10) rfl ?_
    exact kt
  exact own_retI K X0 d6_11 (⟨rfl, N0, e0⟩) (by decide) (by decide)
def QI (Z : State) (a1 : Addr) (h0 : Heap) (n0 : Nat) (v : Option Value) (h : Heap) (L : List Loc) : Prop := ∃ t1 t2 t3 : Addr, v = none ∧ Fr n0 L ∧ Keep h0 h [a1] ∧ own_Dis a1 t1 t2 t3 ∧ n0 ≤ t1 ∧ n0 ≤ t2 ∧ n0 ≤ t3 ∧ own_Obj Z h a1 "com/example/rhizome/rhizome/tableau/Label" [("com/example/rhizome/rhizome/tableau/Label", "concepts", "[I", (.ref t1)), ("com/example/rhizome/rhizome/tableau/Label", "dependencies", "[Lcom/example/rhizome/rhizome/tableau/DependencySet;", (.ref t2)), ("com/example/rhizome/rhizome/tableau/Label", "slots", "[I", (.ref t3)), ("com/example/rhizome/rhizome/tableau/Label", "size", "I", (.int (Int32.ofNat 0)))] ∧ own_Arr Z h t1 .int (own_L 16 (fun _ => 0)) ∧ own_RArr Z h t2 "com/example/rhizome/rhizome/tableau/DependencySet" 16 ∧ own_Arr Z h t3 .int (own_L 32 (own_F (fun _ => 0)))
theorem own_pn1 : plainName "com/example/rhizome/rhizome/tableau/Label" = true := by first | (simp [plainName, overriddenIn]; done) | decide +kernel
theorem d1_0 : decode prog_11_method_1_code 0 = .ok (.aload_n 0, 1) := by decide +kernel
theorem d1_1 : decode prog_11_method_1_code 1 = .ok (.invokespecial 1, 3) := by decide +kernel
theorem d1_4 : decode prog_11_method_1_code 4 = .ok (.aload_n 0, 1) := by decide +kernel
theorem d1_5 : decode prog_11_method_1_code 5 = .ok (.bipush 16, 2) := by decide +kernel
theorem d1_7 : decode prog_11_method_1_code 7 = .ok (.newarray .int, 2) := by decide +kernel
theorem d1_9 : decode prog_11_method_1_code 9 = .ok (.putfield 7, 3) := by decide +kernel
theorem own_lay_Label {Z : State} {a0 : Array Value} (hw : ∀ d ∈ tables_1, d.before a0 Z = true) : own_Lay Z a0 "com/example/rhizome/rhizome/tableau/Label" [("com/example/rhizome/rhizome/tableau/Label", "concepts", "[I"), ("com/example/rhizome/rhizome/tableau/Label", "dependencies", "[Lcom/example/rhizome/rhizome/tableau/DependencySet;"), ("com/example/rhizome/rhizome/tableau/Label", "slots", "[I"), ("com/example/rhizome/rhizome/tableau/Label", "size", "I")] := by
  intro q hq
  simp only [List.mem_cons, List.not_mem_nil, or_false] at hq
  rcases hq with rfl | rfl | rfl | rfl
  · exact ⟨Or.inl (hw _ (List.mem_of_getElem? (i := 11) rfl)), _, (by decide : parseFieldDescriptor "[I" = some (.array .int))⟩
  · exact ⟨Or.inl (hw _ (List.mem_of_getElem? (i := 15) rfl)), _, (by decide : parseFieldDescriptor "[Lcom/example/rhizome/rhizome/tableau/DependencySet;" = some (.array (.object "com/example/rhizome/rhizome/tableau/DependencySet")))⟩
  · exact ⟨Or.inl (hw _ (List.mem_of_getElem? (i := 17) rfl)), _, (by decide : parseFieldDescriptor "[I" = some (.array .int))⟩
  · exact ⟨Or.inl (hw _ (List.mem_of_getElem? (i := 41) rfl)), _, (by decide : parseFieldDescriptor "I" = some .int)⟩
theorem own_nd_Label : ((([("com/example/rhizome/rhizome/tableau/Label", "concepts", "[I"), ("com/example/rhizome/rhizome/tableau/Label", "dependencies", "[Lcom/example/rhizome/rhizome/tableau/DependencySet;"), ("com/example/rhizome/rhizome/tableau/Label", "slots", "[I"), ("com/example/rhizome/rhizome/tableau/Label", "size", "I")] : List (String × String × String))).map (fun q => q.2.1)).Nodup := by decide +kernel
theorem d1_12 : decode prog_11_method_1_code 12 = .ok (.aload_n 0, 1) := by decide +kernel
theorem d1_13 : decode prog_11_method_1_code 13 = .ok (.bipush 16, 2) := by decide +kernel
theorem d1_15 : decode prog_11_method_1_code 15 = .ok (.anewarray 13, 3) := by decide +kernel
theorem d1_18 : decode prog_11_method_1_code 18 = .ok (.putfield 15, 3) := by decide +kernel
theorem d1_21 : decode prog_11_method_1_code 21 = .ok (.aload_n 0, 1) := by decide +kernel
theorem d1_22 : decode prog_11_method_1_code 22 = .ok (.bipush 32, 2) := by decide +kernel
theorem d1_24 : decode prog_11_method_1_code 24 = .ok (.newarray .int, 2) := by decide +kernel
theorem d1_26 : decode prog_11_method_1_code 26 = .ok (.putfield 19, 3) := by decide +kernel
theorem d1_29 : decode prog_11_method_1_code 29 = .ok (.return_, 1) := by decide +kernel
set_option maxRecDepth 65536 in
set_option maxHeartbeats 40000000 in
theorem rmI (l : Launch) (Z : State) (a0 : Array Value) (hw : ∀ d ∈ tables_1, d.before a0 Z = true) (a1 : Addr) (h0 : Heap) (n0 : Nat) (Z0 : n0 ≤ h0.size) (f_a1 : n0 ≤ a1) (O_a1 : own_Obj Z h0 a1 "com/example/rhizome/rhizome/tableau/Label" [("com/example/rhizome/rhizome/tableau/Label", "concepts", "[I", .null), ("com/example/rhizome/rhizome/tableau/Label", "dependencies", "[Lcom/example/rhizome/rhizome/tableau/DependencySet;", .null), ("com/example/rhizome/rhizome/tableau/Label", "slots", "[I", .null), ("com/example/rhizome/rhizome/tableau/Label", "size", "I", (.int (0 : Int32)))]) :
    own_Met l Z (⟨"com/example/rhizome/rhizome/tableau/Label", "<init>", "()V"⟩ : MethodName) prog_11_method_1_code 1 none ({ frames := 1, cells := 3, slots := 64, locals := 16 } : Room) #[(.ref a1)] h0 (QI Z a1 h0 n0) := by
  refine own_enter (plainFor_of_name own_pn1) (fun m => by first | (simp [entryFrame, mkF, argsToLocals, Value.category, maxLocals]; done) | rfl) (Ls := #[.val (.ref a1)]) ?_
  intro p e s m below meth c T0 K X0 e0
  have hx := K.1
  have hZ := K.2.1
  have hby := K.2.2.1
  have hown := K.2.2.2.2.1
  have N0 := Fr.nil n0
  have K0 : Keep h0 h0 [a1] := Keep.refl _ _
  show own_Fin p e below _ T0 (mkF m 0 #[.val (.ref a1)] [])
  refine own_seg (T' := T0) (g' := (mkF m 1 #[.val (.ref a1)] [(.ref a1)])) (fun tg kt => ?_) ?_
  · show Steps p.tables e below (T0.setTop (mkF m 0 #[.val (.ref a1)] [])) tg
    refine XS.aloadN X0.here hx rfl (hb hby d1_0) rfl rfl ?_
    exact kt
  refine own_initO K X0 e0 (hw _ (List.mem_of_getElem? (i := 6) rfl)) (hw _ (List.mem_of_getElem? (i := 7) rfl)) (hw _ (List.mem_of_getElem? (i := 8) rfl)) rfl d1_1 (by decide) (Nat.le_of_ble_eq_true rfl) ?_
  intro T1 X1 e1
  show own_Fin p e below _ T1 (mkF m 4 #[.val (.ref a1)] [])
  refine own_seg (T' := T1) (g' := (mkF m 7 #[.val (.ref a1)] [(.int (16 : Int32)), (.ref a1)])) (fun tg kt => ?_) ?_
  · show Steps p.tables e below (T1.setTop (mkF m 4 #[.val (.ref a1)] [])) tg
    refine XS.aloadN X1.here hx rfl (hb hby d1_4) rfl rfl ?_
    show Steps p.tables e below (T1.setTop (mkF m 5 #[.val (.ref a1)] [(.ref a1)])) tg
    refine XS.bipush X1.here hx rfl (hb hby d1_5) ?_
    exact kt
  refine own_newP K X1 e1 (hw _ (List.mem_of_getElem? (i := 9) rfl)) (by decide) 16 (by decide) (by decide) d1_7 (by decide) (by decide) ?_
  intro T2 h2 b2 g2 X2 e2 E2 A2
  have ne_a1_b2 : a1 ≠ b2 := Nat.ne_of_lt (Nat.lt_of_lt_of_eq O_a1.lt g2.symm)
  have ne_b2_a1 := ne_a1_b2.symm
  have O_a1_2 : own_Obj Z h2 a1 "com/example/rhizome/rhizome/tableau/Label" [("com/example/rhizome/rhizome/tableau/Label", "concepts", "[I", .null), ("com/example/rhizome/rhizome/tableau/Label", "dependencies", "[Lcom/example/rhizome/rhizome/tableau/DependencySet;", .null), ("com/example/rhizome/rhizome/tableau/Label", "slots", "[I", .null), ("com/example/rhizome/rhizome/tableau/Label", "size", "I", (.int (0 : Int32)))] := O_a1.ext E2
  have f_b2 : n0 ≤ b2 := Nat.le_trans Z0 (Nat.le_of_eq g2.symm)
  have Z2 : n0 ≤ h2.size := Nat.le_trans Z0 E2.1
  have sz_b2 : h0.size ≤ b2 := Nat.le_trans K0.1 (Nat.le_of_eq g2.symm)
  have K2 := K0.ext E2
  have O_b2_2 : own_Arr Z h2 b2 .int (own_L 16 (fun _ => 0)) := own_L_rep 16 ▸ A2
  show own_Fin p e below _ T2 (mkF m 9 #[.val (.ref a1)] [(.ref b2), (.ref a1)])
  refine own_putF K X2 e2 (host := "") (Or.inl (hw _ (List.mem_of_getElem? (i := 10) rfl))) Via.refl (O_a1_2.get 0 rfl) O_a1_2.exa (Or.inl (hw _ (List.mem_of_getElem? (i := 11) rfl))) (hw _ (List.mem_of_getElem? (i := 1) rfl)) (ty := (.array .int)) (by decide) rfl rfl d1_9 ?_
  intro T3 h3 X3 e3 W3
  have O_b2_3 : own_Arr Z h3 b2 .int (own_L 16 (fun _ => 0)) := O_b2_2.other W3 ne_b2_a1
  have O_a1_3 : own_Obj Z h3 a1 "com/example/rhizome/rhizome/tableau/Label" [("com/example/rhizome/rhizome/tableau/Label", "concepts", "[I", (.ref b2)), ("com/example/rhizome/rhizome/tableau/Label", "dependencies", "[Lcom/example/rhizome/rhizome/tableau/DependencySet;", .null), ("com/example/rhizome/rhizome/tableau/Label", "slots", "[I", .null), ("com/example/rhizome/rhizome/tableau/Label", "size", "I", (.int (0 : Int32)))] := O_a1_2.put (own_lay_Label hw) rfl own_nd_Label 0 rfl W3
  have Z3 : n0 ≤ h3.size := by rw [Wr.size W3]; exact Z2
  have N3 := Fr.snoc X3 N0 f_a1
  have K3 := K2.wr W3 (Or.inl (List.mem_of_getElem? (i := 0) rfl))
  show own_Fin p e below _ T3 (mkF m 12 #[.val (.ref a1)] [])
  refine own_seg (T' := T3) (g' := (mkF m 15 #[.val (.ref a1)] [(.int (16 : Int32)), (.ref a1)])) (fun tg kt => ?_) ?_
  · show Steps p.tables e below (T3.setTop (mkF m 12 #[.val (.ref a1)] [])) tg
    refine XS.aloadN X3.here hx rfl (hb hby d1_12) rfl rfl ?_
    show Steps p.tables e below (T3.setTop (mkF m 13 #[.val (.ref a1)] [(.ref a1)])) tg
    refine XS.bipush X3.here hx rfl (hb hby d1_13) ?_
    exact kt
  refine own_newR K X3 e3 (hw _ (List.mem_of_getElem? (i := 12) rfl)) (hw _ (List.mem_of_getElem? (i := 13) rfl)) (by decide) 16 (by decide) (by decide) d1_15 (by decide) (by decide) ?_
  intro T4 h4 b4 g4 X4 e4 E4 A4
  have ne_a1_b4 : a1 ≠ b4 := Nat.ne_of_lt (Nat.lt_of_lt_of_eq O_a1_3.lt g4.symm)
  have ne_b4_a1 := ne_a1_b4.symm
  have ne_b2_b4 : b2 ≠ b4 := Nat.ne_of_lt (Nat.lt_of_lt_of_eq O_b2_3.lt g4.symm)
  have ne_b4_b2 := ne_b2_b4.symm
  have O_a1_4 : own_Obj Z h4 a1 "com/example/rhizome/rhizome/tableau/Label" [("com/example/rhizome/rhizome/tableau/Label", "concepts", "[I", (.ref b2)), ("com/example/rhizome/rhizome/tableau/Label", "dependencies", "[Lcom/example/rhizome/rhizome/tableau/DependencySet;", .null), ("com/example/rhizome/rhizome/tableau/Label", "slots", "[I", .null), ("com/example/rhizome/rhizome/tableau/Label", "size", "I", (.int (0 : Int32)))] := O_a1_3.ext E4
  have O_b2_4 : own_Arr Z h4 b2 .int (own_L 16 (fun _ => 0)) := O_b2_3.ext E4
  have f_b4 : n0 ≤ b4 := Nat.le_trans Z3 (Nat.le_of_eq g4.symm)
  have Z4 : n0 ≤ h4.size := Nat.le_trans Z3 E4.1
  have sz_b4 : h0.size ≤ b4 := Nat.le_trans K3.1 (Nat.le_of_eq g4.symm)
  have K4 := K3.ext E4
  show own_Fin p e below _ T4 (mkF m 18 #[.val (.ref a1)] [(.ref b4), (.ref a1)])
  refine own_putF K X4 e4 (host := "") (Or.inl (hw _ (List.mem_of_getElem? (i := 14) rfl))) Via.refl (O_a1_4.get 1 rfl) O_a1_4.exa (Or.inl (hw _ (List.mem_of_getElem? (i := 15) rfl))) (hw _ (List.mem_of_getElem? (i := 1) rfl)) (ty := (.array (.object "com/example/rhizome/rhizome/tableau/DependencySet"))) (by decide) rfl rfl d1_18 ?_
  intro T5 h5 X5 e5 W5
  have O_b2_5 : own_Arr Z h5 b2 .int (own_L 16 (fun _ => 0)) := O_b2_4.other W5 ne_b2_a1
  have O_b4_5 : own_RArr Z h5 b4 "com/example/rhizome/rhizome/tableau/DependencySet" 16 := A4.other W5 ne_b4_a1
  have O_a1_5 : own_Obj Z h5 a1 "com/example/rhizome/rhizome/tableau/Label" [("com/example/rhizome/rhizome/tableau/Label", "concepts", "[I", (.ref b2)), ("com/example/rhizome/rhizome/tableau/Label", "dependencies", "[Lcom/example/rhizome/rhizome/tableau/DependencySet;", (.ref b4)), ("com/example/rhizome/rhizome/tableau/Label", "slots", "[I", .null), ("com/example/rhizome/rhizome/tableau/Label", "size", "I", (.int (0 : Int32)))] := O_a1_4.put (own_lay_Label hw) rfl own_nd_Label 1 rfl W5
  have Z5 : n0 ≤ h5.size := by rw [Wr.size W5]; exact Z4
  have N5 := Fr.snoc X5 N3 f_a1
  have K5 := K4.wr W5 (Or.inl (List.mem_of_getElem? (i := 0) rfl))
  show own_Fin p e below _ T5 (mkF m 21 #[.val (.ref a1)] [])
  refine own_seg (T' := T5) (g' := (mkF m 24 #[.val (.ref a1)] [(.int (32 : Int32)), (.ref a1)])) (fun tg kt => ?_) ?_
  · show Steps p.tables e below (T5.setTop (mkF m 21 #[.val (.ref a1)] [])) tg
    refine XS.aloadN X5.here hx rfl (hb hby d1_21) rfl rfl ?_
    show Steps p.tables e below (T5.setTop (mkF m 22 #[.val (.ref a1)] [(.ref a1)])) tg
    refine XS.bipush X5.here hx rfl (hb hby d1_22) ?_
    exact kt
  refine own_newP K X5 e5 (hw _ (List.mem_of_getElem? (i := 9) rfl)) (by decide) 32 (by decide) (by decide) d1_24 (by decide) (by decide) ?_
  intro T6 h6 b6 g6 X6 e6 E6 A6
  have ne_a1_b6 : a1 ≠ b6 := Nat.ne_of_lt (Nat.lt_of_lt_of_eq O_a1_5.lt g6.symm)
  have ne_b6_a1 := ne_a1_b6.symm
  have ne_b2_b6 : b2 ≠ b6 := Nat.ne_of_lt (Nat.lt_of_lt_of_eq O_b2_5.lt g6.symm)
  have ne_b6_b2 := ne_b2_b6.symm
  have ne_b4_b6 : b4 ≠ b6 := Nat.ne_of_lt (Nat.lt_of_lt_of_eq O_b4_5.lt g6.symm)
  have ne_b6_b4 := ne_b4_b6.symm
  have O_a1_6 : own_Obj Z h6 a1 "com/example/rhizome/rhizome/tableau/Label" [("com/example/rhizome/rhizome/tableau/Label", "concepts", "[I", (.ref b2)), ("com/example/rhizome/rhizome/tableau/Label", "dependencies", "[Lcom/example/rhizome/rhizome/tableau/DependencySet;", (.ref b4)), ("com/example/rhizome/rhizome/tableau/Label", "slots", "[I", .null), ("com/example/rhizome/rhizome/tableau/Label", "size", "I", (.int (0 : Int32)))] := O_a1_5.ext E6
  have O_b2_6 : own_Arr Z h6 b2 .int (own_L 16 (fun _ => 0)) := O_b2_5.ext E6
  have O_b4_6 : own_RArr Z h6 b4 "com/example/rhizome/rhizome/tableau/DependencySet" 16 := O_b4_5.ext E6
  have f_b6 : n0 ≤ b6 := Nat.le_trans Z5 (Nat.le_of_eq g6.symm)
  have Z6 : n0 ≤ h6.size := Nat.le_trans Z5 E6.1
  have sz_b6 : h0.size ≤ b6 := Nat.le_trans K5.1 (Nat.le_of_eq g6.symm)
  have K6 := K5.ext E6
  have O_b6_6 : own_Arr Z h6 b6 .int (own_L 32 (own_F (fun _ => 0))) := own_L_rep 32 ▸ A6
  show own_Fin p e below _ T6 (mkF m 26 #[.val (.ref a1)] [(.ref b6), (.ref a1)])
  refine own_putF K X6 e6 (host := "") (Or.inl (hw _ (List.mem_of_getElem? (i := 16) rfl))) Via.refl (O_a1_6.get 2 rfl) O_a1_6.exa (Or.inl (hw _ (List.mem_of_getElem? (i := 17) rfl))) (hw _ (List.mem_of_getElem? (i := 1) rfl)) (ty := (.array .int)) (by decide) rfl rfl d1_26 ?_
  intro T7 h7 X7 e7 W7
  have O_b2_7 : own_Arr Z h7 b2 .int (own_L 16 (fun _ => 0)) := O_b2_6.other W7 ne_b2_a1
  have O_b4_7 : own_RArr Z h7 b4 "com/example/rhizome/rhizome/tableau/DependencySet" 16 := O_b4_6.other W7 ne_b4_a1
  have O_b6_7 : own_Arr Z h7 b6 .int (own_L 32 (own_F (fun _ => 0))) := O_b6_6.other W7 ne_b6_a1
  have O_a1_7 : own_Obj Z h7 a1 "com/example/rhizome/rhizome/tableau/Label" [("com/example/rhizome/rhizome/tableau/Label", "concepts", "[I", (.ref b2)), ("com/example/rhizome/rhizome/tableau/Label", "dependencies", "[Lcom/example/rhizome/rhizome/tableau/DependencySet;", (.ref b4)), ("com/example/rhizome/rhizome/tableau/Label", "slots", "[I", (.ref b6)), ("com/example/rhizome/rhizome/tableau/Label", "size", "I", (.int (0 : Int32)))] := O_a1_6.put (own_lay_Label hw) rfl own_nd_Label 2 rfl W7
  have Z7 : n0 ≤ h7.size := by rw [Wr.size W7]; exact Z6
  have N7 := Fr.snoc X7 N5 f_a1
  have K7 := K6.wr W7 (Or.inl (List.mem_of_getElem? (i := 0) rfl))
  show own_Fin p e below _ T7 (mkF m 29 #[.val (.ref a1)] [])
  exact own_retV K X7 d1_29 (by rw [e7]; exact ⟨b2, b4, b6, rfl, N7, K7, ⟨ne_a1_b2, ne_a1_b4, ne_a1_b6, ne_b2_b4, ne_b2_b6, ne_b4_b6⟩, f_b2, f_b4, f_b6, O_a1_7, O_b2_7, O_b4_7, O_b6_7⟩) (by decide) (by decide)
theorem d5_18 : decode prog_11_method_5_code 18 = .ok (.iload 4, 2) := by decide +kernel
theorem d5_20 : decode prog_11_method_5_code 20 = .ok (.ifCond .ge 48, 3) := by decide +kernel
theorem d5_23 : decode prog_11_method_5_code 23 = .ok (.aload_n 0, 1) := by decide +kernel
theorem d5_24 : decode prog_11_method_5_code 24 = .ok (.getfield 19, 3) := by decide +kernel
theorem d5_27 : decode prog_11_method_5_code 27 = .ok (.iload_n 3, 1) := by decide +kernel
theorem d5_28 : decode prog_11_method_5_code 28 = .ok (.iaload, 1) := by decide +kernel
theorem d5_29 : decode prog_11_method_5_code 29 = .ok (.ifCond .eq 39, 3) := by decide +kernel
theorem d5_68 : decode prog_11_method_5_code 68 = .ok (.iload 4, 2) := by decide +kernel
theorem d5_70 : decode prog_11_method_5_code 70 = .ok (.ireturn, 1) := by decide +kernel
theorem d5_32 : decode prog_11_method_5_code 32 = .ok (.aload_n 0, 1) := by decide +kernel
theorem d5_33 : decode prog_11_method_5_code 33 = .ok (.getfield 7, 3) := by decide +kernel
theorem d5_36 : decode prog_11_method_5_code 36 = .ok (.aload_n 0, 1) := by decide +kernel
theorem d5_37 : decode prog_11_method_5_code 37 = .ok (.getfield 19, 3) := by decide +kernel
theorem d5_40 : decode prog_11_method_5_code 40 = .ok (.iload_n 3, 1) := by decide +kernel
theorem d5_41 : decode prog_11_method_5_code 41 = .ok (.iaload, 1) := by decide +kernel
theorem d5_42 : decode prog_11_method_5_code 42 = .ok (.iconst 1, 1) := by decide +kernel
theorem d5_43 : decode prog_11_method_5_code 43 = .ok (.isub, 1) := by decide +kernel
theorem d5_44 : decode prog_11_method_5_code 44 = .ok (.iaload, 1) := by decide +kernel
theorem d5_45 : decode prog_11_method_5_code 45 = .ok (.iload_n 1, 1) := by decide +kernel
theorem d5_46 : decode prog_11_method_5_code 46 = .ok (.if_icmp .ne 13, 3) := by decide +kernel
theorem d5_49 : decode prog_11_method_5_code 49 = .ok (.aload_n 0, 1) := by decide +kernel
theorem d5_50 : decode prog_11_method_5_code 50 = .ok (.getfield 19, 3) := by decide +kernel
theorem d5_53 : decode prog_11_method_5_code 53 = .ok (.iload_n 3, 1) := by decide +kernel
theorem d5_54 : decode prog_11_method_5_code 54 = .ok (.iaload, 1) := by decide +kernel
theorem d5_55 : decode prog_11_method_5_code 55 = .ok (.iconst 1, 1) := by decide +kernel
theorem d5_56 : decode prog_11_method_5_code 56 = .ok (.isub, 1) := by decide +kernel
theorem d5_57 : decode prog_11_method_5_code 57 = .ok (.istore 4, 2) := by decide +kernel
theorem d5_59 : decode prog_11_method_5_code 59 = .ok (.iload_n 3, 1) := by decide +kernel
theorem d5_60 : decode prog_11_method_5_code 60 = .ok (.iconst 1, 1) := by decide +kernel
theorem d5_61 : decode prog_11_method_5_code 61 = .ok (.iadd, 1) := by decide +kernel
theorem d5_62 : decode prog_11_method_5_code 62 = .ok (.iload_n 2, 1) := by decide +kernel
theorem d5_63 : decode prog_11_method_5_code 63 = .ok (.iand, 1) := by decide +kernel
theorem d5_64 : decode prog_11_method_5_code 64 = .ok (.istore_n 3, 1) := by decide +kernel
theorem d5_65 : decode prog_11_method_5_code 65 = .ok (.goto (-47), 3) := by decide +kernel
set_option maxRecDepth 65536 in
set_option maxHeartbeats 40000000 in
theorem sgP {p : Program} {l : Launch} {e : Env} {s : State} {m : MethodId} {args : Array Value} {below : List Frame} {meth : Method} {c : Code} {T0 : State} {locs : List Loc} {Z : State} {a0 : Array Value} {h0 : Heap} {n0 : Nat} (hw : ∀ d ∈ tables_1, d.before a0 Z = true) (a1 t1 t2 t3 : Addr) (q : Int32) (n : Nat) (u : Nat → Nat) (g : Nat → Int32) (k F : Nat)
    (K : own_Ctx p Z s m meth c "com/example/rhizome/rhizome/tableau/Label" prog_11_method_5_code 5 (some .int) "position") (X0 : Stand p l e ({ frames := 1, cells := 0, slots := 0, locals := 20 } : Room) s m args below meth c T0 locs 0 0) (e0 : T0.heap = h0) (N0 : Fr n0 locs) (Z0 : n0 ≤ h0.size) (O_a1 : own_Obj Z h0 a1 "com/example/rhizome/rhizome/tableau/Label" [("com/example/rhizome/rhizome/tableau/Label", "concepts", "[I", (.ref t1)), ("com/example/rhizome/rhizome/tableau/Label", "dependencies", "[Lcom/example/rhizome/rhizome/tableau/DependencySet;", (.ref t2)), ("com/example/rhizome/rhizome/tableau/Label", "slots", "[I", (.ref t3)), ("com/example/rhizome/rhizome/tableau/Label", "size", "I", (.int (Int32.ofNat n)))]) (O_t1 : own_Arr Z h0 t1 .int (own_L 16 g)) (O_t2 : own_RArr Z h0 t2 "com/example/rhizome/rhizome/tableau/DependencySet" 16) (O_t3 : own_Arr Z h0 t3 .int (own_L 32 (own_F u)))(hu : ∀ k, k < 32 → u k ≤ 3) (hk : k < 32) (ih : ¬ Int32.ofNat (u k) = 0 → ¬ g (u k - 1) = q → ∀ (T0 : State) (locs : List Loc), Stand p l e ({ frames := 1, cells := 0, slots := 0, locals := 20 } : Room) s m args below meth c T0 locs 0 0 → T0.heap = h0 → Fr n0 locs → own_Fin p e below (own_P s ({ frames := 1, cells := 0, slots := 0, locals := 20 } : Room) (own_QI (own_pos u g q (F + 1) k) h0 n0)) T0 (mkF m 18 #[.val (.ref a1), .val (.int q), .val (.int (31 : Int32)), .val (.int ((Int32.ofNat k + (1 : Int32)) &&& (31 : Int32))), .val (.int (-1 : Int32))] [])) :
    own_Fin p e below (own_P s ({ frames := 1, cells := 0, slots := 0, locals := 20 } : Room) (own_QI (own_pos u g q (F + 1) k) h0 n0)) T0 (mkF m 18 #[.val (.ref a1), .val (.int q), .val (.int (31 : Int32)), .val (.int (Int32.ofNat k)), .val (.int (-1 : Int32))] []) := by
  have hx := K.1
  have hZ := K.2.1
  have hby := K.2.2.1
  have hown := K.2.2.2.2.1
  have huk := hu k hk
  refine own_seg (T' := T0) (g' := (mkF m 20 #[.val (.ref a1), .val (.int q), .val (.int (31 : Int32)), .val (.int (Int32.ofNat k)), .val (.int (-1 : Int32))] [(.int (-1 : Int32))])) (fun tg kt => ?_) ?_
  · show Steps p.tables e below (T0.setTop (mkF m 18 #[.val (.ref a1), .val (.int q), .val (.int (31 : Int32)), .val (.int (Int32.ofNat k)), .val (.int (-1 : Int32))] [])) tg
    refine XS.iload X0.here hx rfl (hb hby d5_18) rfl ?_
    exact kt
  have hc20 : (-1 : Int32) < (0 : Int32) := by decide
  refine own_seg (T' := T0) (g' := (mkF m 23 #[.val (.ref a1), .val (.int q), .val (.int (31 : Int32)), .val (.int (Int32.ofNat k)), .val (.int (-1 : Int32))] [])) (fun tg kt => XS.ifNo X0.here hx rfl (hb hby d5_20) rfl ((if0 _ _).trans (tlt hc20).2.1) kt) ?_
  refine own_seg (T' := T0) (g' := (mkF m 24 #[.val (.ref a1), .val (.int q), .val (.int (31 : Int32)), .val (.int (Int32.ofNat k)), .val (.int (-1 : Int32))] [(.ref a1)])) (fun tg kt => ?_) ?_
  · show Steps p.tables e below (T0.setTop (mkF m 23 #[.val (.ref a1), .val (.int q), .val (.int (31 : Int32)), .val (.int (Int32.ofNat k)), .val (.int (-1 : Int32))] [])) tg
    refine XS.aloadN X0.here hx rfl (hb hby d5_23) rfl rfl ?_
    exact kt
  refine own_getF K X0 e0 (host := "") (Or.inl (hw _ (List.mem_of_getElem? (i := 16) rfl))) Via.refl (O_a1.get 2 rfl) d5_24 ?_
  intro T1 X1 e1
  show own_Fin p e below _ T1 (mkF m 27 #[.val (.ref a1), .val (.int q), .val (.int (31 : Int32)), .val (.int (Int32.ofNat k)), .val (.int (-1 : Int32))] [(.ref t3)])
  refine own_seg (T' := T1) (g' := (mkF m 28 #[.val (.ref a1), .val (.int q), .val (.int (31 : Int32)), .val (.int (Int32.ofNat k)), .val (.int (-1 : Int32))] [(.int (Int32.ofNat k)), (.ref t3)])) (fun tg kt => ?_) ?_
  · show Steps p.tables e below (T1.setTop (mkF m 27 #[.val (.ref a1), .val (.int q), .val (.int (31 : Int32)), .val (.int (Int32.ofNat k)), .val (.int (-1 : Int32))] [(.ref t3)])) tg
    refine XS.iloadN X1.here hx rfl (hb hby d5_27) rfl ?_
    exact kt
  refine own_iaload K X1 e1 O_t3 (own_nn (by omega)) (own_Lat hk (by decide)) d5_28 ?_
  show own_Fin p e below _ T1 (mkF m 29 #[.val (.ref a1), .val (.int q), .val (.int (31 : Int32)), .val (.int (Int32.ofNat k)), .val (.int (-1 : Int32))] [(.int (Int32.ofNat (u k)))])
  by_cases hc29 : (Int32.ofNat (u k)) = (0 : Int32)
  · skip
    refine own_seg (T' := T1) (g' := (mkF m 68 #[.val (.ref a1), .val (.int q), .val (.int (31 : Int32)), .val (.int (Int32.ofNat k)), .val (.int (-1 : Int32))] [])) (fun tg kt => XS.ifYes X1.here hx rfl (pc0 := 29) (pc' := 68) rfl (hb hby d5_29) rfl ((if0 _ _).trans (teq hc29).1) (by decide) (by decide) kt) ?_
    refine own_seg (T' := T1) (g' := (mkF m 70 #[.val (.ref a1), .val (.int q), .val (.int (31 : Int32)), .val (.int (Int32.ofNat k)), .val (.int (-1 : Int32))] [(.int (-1 : Int32))])) (fun tg kt => ?_) ?_
    · show Steps p.tables e below (T1.setTop (mkF m 68 #[.val (.ref a1), .val (.int q), .val (.int (31 : Int32)), .val (.int (Int32.ofNat k)), .val (.int (-1 : Int32))] [])) tg
      refine XS.iload X1.here hx rfl (hb hby d5_68) rfl ?_
      exact kt
    exact own_retI K X1 d5_70 (⟨by rw [own_pos, if_pos ((own_ofz (by omega)).mp hc29)], N0, e1⟩) (by decide) (by decide)
  · skip
    refine own_seg (T' := T1) (g' := (mkF m 32 #[.val (.ref a1), .val (.int q), .val (.int (31 : Int32)), .val (.int (Int32.ofNat k)), .val (.int (-1 : Int32))] [])) (fun tg kt => XS.ifNo X1.here hx rfl (hb hby d5_29) rfl ((if0 _ _).trans (feq hc29).1) kt) ?_
    have huk := hu k hk
    have hsub : Int32.ofNat (u k) - 1 = Int32.ofNat (u k - 1) := own_sub1' (by omega) (fun z => hc29 ((own_ofz (by omega)).mpr z))
    refine own_seg (T' := T1) (g' := (mkF m 33 #[.val (.ref a1), .val (.int q), .val (.int (31 : Int32)), .val (.int (Int32.ofNat k)), .val (.int (-1 : Int32))] [(.ref a1)])) (fun tg kt => ?_) ?_
    · show Steps p.tables e below (T1.setTop (mkF m 32 #[.val (.ref a1), .val (.int q), .val (.int (31 : Int32)), .val (.int (Int32.ofNat k)), .val (.int (-1 : Int32))] [])) tg
      refine XS.aloadN X1.here hx rfl (hb hby d5_32) rfl rfl ?_
      exact kt
    refine own_getF K X1 e1 (host := "") (Or.inl (hw _ (List.mem_of_getElem? (i := 10) rfl))) Via.refl (O_a1.get 0 rfl) d5_33 ?_
    intro T3 X3 e3
    show own_Fin p e below _ T3 (mkF m 36 #[.val (.ref a1), .val (.int q), .val (.int (31 : Int32)), .val (.int (Int32.ofNat k)), .val (.int (-1 : Int32))] [(.ref t1)])
    refine own_seg (T' := T3) (g' := (mkF m 37 #[.val (.ref a1), .val (.int q), .val (.int (31 : Int32)), .val (.int (Int32.ofNat k)), .val (.int (-1 : Int32))] [(.ref a1), (.ref t1)])) (fun tg kt => ?_) ?_
    · show Steps p.tables e below (T3.setTop (mkF m 36 #[.val (.ref a1), .val (.int q), .val (.int (31 : Int32)), .val (.int (Int32.ofNat k)), .val (.int (-1 : Int32))] [(.ref t1)])) tg
      refine XS.aloadN X3.here hx rfl (hb hby d5_36) rfl rfl ?_
      exact kt
    refine own_getF K X3 e3 (host := "") (Or.inl (hw _ (List.mem_of_getElem? (i := 16) rfl))) Via.refl (O_a1.get 2 rfl) d5_37 ?_
    intro T4 X4 e4
    show own_Fin p e below _ T4 (mkF m 40 #[.val (.ref a1), .val (.int q), .val (.int (31 : Int32)), .val (.int (Int32.ofNat k)), .val (.int (-1 : Int32))] [(.ref t3), (.ref t1)])
    refine own_seg (T' := T4) (g' := (mkF m 41 #[.val (.ref a1), .val (.int q), .val (.int (31 : Int32)), .val (.int (Int32.ofNat k)), .val (.int (-1 : Int32))] [(.int (Int32.ofNat k)), (.ref t3), (.ref t1)])) (fun tg kt => ?_) ?_
    · show Steps p.tables e below (T4.setTop (mkF m 40 #[.val (.ref a1), .val (.int q), .val (.int (31 : Int32)), .val (.int (Int32.ofNat k)), .val (.int (-1 : Int32))] [(.ref t3), (.ref t1)])) tg
      refine XS.iloadN X4.here hx rfl (hb hby d5_40) rfl ?_
      exact kt
    refine own_iaload K X4 e4 O_t3 (own_nn (by omega)) (own_Lat hk (by decide)) d5_41 ?_
    show own_Fin p e below _ T4 (mkF m 42 #[.val (.ref a1), .val (.int q), .val (.int (31 : Int32)), .val (.int (Int32.ofNat k)), .val (.int (-1 : Int32))] [(.int (Int32.ofNat (u k))), (.ref t1)])
    refine own_seg (T' := T4) (g' := (mkF m 44 #[.val (.ref a1), .val (.int q), .val (.int (31 : Int32)), .val (.int (Int32.ofNat k)), .val (.int (-1 : Int32))] [(.int ((Int32.ofNat (u k)) - (1 : Int32))), (.ref t1)])) (fun tg kt => ?_) ?_
    · show Steps p.tables e below (T4.setTop (mkF m 42 #[.val (.ref a1), .val (.int q), .val (.int (31 : Int32)), .val (.int (Int32.ofNat k)), .val (.int (-1 : Int32))] [(.int (Int32.ofNat (u k))), (.ref t1)])) tg
      refine XS.iconst X4.here hx rfl (hb hby d5_42) ?_
      show Steps p.tables e below (T4.setTop (mkF m 43 #[.val (.ref a1), .val (.int q), .val (.int (31 : Int32)), .val (.int (Int32.ofNat k)), .val (.int (-1 : Int32))] [(.int (1 : Int32)), (.int (Int32.ofNat (u k))), (.ref t1)])) tg
      refine XS.isub X4.here hx rfl (hb hby d5_43) rfl ?_
      exact kt
    refine own_iaload K X4 e4 O_t1 (by rw [hsub]; exact own_nn (by omega)) (by rw [hsub]; exact own_Lat (by omega) (by decide)) d5_44 ?_
    show own_Fin p e below _ T4 (mkF m 45 #[.val (.ref a1), .val (.int q), .val (.int (31 : Int32)), .val (.int (Int32.ofNat k)), .val (.int (-1 : Int32))] [(.int (g (u k - 1)))])
    refine own_seg (T' := T4) (g' := (mkF m 46 #[.val (.ref a1), .val (.int q), .val (.int (31 : Int32)), .val (.int (Int32.ofNat k)), .val (.int (-1 : Int32))] [(.int q), (.int (g (u k - 1)))])) (fun tg kt => ?_) ?_
    · show Steps p.tables e below (T4.setTop (mkF m 45 #[.val (.ref a1), .val (.int q), .val (.int (31 : Int32)), .val (.int (Int32.ofNat k)), .val (.int (-1 : Int32))] [(.int (g (u k - 1)))])) tg
      refine XS.iloadN X4.here hx rfl (hb hby d5_45) rfl ?_
      exact kt
    by_cases hc46 : (g (u k - 1)) = q
    · skip
      refine own_seg (T' := T4) (g' := (mkF m 49 #[.val (.ref a1), .val (.int q), .val (.int (31 : Int32)), .val (.int (Int32.ofNat k)), .val (.int (-1 : Int32))] [])) (fun tg kt => XS.icmpNo X4.here hx rfl (hb hby d5_46) rfl (teq hc46).2 kt) ?_
      refine own_seg (T' := T4) (g' := (mkF m 50 #[.val (.ref a1), .val (.int q), .val (.int (31 : Int32)), .val (.int (Int32.ofNat k)), .val (.int (-1 : Int32))] [(.ref a1)])) (fun tg kt => ?_) ?_
      · show Steps p.tables e below (T4.setTop (mkF m 49 #[.val (.ref a1), .val (.int q), .val (.int (31 : Int32)), .val (.int (Int32.ofNat k)), .val (.int (-1 : Int32))] [])) tg
        refine XS.aloadN X4.here hx rfl (hb hby d5_49) rfl rfl ?_
        exact kt
      refine own_getF K X4 e4 (host := "") (Or.inl (hw _ (List.mem_of_getElem? (i := 16) rfl))) Via.refl (O_a1.get 2 rfl) d5_50 ?_
      intro T7 X7 e7
      show own_Fin p e below _ T7 (mkF m 53 #[.val (.ref a1), .val (.int q), .val (.int (31 : Int32)), .val (.int (Int32.ofNat k)), .val (.int (-1 : Int32))] [(.ref t3)])
      refine own_seg (T' := T7) (g' := (mkF m 54 #[.val (.ref a1), .val (.int q), .val (.int (31 : Int32)), .val (.int (Int32.ofNat k)), .val (.int (-1 : Int32))] [(.int (Int32.ofNat k)), (.ref t3)])) (fun tg kt => ?_) ?_
      · show Steps p.tables e below (T7.setTop (mkF m 53 #[.val (.ref a1), .val (.int q), .val (.int (31 : Int32)), .val (.int (Int32.ofNat k)), .val (.int (-1 : Int32))] [(.ref t3)])) tg
        refine XS.iloadN X7.here hx rfl (hb hby d5_53) rfl ?_
        exact kt
      refine own_iaload K X7 e7 O_t3 (own_nn (by omega)) (own_Lat hk (by decide)) d5_54 ?_
      show own_Fin p e below _ T7 (mkF m 55 #[.val (.ref a1), .val (.int q), .val (.int (31 : Int32)), .val (.int (Int32.ofNat k)), .val (.int (-1 : Int32))] [(.int (Int32.ofNat (u k)))])
      refine own_seg (T' := T7) (g' := (mkF m 18 #[.val (.ref a1), .val (.int q), .val (.int (31 : Int32)), .val (.int (((Int32.ofNat k) + (1 : Int32)) &&& (31 : Int32))), .val (.int ((Int32.ofNat (u k)) - (1 : Int32)))] [])) (fun tg kt => ?_) ?_
      · show Steps p.tables e below (T7.setTop (mkF m 55 #[.val (.ref a1), .val (.int q), .val (.int (31 : Int32)), .val (.int (Int32.ofNat k)), .val (.int (-1 : Int32))] [(.int (Int32.ofNat (u k)))])) tg
        refine XS.iconst X7.here hx rfl (hb hby d5_55) ?_
        show Steps p.tables e below (T7.setTop (mkF m 56 #[.val (.ref a1), .val (.int q), .val (.int (31 : Int32)), .val (.int (Int32.ofNat k)), .val (.int (-1 : Int32))] [(.int (1 : Int32)), (.int (Int32.ofNat (u k)))])) tg
        refine XS.isub X7.here hx rfl (hb hby d5_56) rfl ?_
        show Steps p.tables e below (T7.setTop (mkF m 57 #[.val (.ref a1), .val (.int q), .val (.int (31 : Int32)), .val (.int (Int32.ofNat k)), .val (.int (-1 : Int32))] [(.int ((Int32.ofNat (u k)) - (1 : Int32)))])) tg
        refine XS.istore X7.here hx rfl (hb hby d5_57) rfl (l' := #[.val (.ref a1), .val (.int q), .val (.int (31 : Int32)), .val (.int (Int32.ofNat k)), .val (.int ((Int32.ofNat (u k)) - (1 : Int32)))]) rfl ?_
        show Steps p.tables e below (T7.setTop (mkF m 59 #[.val (.ref a1), .val (.int q), .val (.int (31 : Int32)), .val (.int (Int32.ofNat k)), .val (.int ((Int32.ofNat (u k)) - (1 : Int32)))] [])) tg
        refine XS.iloadN X7.here hx rfl (hb hby d5_59) rfl ?_
        show Steps p.tables e below (T7.setTop (mkF m 60 #[.val (.ref a1), .val (.int q), .val (.int (31 : Int32)), .val (.int (Int32.ofNat k)), .val (.int ((Int32.ofNat (u k)) - (1 : Int32)))] [(.int (Int32.ofNat k))])) tg
        refine XS.iconst X7.here hx rfl (hb hby d5_60) ?_
        show Steps p.tables e below (T7.setTop (mkF m 61 #[.val (.ref a1), .val (.int q), .val (.int (31 : Int32)), .val (.int (Int32.ofNat k)), .val (.int ((Int32.ofNat (u k)) - (1 : Int32)))] [(.int (1 : Int32)), (.int (Int32.ofNat k))])) tg
        refine XS.iadd X7.here hx rfl (hb hby d5_61) rfl ?_
        show Steps p.tables e below (T7.setTop (mkF m 62 #[.val (.ref a1), .val (.int q), .val (.int (31 : Int32)), .val (.int (Int32.ofNat k)), .val (.int ((Int32.ofNat (u k)) - (1 : Int32)))] [(.int ((Int32.ofNat k) + (1 : Int32)))])) tg
        refine XS.iloadN X7.here hx rfl (hb hby d5_62) rfl ?_
        show Steps p.tables e below (T7.setTop (mkF m 63 #[.val (.ref a1), .val (.int q), .val (.int (31 : Int32)), .val (.int (Int32.ofNat k)), .val (.int ((Int32.ofNat (u k)) - (1 : Int32)))] [(.int (31 : Int32)), (.int ((Int32.ofNat k) + (1 : Int32)))])) tg
        refine XS.iand X7.here hx rfl (hb hby d5_63) rfl ?_
        show Steps p.tables e below (T7.setTop (mkF m 64 #[.val (.ref a1), .val (.int q), .val (.int (31 : Int32)), .val (.int (Int32.ofNat k)), .val (.int ((Int32.ofNat (u k)) - (1 : Int32)))] [(.int (((Int32.ofNat k) + (1 : Int32)) &&& (31 : Int32)))])) tg
        refine XS.istoreN X7.here hx rfl (hb hby d5_64) rfl (l' := #[.val (.ref a1), .val (.int q), .val (.int (31 : Int32)), .val (.int (((Int32.ofNat k) + (1 : Int32)) &&& (31 : Int32))), .val (.int ((Int32.ofNat (u k)) - (1 : Int32)))]) rfl ?_
        show Steps p.tables e below (T7.setTop (mkF m 65 #[.val (.ref a1), .val (.int q), .val (.int (31 : Int32)), .val (.int (((Int32.ofNat k) + (1 : Int32)) &&& (31 : Int32))), .val (.int ((Int32.ofNat (u k)) - (1 : Int32)))] [])) tg
        refine XS.goto X7.here hx rfl (pc0 := 65) (pc' := 18) rfl (hb hby d5_65) (by decide) (by decide) ?_
        exact kt
      refine own_seg (T' := T7) (g' := (mkF m 20 #[.val (.ref a1), .val (.int q), .val (.int (31 : Int32)), .val (.int (((Int32.ofNat k) + (1 : Int32)) &&& (31 : Int32))), .val (.int ((Int32.ofNat (u k)) - (1 : Int32)))] [(.int ((Int32.ofNat (u k)) - (1 : Int32)))])) (fun tg kt => ?_) ?_
      · show Steps p.tables e below (T7.setTop (mkF m 18 #[.val (.ref a1), .val (.int q), .val (.int (31 : Int32)), .val (.int (((Int32.ofNat k) + (1 : Int32)) &&& (31 : Int32))), .val (.int ((Int32.ofNat (u k)) - (1 : Int32)))] [])) tg
        refine XS.iload X7.here hx rfl (hb hby d5_18) rfl ?_
        exact kt
      have hc20 : ¬ (((Int32.ofNat (u k)) - (1 : Int32)) < (0 : Int32)) := (by rw [hsub]; exact own_nn (by omega))
      refine own_seg (T' := T7) (g' := (mkF m 68 #[.val (.ref a1), .val (.int q), .val (.int (31 : Int32)), .val (.int (((Int32.ofNat k) + (1 : Int32)) &&& (31 : Int32))), .val (.int ((Int32.ofNat (u k)) - (1 : Int32)))] [])) (fun tg kt => XS.ifYes X7.here hx rfl (pc0 := 20) (pc' := 68) rfl (hb hby d5_20) rfl ((if0 _ _).trans (flt hc20).2.1) (by decide) (by decide) kt) ?_
      refine own_seg (T' := T7) (g' := (mkF m 70 #[.val (.ref a1), .val (.int q), .val (.int (31 : Int32)), .val (.int (((Int32.ofNat k) + (1 : Int32)) &&& (31 : Int32))), .val (.int ((Int32.ofNat (u k)) - (1 : Int32)))] [(.int ((Int32.ofNat (u k)) - (1 : Int32)))])) (fun tg kt => ?_) ?_
      · show Steps p.tables e below (T7.setTop (mkF m 68 #[.val (.ref a1), .val (.int q), .val (.int (31 : Int32)), .val (.int (((Int32.ofNat k) + (1 : Int32)) &&& (31 : Int32))), .val (.int ((Int32.ofNat (u k)) - (1 : Int32)))] [])) tg
        refine XS.iload X7.here hx rfl (hb hby d5_68) rfl ?_
        exact kt
      exact own_retI K X7 d5_70 (⟨by rw [own_pos, if_neg (fun z => hc29 ((own_ofz (by omega)).mpr z)), if_pos hc46, hsub], N0, e7⟩) (by decide) (by decide)
    · skip
      refine own_seg (T' := T4) (g' := (mkF m 59 #[.val (.ref a1), .val (.int q), .val (.int (31 : Int32)), .val (.int (Int32.ofNat k)), .val (.int (-1 : Int32))] [])) (fun tg kt => XS.icmpYes X4.here hx rfl (pc0 := 46) (pc' := 59) rfl (hb hby d5_46) rfl (feq hc46).2 (by decide) (by decide) kt) ?_
      refine own_seg (T' := T4) (g' := (mkF m 18 #[.val (.ref a1), .val (.int q), .val (.int (31 : Int32)), .val (.int (((Int32.ofNat k) + (1 : Int32)) &&& (31 : Int32))), .val (.int (-1 : Int32))] [])) (fun tg kt => ?_) ?_
      · show Steps p.tables e below (T4.setTop (mkF m 59 #[.val (.ref a1), .val (.int q), .val (.int (31 : Int32)), .val (.int (Int32.ofNat k)), .val (.int (-1 : Int32))] [])) tg
        refine XS.iloadN X4.here hx rfl (hb hby d5_59) rfl ?_
        show Steps p.tables e below (T4.setTop (mkF m 60 #[.val (.ref a1), .val (.int q), .val (.int (31 : Int32)), .val (.int (Int32.ofNat k)), .val (.int (-1 : Int32))] [(.int (Int32.ofNat k))])) tg
        refine XS.iconst X4.here hx rfl (hb hby d5_60) ?_
        show Steps p.tables e below (T4.setTop (mkF m 61 #[.val (.ref a1), .val (.int q), .val (.int (31 : Int32)), .val (.int (Int32.ofNat k)), .val (.int (-1 : Int32))] [(.int (1 : Int32)), (.int (Int32.ofNat k))])) tg
        refine XS.iadd X4.here hx rfl (hb hby d5_61) rfl ?_
        show Steps p.tables e below (T4.setTop (mkF m 62 #[.val (.ref a1), .val (.int q), .val (.int (31 : Int32)), .val (.int (Int32.ofNat k)), .val (.int (-1 : Int32))] [(.int ((Int32.ofNat k) + (1 : Int32)))])) tg
        refine XS.iloadN X4.here hx rfl (hb hby d5_62) rfl ?_
        show Steps p.tables e below (T4.setTop (mkF m 63 #[.val (.ref a1), .val (.int q), .val (.int (31 : Int32)), .val (.int (Int32.ofNat k)), .val (.int (-1 : Int32))] [(.int (31 : Int32)), (.int ((Int32.ofNat k) + (1 : Int32)))])) tg
        refine XS.iand X4.here hx rfl (hb hby d5_63) rfl ?_
        show Steps p.tables e below (T4.setTop (mkF m 64 #[.val (.ref a1), .val (.int q), .val (.int (31 : Int32)), .val (.int (Int32.ofNat k)), .val (.int (-1 : Int32))] [(.int (((Int32.ofNat k) + (1 : Int32)) &&& (31 : Int32)))])) tg
        refine XS.istoreN X4.here hx rfl (hb hby d5_64) rfl (l' := #[.val (.ref a1), .val (.int q), .val (.int (31 : Int32)), .val (.int (((Int32.ofNat k) + (1 : Int32)) &&& (31 : Int32))), .val (.int (-1 : Int32))]) rfl ?_
        show Steps p.tables e below (T4.setTop (mkF m 65 #[.val (.ref a1), .val (.int q), .val (.int (31 : Int32)), .val (.int (((Int32.ofNat k) + (1 : Int32)) &&& (31 : Int32))), .val (.int (-1 : Int32))] [])) tg
        refine XS.goto X4.here hx rfl (pc0 := 65) (pc' := 18) rfl (hb hby d5_65) (by decide) (by decide) ?_
        exact kt
      exact ih hc29 hc46 _ _ X4 e4 N0
theorem lpP {p : Program} {l : Launch} {e : Env} {s : State} {m : MethodId} {args : Array Value} {below : List Frame} {meth : Method} {c : Code} {Z : State} {a0 : Array Value} {h0 : Heap} {n0 : Nat} (hw : ∀ d ∈ tables_1, d.before a0 Z = true) (a1 t1 t2 t3 : Addr) (q : Int32) (n : Nat) (u : Nat → Nat) (g : Nat → Int32) (K : own_Ctx p Z s m meth c "com/example/rhizome/rhizome/tableau/Label" prog_11_method_5_code 5 (some .int) "position") (Z0 : n0 ≤ h0.size) (O_a1 : own_Obj Z h0 a1 "com/example/rhizome/rhizome/tableau/Label" [("com/example/rhizome/rhizome/tableau/Label", "concepts", "[I", (.ref t1)), ("com/example/rhizome/rhizome/tableau/Label", "dependencies", "[Lcom/example/rhizome/rhizome/tableau/DependencySet;", (.ref t2)), ("com/example/rhizome/rhizome/tableau/Label", "slots", "[I", (.ref t3)), ("com/example/rhizome/rhizome/tableau/Label", "size", "I", (.int (Int32.ofNat n)))]) (O_t1 : own_Arr Z h0 t1 .int (own_L 16 g)) (O_t2 : own_RArr Z h0 t2 "com/example/rhizome/rhizome/tableau/DependencySet" 16) (O_t3 : own_Arr Z h0 t3 .int (own_L 32 (own_F u))) (hu : ∀ k, k < 32 → u k ≤ 3) : ∀ (F k : Nat), k < 32 → own_stop u g q F k → ∀ (T0 : State) (locs : List Loc), Stand p l e ({ frames := 1, cells := 0, slots := 0, locals := 20 } : Room) s m args below meth c T0 locs 0 0 → T0.heap = h0 → Fr n0 locs →
    own_Fin p e below (own_P s ({ frames := 1, cells := 0, slots := 0, locals := 20 } : Room) (own_QI (own_pos u g q F k) h0 n0)) T0 (mkF m 18 #[.val (.ref a1), .val (.int q), .val (.int (31 : Int32)), .val (.int (Int32.ofNat k)), .val (.int (-1 : Int32))] [])
  | 0, _, _, h => h.elim
  | F + 1, k, hk, h => fun T0 locs X0 e0 N0 => sgP hw a1 t1 t2 t3 q n u g k F K X0 e0 N0 Z0 O_a1 O_t1 O_t2 O_t3 hu hk (fun n29 n46 T1 locs1 X1 e1 N1 => by
      have huk := hu k hk
      have nz : u k ≠ 0 := fun z => n29 ((own_ofz (by omega)).mpr z)
      have e2 : own_pos u g q (F + 1) k = own_pos u g q F ((k + 1) % 32) := by rw [own_pos, if_neg nz, if_neg n46]
      rw [e2, own_nx hk]
      exact lpP hw a1 t1 t2 t3 q n u g K Z0 O_a1 O_t1 O_t2 O_t3 hu F ((k + 1) % 32) (by omega) ((h.resolve_left nz).resolve_left n46) T1 locs1 X1 e1 N1)
theorem own_pn5 : plainName "com/example/rhizome/rhizome/tableau/Label" = true := by first | (simp [plainName, overriddenIn]; done) | decide +kernel
theorem d5_0 : decode prog_11_method_5_code 0 = .ok (.aload_n 0, 1) := by decide +kernel
theorem d5_1 : decode prog_11_method_5_code 1 = .ok (.getfield 19, 3) := by decide +kernel
theorem d5_4 : decode prog_11_method_5_code 4 = .ok (.arraylength, 1) := by decide +kernel
theorem d5_5 : decode prog_11_method_5_code 5 = .ok (.iconst 1, 1) := by decide +kernel
theorem d5_6 : decode prog_11_method_5_code 6 = .ok (.isub, 1) := by decide +kernel
theorem d5_7 : decode prog_11_method_5_code 7 = .ok (.istore_n 2, 1) := by decide +kernel
theorem d5_8 : decode prog_11_method_5_code 8 = .ok (.iload_n 1, 1) := by decide +kernel
theorem d5_9 : decode prog_11_method_5_code 9 = .ok (.invokestatic 26, 3) := by decide +kernel
theorem own_pd0 : parseMethodDescriptor "(I)I" = some ⟨[.int], some .int⟩ := by decide +kernel
theorem d5_12 : decode prog_11_method_5_code 12 = .ok (.iload_n 2, 1) := by decide +kernel
theorem d5_13 : decode prog_11_method_5_code 13 = .ok (.iand, 1) := by decide +kernel
theorem d5_14 : decode prog_11_method_5_code 14 = .ok (.istore_n 3, 1) := by decide +kernel
theorem d5_15 : decode prog_11_method_5_code 15 = .ok (.iconst (-1), 1) := by decide +kernel
theorem d5_16 : decode prog_11_method_5_code 16 = .ok (.istore 4, 2) := by decide +kernel
set_option maxRecDepth 65536 in
set_option maxHeartbeats 40000000 in
theorem rmP (l : Launch) (Z : State) (a0 : Array Value) (hw : ∀ d ∈ tables_1, d.before a0 Z = true) (a1 t1 t2 t3 : Addr) (q : Int32) (n : Nat) (u : Nat → Nat) (g : Nat → Int32) (h0 : Heap) (n0 : Nat) (Z0 : n0 ≤ h0.size) (O_a1 : own_Obj Z h0 a1 "com/example/rhizome/rhizome/tableau/Label" [("com/example/rhizome/rhizome/tableau/Label", "concepts", "[I", (.ref t1)), ("com/example/rhizome/rhizome/tableau/Label", "dependencies", "[Lcom/example/rhizome/rhizome/tableau/DependencySet;", (.ref t2)), ("com/example/rhizome/rhizome/tableau/Label", "slots", "[I", (.ref t3)), ("com/example/rhizome/rhizome/tableau/Label", "size", "I", (.int (Int32.ofNat n)))]) (O_t1 : own_Arr Z h0 t1 .int (own_L 16 g)) (O_t2 : own_RArr Z h0 t2 "com/example/rhizome/rhizome/tableau/DependencySet" 16) (O_t3 : own_Arr Z h0 t3 .int (own_L 32 (own_F u))) (hT : own_Tab u g n) :
    own_Met l Z (⟨"com/example/rhizome/rhizome/tableau/Label", "position", "(I)I"⟩ : MethodName) prog_11_method_5_code 5 (some .int) ({ frames := 1, cells := 0, slots := 0, locals := 20 } : Room) #[(.ref a1), (.int q)] h0 (own_QI (own_pos u g q 4 (own_H q)) h0 n0) := by
  refine own_enter (plainFor_of_name own_pn5) (fun m => by first | (simp [entryFrame, mkF, argsToLocals, Value.category, maxLocals]; done) | rfl) (Ls := #[.val (.ref a1), .val (.int q), .unset, .unset, .unset]) ?_
  intro p e s m below meth c T0 K X0 e0
  have hx := K.1
  have hZ := K.2.1
  have hby := K.2.2.1
  have hown := K.2.2.2.2.1
  have N0 := Fr.nil n0
  show own_Fin p e below _ T0 (mkF m 0 #[.val (.ref a1), .val (.int q), .unset, .unset, .unset] [])
  refine own_seg (T' := T0) (g' := (mkF m 1 #[.val (.ref a1), .val (.int q), .unset, .unset, .unset] [(.ref a1)])) (fun tg kt => ?_) ?_
  · show Steps p.tables e below (T0.setTop (mkF m 0 #[.val (.ref a1), .val (.int q), .unset, .unset, .unset] [])) tg
    refine XS.aloadN X0.here hx rfl (hb hby d5_0) rfl rfl ?_
    exact kt
  refine own_getF K X0 e0 (host := "") (Or.inl (hw _ (List.mem_of_getElem? (i := 16) rfl))) Via.refl (O_a1.get 2 rfl) d5_1 ?_
  intro T1 X1 e1
  show own_Fin p e below _ T1 (mkF m 4 #[.val (.ref a1), .val (.int q), .unset, .unset, .unset] [(.ref t3)])
  refine own_alen K X1 e1 O_t3 (n := (32 : Int32)) (by rw [own_L_len]; rfl) d5_4 ?_
  show own_Fin p e below _ T1 (mkF m 5 #[.val (.ref a1), .val (.int q), .unset, .unset, .unset] [(.int (32 : Int32))])
  refine own_seg (T' := T1) (g' := (mkF m 9 #[.val (.ref a1), .val (.int q), .val (.int (31 : Int32)), .unset, .unset] [(.int q)])) (fun tg kt => ?_) ?_
  · show Steps p.tables e below (T1.setTop (mkF m 5 #[.val (.ref a1), .val (.int q), .unset, .unset, .unset] [(.int (32 : Int32))])) tg
    refine XS.iconst X1.here hx rfl (hb hby d5_5) ?_
    show Steps p.tables e below (T1.setTop (mkF m 6 #[.val (.ref a1), .val (.int q), .unset, .unset, .unset] [(.int (1 : Int32)), (.int (32 : Int32))])) tg
    refine XS.isub X1.here hx rfl (hb hby d5_6) rfl ?_
    show Steps p.tables e below (T1.setTop (mkF m 7 #[.val (.ref a1), .val (.int q), .unset, .unset, .unset] [(.int (31 : Int32))])) tg
    refine XS.istoreN X1.here hx rfl (hb hby d5_7) rfl (l' := #[.val (.ref a1), .val (.int q), .val (.int (31 : Int32)), .unset, .unset]) rfl ?_
    show Steps p.tables e below (T1.setTop (mkF m 8 #[.val (.ref a1), .val (.int q), .val (.int (31 : Int32)), .unset, .unset] [])) tg
    refine XS.iloadN X1.here hx rfl (hb hby d5_8) rfl ?_
    exact kt
  refine own_callS K X1 e1 (rmH l Z a0 hw q h0 n0 Z0) (hw _ (List.mem_of_getElem? (i := 36) rfl)) (hw _ (List.mem_of_getElem? (i := 37) rfl)) (hw _ (List.mem_of_getElem? (i := 2) rfl)) (hw _ (List.mem_of_getElem? (i := 38) rfl)) (by decide) [(.int q)] [] own_pd0 rfl rfl rfl rfl d5_9 (by decide) (Nat.le_of_ble_eq_true rfl) (by decide) (by decide) ?_
  intro T3 L3 v3 X3 hQ3
  obtain ⟨rfl, Nq3, e3⟩ := hQ3
  have N3 := Fr.app N0 Nq3
  show own_Fin p e below _ T3 (mkF m 12 #[.val (.ref a1), .val (.int q), .val (.int (31 : Int32)), .unset, .unset] [(.int (own_hs q))])
  refine own_seg (T' := T3) (g' := (mkF m 18 #[.val (.ref a1), .val (.int q), .val (.int (31 : Int32)), .val (.int ((own_hs q) &&& (31 : Int32))), .val (.int (-1 : Int32))] [])) (fun tg kt => ?_) ?_
  · show Steps p.tables e below (T3.setTop (mkF m 12 #[.val (.ref a1), .val (.int q), .val (.int (31 : Int32)), .unset, .unset] [(.int (own_hs q))])) tg
    refine XS.iloadN X3.here hx rfl (hb hby d5_12) rfl ?_
    show Steps p.tables e below (T3.setTop (mkF m 13 #[.val (.ref a1), .val (.int q), .val (.int (31 : Int32)), .unset, .unset] [(.int (31 : Int32)), (.int (own_hs q))])) tg
    refine XS.iand X3.here hx rfl (hb hby d5_13) rfl ?_
    show Steps p.tables e below (T3.setTop (mkF m 14 #[.val (.ref a1), .val (.int q), .val (.int (31 : Int32)), .unset, .unset] [(.int ((own_hs q) &&& (31 : Int32)))])) tg
    refine XS.istoreN X3.here hx rfl (hb hby d5_14) rfl (l' := #[.val (.ref a1), .val (.int q), .val (.int (31 : Int32)), .val (.int ((own_hs q) &&& (31 : Int32))), .unset]) rfl ?_
    show Steps p.tables e below (T3.setTop (mkF m 15 #[.val (.ref a1), .val (.int q), .val (.int (31 : Int32)), .val (.int ((own_hs q) &&& (31 : Int32))), .unset] [])) tg
    refine XS.iconst X3.here hx rfl (hb hby d5_15) ?_
    show Steps p.tables e below (T3.setTop (mkF m 16 #[.val (.ref a1), .val (.int q), .val (.int (31 : Int32)), .val (.int ((own_hs q) &&& (31 : Int32))), .unset] [(.int (-1 : Int32))])) tg
    refine XS.istore X3.here hx rfl (hb hby d5_16) rfl (l' := #[.val (.ref a1), .val (.int q), .val (.int (31 : Int32)), .val (.int ((own_hs q) &&& (31 : Int32))), .val (.int (-1 : Int32))]) rfl ?_
    exact kt
  rw [own_H_eq]
  exact lpP hw a1 t1 t2 t3 q n u g K Z0 O_a1 O_t1 O_t2 O_t3 (fun k hk => Nat.le_trans (hT.2.1 k hk) hT.1) 4 _ (own_H_lt q) (own_pos_stop hT q) _ _ X3 e3 N3
theorem own_pn4 : plainName "com/example/rhizome/rhizome/tableau/Label" = true := by first | (simp [plainName, overriddenIn]; done) | decide +kernel
theorem d4_0 : decode prog_11_method_6_code 0 = .ok (.aload_n 0, 1) := by decide +kernel
theorem d4_1 : decode prog_11_method_6_code 1 = .ok (.iload_n 1, 1) := by decide +kernel
theorem d4_2 : decode prog_11_method_6_code 2 = .ok (.invokevirtual 30, 3) := by decide +kernel
theorem d4_5 : decode prog_11_method_6_code 5 = .ok (.ifCond .lt 7, 3) := by decide +kernel
theorem d4_12 : decode prog_11_method_6_code 12 = .ok (.iconst 0, 1) := by decide +kernel
theorem d4_13 : decode prog_11_method_6_code 13 = .ok (.ireturn, 1) := by decide +kernel
theorem d4_8 : decode prog_11_method_6_code 8 = .ok (.iconst 1, 1) := by decide +kernel
theorem d4_9 : decode prog_11_method_6_code 9 = .ok (.goto 4, 3) := by decide +kernel
set_option maxRecDepth 65536 in
set_option maxHeartbeats 40000000 in
theorem rmC (l : Launch) (Z : State) (a0 : Array Value) (hw : ∀ d ∈ tables_1, d.before a0 Z = true) (a1 t1 t2 t3 : Addr) (q : Int32) (n : Nat) (u : Nat → Nat) (g : Nat → Int32) (r : Int32) (h0 : Heap) (n0 : Nat) (Z0 : n0 ≤ h0.size) (O_a1 : own_Obj Z h0 a1 "com/example/rhizome/rhizome/tableau/Label" [("com/example/rhizome/rhizome/tableau/Label", "concepts", "[I", (.ref t1)), ("com/example/rhizome/rhizome/tableau/Label", "dependencies", "[Lcom/example/rhizome/rhizome/tableau/DependencySet;", (.ref t2)), ("com/example/rhizome/rhizome/tableau/Label", "slots", "[I", (.ref t3)), ("com/example/rhizome/rhizome/tableau/Label", "size", "I", (.int (Int32.ofNat n)))]) (O_t1 : own_Arr Z h0 t1 .int (own_L 16 g)) (O_t2 : own_RArr Z h0 t2 "com/example/rhizome/rhizome/tableau/DependencySet" 16) (O_t3 : own_Arr Z h0 t3 .int (own_L 32 (own_F u))) (hT : own_Tab u g n) (hr : own_idx g n q = r) :
    own_Met l Z (⟨"com/example/rhizome/rhizome/tableau/Label", "contains", "(I)Z"⟩ : MethodName) prog_11_method_6_code 2 (some .boolean) ({ frames := 2, cells := 0, slots := 0, locals := 40 } : Room) #[(.ref a1), (.int q)] h0 (own_QI (if r < 0 then 0 else 1) h0 n0) := by
  refine own_enter (plainFor_of_name own_pn4) (fun m => by first | (simp [entryFrame, mkF, argsToLocals, Value.category, maxLocals]; done) | rfl) (Ls := #[.val (.ref a1), .val (.int q)]) ?_
  intro p e s m below meth c T0 K X0 e0
  have hx := K.1
  have hZ := K.2.1
  have hby := K.2.2.1
  have hown := K.2.2.2.2.1
  have N0 := Fr.nil n0
  show own_Fin p e below _ T0 (mkF m 0 #[.val (.ref a1), .val (.int q)] [])
  refine own_seg (T' := T0) (g' := (mkF m 2 #[.val (.ref a1), .val (.int q)] [(.int q), (.ref a1)])) (fun tg kt => ?_) ?_
  · show Steps p.tables e below (T0.setTop (mkF m 0 #[.val (.ref a1), .val (.int q)] [])) tg
    refine XS.aloadN X0.here hx rfl (hb hby d4_0) rfl rfl ?_
    show Steps p.tables e below (T0.setTop (mkF m 1 #[.val (.ref a1), .val (.int q)] [(.ref a1)])) tg
    refine XS.iloadN X0.here hx rfl (hb hby d4_1) rfl ?_
    exact kt
  refine own_callV K X0 e0 (rmP l Z a0 hw a1 t1 t2 t3 q n u g h0 n0 Z0 O_a1 O_t1 O_t2 O_t3 hT) (hw _ (List.mem_of_getElem? (i := 31) rfl)) (hw _ (List.mem_of_getElem? (i := 32) rfl)) (fun _ q => notFace_of_selects q) (hw _ (List.mem_of_getElem? (i := 34) rfl)) (hw _ (List.mem_of_getElem? (i := 33) rfl)) (hw _ (List.mem_of_getElem? (i := 2) rfl)) (hw _ (List.mem_of_getElem? (i := 35) rfl)) (by decide) a1 O_a1.exa [(.int q)] [] own_pd0 rfl rfl rfl rfl d4_2 (by decide) (Nat.le_of_ble_eq_true rfl) (by decide) (by decide) ?_
  intro T1 L1 v1 X1 hQ1
  obtain ⟨rfl, Nq1, e1⟩ := hQ1
  rw [own_pos_eq hT, hr]
  have N1 := Fr.app N0 Nq1
  show own_Fin p e below _ T1 (mkF m 5 #[.val (.ref a1), .val (.int q)] [(.int r)])
  by_cases hc5 : r < (0 : Int32)
  · skip
    refine own_seg (T' := T1) (g' := (mkF m 12 #[.val (.ref a1), .val (.int q)] [])) (fun tg kt => XS.ifYes X1.here hx rfl (pc0 := 5) (pc' := 12) rfl (hb hby d4_5) rfl ((if0 _ _).trans (tlt hc5).1) (by decide) (by decide) kt) ?_
    refine own_seg (T' := T1) (g' := (mkF m 13 #[.val (.ref a1), .val (.int q)] [(.int (0 : Int32))])) (fun tg kt => ?_) ?_
    · show Steps p.tables e below (T1.setTop (mkF m 12 #[.val (.ref a1), .val (.int q)] [])) tg
      refine XS.iconst X1.here hx rfl (hb hby d4_12) ?_
      exact kt
    exact own_retN K (by simp) X1 d4_13 (⟨by rw [if_pos hc5]; rfl, N1, e1⟩) (by decide) (by decide)
  · skip
    refine own_seg (T' := T1) (g' := (mkF m 8 #[.val (.ref a1), .val (.int q)] [])) (fun tg kt => XS.ifNo X1.here hx rfl (hb hby d4_5) rfl ((if0 _ _).trans (flt hc5).1) kt) ?_
    refine own_seg (T' := T1) (g' := (mkF m 13 #[.val (.ref a1), .val (.int q)] [(.int (1 : Int32))])) (fun tg kt => ?_) ?_
    · show Steps p.tables e below (T1.setTop (mkF m 8 #[.val (.ref a1), .val (.int q)] [])) tg
      refine XS.iconst X1.here hx rfl (hb hby d4_8) ?_
      show Steps p.tables e below (T1.setTop (mkF m 9 #[.val (.ref a1), .val (.int q)] [(.int (1 : Int32))])) tg
      refine XS.goto X1.here hx rfl (pc0 := 9) (pc' := 13) rfl (hb hby d4_9) (by decide) (by decide) ?_
      exact kt
    exact own_retN K (by simp) X1 d4_13 (⟨by rw [if_neg hc5]; rfl, N1, e1⟩) (by decide) (by decide)
def QX (Z : State) (t3 : Addr) (u : Nat → Nat) (n k : Nat) (h0 : Heap) (n0 : Nat) (v : Option Value) (h : Heap) (L : List Loc) : Prop := v = none ∧ Fr n0 L ∧ Keep h0 h [t3] ∧ own_Arr Z h t3 .int (own_L 32 (own_F (own_un u k (n + 1))))
theorem d7_20 : decode prog_11_method_13_code 20 = .ok (.aload_n 0, 1) := by decide +kernel
theorem d7_21 : decode prog_11_method_13_code 21 = .ok (.getfield 19, 3) := by decide +kernel
theorem d7_24 : decode prog_11_method_13_code 24 = .ok (.iload_n 3, 1) := by decide +kernel
theorem d7_25 : decode prog_11_method_13_code 25 = .ok (.iaload, 1) := by decide +kernel
theorem d7_26 : decode prog_11_method_13_code 26 = .ok (.ifCond .eq 12, 3) := by decide +kernel
theorem d7_38 : decode prog_11_method_13_code 38 = .ok (.aload_n 0, 1) := by decide +kernel
theorem d7_39 : decode prog_11_method_13_code 39 = .ok (.getfield 19, 3) := by decide +kernel
theorem d7_42 : decode prog_11_method_13_code 42 = .ok (.iload_n 3, 1) := by decide +kernel
theorem d7_43 : decode prog_11_method_13_code 43 = .ok (.iload_n 1, 1) := by decide +kernel
theorem d7_44 : decode prog_11_method_13_code 44 = .ok (.iconst 1, 1) := by decide +kernel
theorem d7_45 : decode prog_11_method_13_code 45 = .ok (.iadd, 1) := by decide +kernel
theorem d7_46 : decode prog_11_method_13_code 46 = .ok (.iastore, 1) := by decide +kernel
theorem d7_47 : decode prog_11_method_13_code 47 = .ok (.return_, 1) := by decide +kernel
theorem d7_29 : decode prog_11_method_13_code 29 = .ok (.iload_n 3, 1) := by decide +kernel
theorem d7_30 : decode prog_11_method_13_code 30 = .ok (.iconst 1, 1) := by decide +kernel
theorem d7_31 : decode prog_11_method_13_code 31 = .ok (.iadd, 1) := by decide +kernel
theorem d7_32 : decode prog_11_method_13_code 32 = .ok (.iload_n 2, 1) := by decide +kernel
theorem d7_33 : decode prog_11_method_13_code 33 = .ok (.iand, 1) := by decide +kernel
theorem d7_34 : decode prog_11_method_13_code 34 = .ok (.istore_n 3, 1) := by decide +kernel
theorem d7_35 : decode prog_11_method_13_code 35 = .ok (.goto (-15), 3) := by decide +kernel
set_option maxRecDepth 65536 in
set_option maxHeartbeats 40000000 in
theorem sgX {p : Program} {l : Launch} {e : Env} {s : State} {m : MethodId} {args : Array Value} {below : List Frame} {meth : Method} {c : Code} {T0 : State} {locs : List Loc} {Z : State} {a0 : Array Value} {h0 : Heap} {n0 : Nat} (hw : ∀ d ∈ tables_1, d.before a0 Z = true) (a1 t1 t2 t3 : Addr) (n : Nat) (sz : Int32) (u : Nat → Nat) (g : Nat → Int32) (k F : Nat)
    (K : own_Ctx p Z s m meth c "com/example/rhizome/rhizome/tableau/Label" prog_11_method_13_code 4 none "index") (X0 : Stand p l e ({ frames := 1, cells := 0, slots := 0, locals := 20 } : Room) s m args below meth c T0 locs 0 0) (e0 : T0.heap = h0) (N0 : Fr n0 locs) (Z0 : n0 ≤ h0.size) (O_a1 : own_Obj Z h0 a1 "com/example/rhizome/rhizome/tableau/Label" [("com/example/rhizome/rhizome/tableau/Label", "concepts", "[I", (.ref t1)), ("com/example/rhizome/rhizome/tableau/Label", "dependencies", "[Lcom/example/rhizome/rhizome/tableau/DependencySet;", (.ref t2)), ("com/example/rhizome/rhizome/tableau/Label", "slots", "[I", (.ref t3)), ("com/example/rhizome/rhizome/tableau/Label", "size", "I", (.int sz))]) (O_t1 : own_Arr Z h0 t1 .int (own_L 16 g)) (O_t2 : own_RArr Z h0 t2 "com/example/rhizome/rhizome/tableau/DependencySet" 16) (O_t3 : own_Arr Z h0 t3 .int (own_L 32 (own_F u)))(hu : ∀ k, k < 32 → u k ≤ 3) (hD : own_Dis a1 t1 t2 t3) (f_t3 : n0 ≤ t3) (hk : k < 32) (hn : n < 3) (ih : ¬ Int32.ofNat (u k) = 0 → ∀ (T0 : State) (locs : List Loc), Stand p l e ({ frames := 1, cells := 0, slots := 0, locals := 20 } : Room) s m args below meth c T0 locs 0 0 → T0.heap = h0 → Fr n0 locs → own_Fin p e below (own_P s ({ frames := 1, cells := 0, slots := 0, locals := 20 } : Room) (QX Z t3 u n (own_sk u 0 (F + 1) k) h0 n0)) T0 (mkF m 20 #[.val (.ref a1), .val (.int (Int32.ofNat n)), .val (.int (31 : Int32)), .val (.int ((Int32.ofNat k + (1 : Int32)) &&& (31 : Int32)))] [])) :
    own_Fin p e below (own_P s ({ frames := 1, cells := 0, slots := 0, locals := 20 } : Room) (QX Z t3 u n (own_sk u 0 (F + 1) k) h0 n0)) T0 (mkF m 20 #[.val (.ref a1), .val (.int (Int32.ofNat n)), .val (.int (31 : Int32)), .val (.int (Int32.ofNat k))] []) := by
  have hx := K.1
  have hZ := K.2.1
  have hby := K.2.2.1
  have hown := K.2.2.2.2.1
  have huk := hu k hk
  have K0 : Keep h0 h0 [t3] := Keep.refl _ _
  obtain ⟨ne_a1_t1, ne_a1_t2, ne_a1_t3, ne_t1_t2, ne_t1_t3, ne_t2_t3⟩ := hD
  have ne_t1_a1 := ne_a1_t1.symm
  have ne_t2_a1 := ne_a1_t2.symm
  have ne_t3_a1 := ne_a1_t3.symm
  have ne_t2_t1 := ne_t1_t2.symm
  have ne_t3_t1 := ne_t1_t3.symm
  have ne_t3_t2 := ne_t2_t3.symm
  refine own_seg (T' := T0) (g' := (mkF m 21 #[.val (.ref a1), .val (.int (Int32.ofNat n)), .val (.int (31 : Int32)), .val (.int (Int32.ofNat k))] [(.ref a1)])) (fun tg kt => ?_) ?_
  · show Steps p.tables e below (T0.setTop (mkF m 20 #[.val (.ref a1), .val (.int (Int32.ofNat n)), .val (.int (31 : Int32)), .val (.int (Int32.ofNat k))] [])) tg
    refine XS.aloadN X0.here hx rfl (hb hby d7_20) rfl rfl ?_
    exact kt
  refine own_getF K X0 e0 (host := "") (Or.inl (hw _ (List.mem_of_getElem? (i := 16) rfl))) Via.refl (O_a1.get 2 rfl) d7_21 ?_
  intro T1 X1 e1
  show own_Fin p e below _ T1 (mkF m 24 #[.val (.ref a1), .val (.int (Int32.ofNat n)), .val (.int (31 : Int32)), .val (.int (Int32.ofNat k))] [(.ref t3)])
  refine own_seg (T' := T1) (g' := (mkF m 25 #[.val (.ref a1), .val (.int (Int32.ofNat n)), .val (.int (31 : Int32)), .val (.int (Int32.ofNat k))] [(.int (Int32.ofNat k)), (.ref t3)])) (fun tg kt => ?_) ?_
  · show Steps p.tables e below (T1.setTop (mkF m 24 #[.val (.ref a1), .val (.int (Int32.ofNat n)), .val (.int (31 : Int32)), .val (.int (Int32.ofNat k))] [(.ref t3)])) tg
    refine XS.iloadN X1.here hx rfl (hb hby d7_24) rfl ?_
    exact kt
  refine own_iaload K X1 e1 O_t3 (own_nn (by omega)) (own_Lat hk (by decide)) d7_25 ?_
  show own_Fin p e below _ T1 (mkF m 26 #[.val (.ref a1), .val (.int (Int32.ofNat n)), .val (.int (31 : Int32)), .val (.int (Int32.ofNat k))] [(.int (Int32.ofNat (u k)))])
  by_cases hc26 : (Int32.ofNat (u k)) = (0 : Int32)
  · skip
    refine own_seg (T' := T1) (g' := (mkF m 38 #[.val (.ref a1), .val (.int (Int32.ofNat n)), .val (.int (31 : Int32)), .val (.int (Int32.ofNat k))] [])) (fun tg kt => XS.ifYes X1.here hx rfl (pc0 := 26) (pc' := 38) rfl (hb hby d7_26) rfl ((if0 _ _).trans (teq hc26).1) (by decide) (by decide) kt) ?_
    refine own_seg (T' := T1) (g' := (mkF m 39 #[.val (.ref a1), .val (.int (Int32.ofNat n)), .val (.int (31 : Int32)), .val (.int (Int32.ofNat k))] [(.ref a1)])) (fun tg kt => ?_) ?_
    · show Steps p.tables e below (T1.setTop (mkF m 38 #[.val (.ref a1), .val (.int (Int32.ofNat n)), .val (.int (31 : Int32)), .val (.int (Int32.ofNat k))] [])) tg
      refine XS.aloadN X1.here hx rfl (hb hby d7_38) rfl rfl ?_
      exact kt
    refine own_getF K X1 e1 (host := "") (Or.inl (hw _ (List.mem_of_getElem? (i := 16) rfl))) Via.refl (O_a1.get 2 rfl) d7_39 ?_
    intro T3 X3 e3
    show own_Fin p e below _ T3 (mkF m 42 #[.val (.ref a1), .val (.int (Int32.ofNat n)), .val (.int (31 : Int32)), .val (.int (Int32.ofNat k))] [(.ref t3)])
    refine own_seg (T' := T3) (g' := (mkF m 46 #[.val (.ref a1), .val (.int (Int32.ofNat n)), .val (.int (31 : Int32)), .val (.int (Int32.ofNat k))] [(.int ((Int32.ofNat n) + (1 : Int32))), (.int (Int32.ofNat k)), (.ref t3)])) (fun tg kt => ?_) ?_
    · show Steps p.tables e below (T3.setTop (mkF m 42 #[.val (.ref a1), .val (.int (Int32.ofNat n)), .val (.int (31 : Int32)), .val (.int (Int32.ofNat k))] [(.ref t3)])) tg
      refine XS.iloadN X3.here hx rfl (hb hby d7_42) rfl ?_
      show Steps p.tables e below (T3.setTop (mkF m 43 #[.val (.ref a1), .val (.int (Int32.ofNat n)), .val (.int (31 : Int32)), .val (.int (Int32.ofNat k))] [(.int (Int32.ofNat k)), (.ref t3)])) tg
      refine XS.iloadN X3.here hx rfl (hb hby d7_43) rfl ?_
      show Steps p.tables e below (T3.setTop (mkF m 44 #[.val (.ref a1), .val (.int (Int32.ofNat n)), .val (.int (31 : Int32)), .val (.int (Int32.ofNat k))] [(.int (Int32.ofNat n)), (.int (Int32.ofNat k)), (.ref t3)])) tg
      refine XS.iconst X3.here hx rfl (hb hby d7_44) ?_
      show Steps p.tables e below (T3.setTop (mkF m 45 #[.val (.ref a1), .val (.int (Int32.ofNat n)), .val (.int (31 : Int32)), .val (.int (Int32.ofNat k))] [(.int (1 : Int32)), (.int (Int32.ofNat n)), (.int (Int32.ofNat k)), (.ref t3)])) tg
      refine XS.iadd X3.here hx rfl (hb hby d7_45) rfl ?_
      exact kt
    refine own_iastore K X3 e3 O_t3 (own_nn (by omega)) (by rw [own_cl (by omega), own_L_len]; exact hk) d7_46 ?_
    intro T4 h4 X4 e4 W4
    have O_a1_4 : own_Obj Z h4 a1 "com/example/rhizome/rhizome/tableau/Label" [("com/example/rhizome/rhizome/tableau/Label", "concepts", "[I", (.ref t1)), ("com/example/rhizome/rhizome/tableau/Label", "dependencies", "[Lcom/example/rhizome/rhizome/tableau/DependencySet;", (.ref t2)), ("com/example/rhizome/rhizome/tableau/Label", "slots", "[I", (.ref t3)), ("com/example/rhizome/rhizome/tableau/Label", "size", "I", (.int sz))] := O_a1.other W4 ne_a1_t3
    have O_t1_4 : own_Arr Z h4 t1 .int (own_L 16 g) := O_t1.other W4 ne_t1_t3
    have O_t2_4 : own_RArr Z h4 t2 "com/example/rhizome/rhizome/tableau/DependencySet" 16 := O_t2.other W4 ne_t2_t3
    have O_t3_4 : own_Arr Z h4 t3 .int (own_L 32 (own_F (own_un u k (n + 1)))) := (by have q1 := (O_t3.set W4); rw [own_Lset hk (by decide), own_add1 (by omega), own_Fun] at q1; exact q1)
    have Z4 : n0 ≤ h4.size := by rw [Wr.size W4]; exact Z0
    have N4 := Fr.snoc X4 N0 f_t3
    have K4 := K0.wr W4 (Or.inl (List.mem_of_getElem? (i := 0) rfl))
    show own_Fin p e below _ T4 (mkF m 47 #[.val (.ref a1), .val (.int (Int32.ofNat n)), .val (.int (31 : Int32)), .val (.int (Int32.ofNat k))] [])
    exact own_retV K X4 d7_47 (by rw [e4, own_sk, if_pos ((own_ofz (by omega)).mp hc26)]; exact ⟨rfl, N4, K4, O_t3_4⟩) (by decide) (by decide)
  · skip
    refine own_seg (T' := T1) (g' := (mkF m 29 #[.val (.ref a1), .val (.int (Int32.ofNat n)), .val (.int (31 : Int32)), .val (.int (Int32.ofNat k))] [])) (fun tg kt => XS.ifNo X1.here hx rfl (hb hby d7_26) rfl ((if0 _ _).trans (feq hc26).1) kt) ?_
    refine own_seg (T' := T1) (g' := (mkF m 20 #[.val (.ref a1), .val (.int (Int32.ofNat n)), .val (.int (31 : Int32)), .val (.int (((Int32.ofNat k) + (1 : Int32)) &&& (31 : Int32)))] [])) (fun tg kt => ?_) ?_
    · show Steps p.tables e below (T1.setTop (mkF m 29 #[.val (.ref a1), .val (.int (Int32.ofNat n)), .val (.int (31 : Int32)), .val (.int (Int32.ofNat k))] [])) tg
      refine XS.iloadN X1.here hx rfl (hb hby d7_29) rfl ?_
      show Steps p.tables e below (T1.setTop (mkF m 30 #[.val (.ref a1), .val (.int (Int32.ofNat n)), .val (.int (31 : Int32)), .val (.int (Int32.ofNat k))] [(.int (Int32.ofNat k))])) tg
      refine XS.iconst X1.here hx rfl (hb hby d7_30) ?_
      show Steps p.tables e below (T1.setTop (mkF m 31 #[.val (.ref a1), .val (.int (Int32.ofNat n)), .val (.int (31 : Int32)), .val (.int (Int32.ofNat k))] [(.int (1 : Int32)), (.int (Int32.ofNat k))])) tg
      refine XS.iadd X1.here hx rfl (hb hby d7_31) rfl ?_
      show Steps p.tables e below (T1.setTop (mkF m 32 #[.val (.ref a1), .val (.int (Int32.ofNat n)), .val (.int (31 : Int32)), .val (.int (Int32.ofNat k))] [(.int ((Int32.ofNat k) + (1 : Int32)))])) tg
      refine XS.iloadN X1.here hx rfl (hb hby d7_32) rfl ?_
      show Steps p.tables e below (T1.setTop (mkF m 33 #[.val (.ref a1), .val (.int (Int32.ofNat n)), .val (.int (31 : Int32)), .val (.int (Int32.ofNat k))] [(.int (31 : Int32)), (.int ((Int32.ofNat k) + (1 : Int32)))])) tg
      refine XS.iand X1.here hx rfl (hb hby d7_33) rfl ?_
      show Steps p.tables e below (T1.setTop (mkF m 34 #[.val (.ref a1), .val (.int (Int32.ofNat n)), .val (.int (31 : Int32)), .val (.int (Int32.ofNat k))] [(.int (((Int32.ofNat k) + (1 : Int32)) &&& (31 : Int32)))])) tg
      refine XS.istoreN X1.here hx rfl (hb hby d7_34) rfl (l' := #[.val (.ref a1), .val (.int (Int32.ofNat n)), .val (.int (31 : Int32)), .val (.int (((Int32.ofNat k) + (1 : Int32)) &&& (31 : Int32)))]) rfl ?_
      show Steps p.tables e below (T1.setTop (mkF m 35 #[.val (.ref a1), .val (.int (Int32.ofNat n)), .val (.int (31 : Int32)), .val (.int (((Int32.ofNat k) + (1 : Int32)) &&& (31 : Int32)))] [])) tg
      refine XS.goto X1.here hx rfl (pc0 := 35) (pc' := 20) rfl (hb hby d7_35) (by decide) (by decide) ?_
      exact kt
    exact ih hc26 _ _ X1 e1 N0
theorem lpX {p : Program} {l : Launch} {e : Env} {s : State} {m : MethodId} {args : Array Value} {below : List Frame} {meth : Method} {c : Code} {Z : State} {a0 : Array Value} {h0 : Heap} {n0 : Nat} (hw : ∀ d ∈ tables_1, d.before a0 Z = true) (a1 t1 t2 t3 : Addr) (n : Nat) (sz : Int32) (u : Nat → Nat) (g : Nat → Int32) (K : own_Ctx p Z s m meth c "com/example/rhizome/rhizome/tableau/Label" prog_11_method_13_code 4 none "index") (Z0 : n0 ≤ h0.size) (O_a1 : own_Obj Z h0 a1 "com/example/rhizome/rhizome/tableau/Label" [("com/example/rhizome/rhizome/tableau/Label", "concepts", "[I", (.ref t1)), ("com/example/rhizome/rhizome/tableau/Label", "dependencies", "[Lcom/example/rhizome/rhizome/tableau/DependencySet;", (.ref t2)), ("com/example/rhizome/rhizome/tableau/Label", "slots", "[I", (.ref t3)), ("com/example/rhizome/rhizome/tableau/Label", "size", "I", (.int sz))]) (O_t1 : own_Arr Z h0 t1 .int (own_L 16 g)) (O_t2 : own_RArr Z h0 t2 "com/example/rhizome/rhizome/tableau/DependencySet" 16) (O_t3 : own_Arr Z h0 t3 .int (own_L 32 (own_F u))) (hu : ∀ k, k < 32 → u k ≤ 3) (hD : own_Dis a1 t1 t2 t3) (f_t3 : n0 ≤ t3) (hn : n < 3) : ∀ (F k : Nat), k < 32 → own_sstop u 0 F k → ∀ (T0 : State) (locs : List Loc), Stand p l e ({ frames := 1, cells := 0, slots := 0, locals := 20 } : Room) s m args below meth c T0 locs 0 0 → T0.heap = h0 → Fr n0 locs →
    own_Fin p e below (own_P s ({ frames := 1, cells := 0, slots := 0, locals := 20 } : Room) (QX Z t3 u n (own_sk u 0 F k) h0 n0)) T0 (mkF m 20 #[.val (.ref a1), .val (.int (Int32.ofNat n)), .val (.int (31 : Int32)), .val (.int (Int32.ofNat k))] [])
  | 0, _, _, h => h.elim
  | F + 1, k, hk, h => fun T0 locs X0 e0 N0 => sgX hw a1 t1 t2 t3 n sz u g k F K X0 e0 N0 Z0 O_a1 O_t1 O_t2 O_t3 hu hD f_t3 hk hn (fun n26 T1 locs1 X1 e1 N1 => by
      have huk := hu k hk
      have nz : u k ≠ 0 := fun z => n26 ((own_ofz (by omega)).mpr z)
      have e2 : own_sk u 0 (F + 1) k = own_sk u 0 F ((k + 1) % 32) := by rw [own_sk, if_neg nz]
      rw [e2, own_nx hk]
      exact lpX hw a1 t1 t2 t3 n sz u g K Z0 O_a1 O_t1 O_t2 O_t3 hu hD f_t3 hn F ((k + 1) % 32) (by omega) (h.resolve_left nz) T1 locs1 X1 e1 N1)
theorem own_pn7 : plainName "com/example/rhizome/rhizome/tableau/Label" = true := by first | (simp [plainName, overriddenIn]; done) | decide +kernel
theorem d7_0 : decode prog_11_method_13_code 0 = .ok (.aload_n 0, 1) := by decide +kernel
theorem d7_1 : decode prog_11_method_13_code 1 = .ok (.getfield 19, 3) := by decide +kernel
theorem d7_4 : decode prog_11_method_13_code 4 = .ok (.arraylength, 1) := by decide +kernel
theorem d7_5 : decode prog_11_method_13_code 5 = .ok (.iconst 1, 1) := by decide +kernel
theorem d7_6 : decode prog_11_method_13_code 6 = .ok (.isub, 1) := by decide +kernel
theorem d7_7 : decode prog_11_method_13_code 7 = .ok (.istore_n 2, 1) := by decide +kernel
theorem d7_8 : decode prog_11_method_13_code 8 = .ok (.aload_n 0, 1) := by decide +kernel
theorem d7_9 : decode prog_11_method_13_code 9 = .ok (.getfield 7, 3) := by decide +kernel
theorem d7_12 : decode prog_11_method_13_code 12 = .ok (.iload_n 1, 1) := by decide +kernel
theorem d7_13 : decode prog_11_method_13_code 13 = .ok (.iaload, 1) := by decide +kernel
theorem d7_14 : decode prog_11_method_13_code 14 = .ok (.invokestatic 26, 3) := by decide +kernel
theorem d7_17 : decode prog_11_method_13_code 17 = .ok (.iload_n 2, 1) := by decide +kernel
theorem d7_18 : decode prog_11_method_13_code 18 = .ok (.iand, 1) := by decide +kernel
theorem d7_19 : decode prog_11_method_13_code 19 = .ok (.istore_n 3, 1) := by decide +kernel
set_option maxRecDepth 65536 in
set_option maxHeartbeats 40000000 in
theorem rmX (l : Launch) (Z : State) (a0 : Array Value) (hw : ∀ d ∈ tables_1, d.before a0 Z = true) (a1 t1 t2 t3 : Addr) (n : Nat) (sz : Int32) (u : Nat → Nat) (g : Nat → Int32) (h0 : Heap) (n0 : Nat) (Z0 : n0 ≤ h0.size) (O_a1 : own_Obj Z h0 a1 "com/example/rhizome/rhizome/tableau/Label" [("com/example/rhizome/rhizome/tableau/Label", "concepts", "[I", (.ref t1)), ("com/example/rhizome/rhizome/tableau/Label", "dependencies", "[Lcom/example/rhizome/rhizome/tableau/DependencySet;", (.ref t2)), ("com/example/rhizome/rhizome/tableau/Label", "slots", "[I", (.ref t3)), ("com/example/rhizome/rhizome/tableau/Label", "size", "I", (.int sz))]) (O_t1 : own_Arr Z h0 t1 .int (own_L 16 g)) (O_t2 : own_RArr Z h0 t2 "com/example/rhizome/rhizome/tableau/DependencySet" 16) (O_t3 : own_Arr Z h0 t3 .int (own_L 32 (own_F u)))(hu : ∀ k, k < 32 → u k ≤ 3) (hD : own_Dis a1 t1 t2 t3) (f_t3 : n0 ≤ t3) (hn : n < 3) (hst : own_sstop u 0 4 (own_H (g n))) :
    own_Met l Z (⟨"com/example/rhizome/rhizome/tableau/Label", "index", "(I)V"⟩ : MethodName) prog_11_method_13_code 4 none ({ frames := 1, cells := 0, slots := 0, locals := 20 } : Room) #[(.ref a1), (.int (Int32.ofNat n))] h0 (QX Z t3 u n (own_sk u 0 4 (own_H (g n))) h0 n0) := by
  refine own_enter (plainFor_of_name own_pn7) (fun m => by first | (simp [entryFrame, mkF, argsToLocals, Value.category, maxLocals]; done) | rfl) (Ls := #[.val (.ref a1), .val (.int (Int32.ofNat n)), .unset, .unset]) ?_
  intro p e s m below meth c T0 K X0 e0
  have hx := K.1
  have hZ := K.2.1
  have hby := K.2.2.1
  have hown := K.2.2.2.2.1
  have N0 := Fr.nil n0
  show own_Fin p e below _ T0 (mkF m 0 #[.val (.ref a1), .val (.int (Int32.ofNat n)), .unset, .unset] [])
  refine own_seg (T' := T0) (g' := (mkF m 1 #[.val (.ref a1), .val (.int (Int32.ofNat n)), .unset, .unset] [(.ref a1)])) (fun tg kt => ?_) ?_
  · show Steps p.tables e below (T0.setTop (mkF m 0 #[.val (.ref a1), .val (.int (Int32.ofNat n)), .unset, .unset] [])) tg
    refine XS.aloadN X0.here hx rfl (hb hby d7_0) rfl rfl ?_
    exact kt
  refine own_getF K X0 e0 (host := "") (Or.inl (hw _ (List.mem_of_getElem? (i := 16) rfl))) Via.refl (O_a1.get 2 rfl) d7_1 ?_
  intro T1 X1 e1
  show own_Fin p e below _ T1 (mkF m 4 #[.val (.ref a1), .val (.int (Int32.ofNat n)), .unset, .unset] [(.ref t3)])
  refine own_alen K X1 e1 O_t3 (n := (32 : Int32)) (by rw [own_L_len]; rfl) d7_4 ?_
  show own_Fin p e below _ T1 (mkF m 5 #[.val (.ref a1), .val (.int (Int32.ofNat n)), .unset, .unset] [(.int (32 : Int32))])
  refine own_seg (T' := T1) (g' := (mkF m 9 #[.val (.ref a1), .val (.int (Int32.ofNat n)), .val (.int (31 : Int32)), .unset] [(.ref a1)])) (fun tg kt => ?_) ?_
  · show Steps p.tables e below (T1.setTop (mkF m 5 #[.val (.ref a1), .val (.int (Int32.ofNat n)), .unset, .unset] [(.int (32 : Int32))])) tg
    refine XS.iconst X1.here hx rfl (hb hby d7_5) ?_
    show Steps p.tables e below (T1.setTop (mkF m 6 #[.val (.ref a1), .val (.int (Int32.ofNat n)), .unset, .unset] [(.int (1 : Int32)), (.int (32 : Int32))])) tg
    refine XS.isub X1.here hx rfl (hb hby d7_6) rfl ?_
    show Steps p.tables e below (T1.setTop (mkF m 7 #[.val (.ref a1), .val (.int (Int32.ofNat n)), .unset, .unset] [(.int (31 : Int32))])) tg
    refine XS.istoreN X1.here hx rfl (hb hby d7_7) rfl (l' := #[.val (.ref a1), .val (.int (Int32.ofNat n)), .val (.int (31 : Int32)), .unset]) rfl ?_
    show Steps p.tables e below (T1.setTop (mkF m 8 #[.val (.ref a1), .val (.int (Int32.ofNat n)), .val (.int (31 : Int32)), .unset] [])) tg
    refine XS.aloadN X1.here hx rfl (hb hby d7_8) rfl rfl ?_
    exact kt
  refine own_getF K X1 e1 (host := "") (Or.inl (hw _ (List.mem_of_getElem? (i := 10) rfl))) Via.refl (O_a1.get 0 rfl) d7_9 ?_
  intro T3 X3 e3
  show own_Fin p e below _ T3 (mkF m 12 #[.val (.ref a1), .val (.int (Int32.ofNat n)), .val (.int (31 : Int32)), .unset] [(.ref t1)])
  refine own_seg (T' := T3) (g' := (mkF m 13 #[.val (.ref a1), .val (.int (Int32.ofNat n)), .val (.int (31 : Int32)), .unset] [(.int (Int32.ofNat n)), (.ref t1)])) (fun tg kt => ?_) ?_
  · show Steps p.tables e below (T3.setTop (mkF m 12 #[.val (.ref a1), .val (.int (Int32.ofNat n)), .val (.int (31 : Int32)), .unset] [(.ref t1)])) tg
    refine XS.iloadN X3.here hx rfl (hb hby d7_12) rfl ?_
    exact kt
  refine own_iaload K X3 e3 O_t1 (own_nn (by omega)) (own_Lat (by omega) (by decide)) d7_13 ?_
  show own_Fin p e below _ T3 (mkF m 14 #[.val (.ref a1), .val (.int (Int32.ofNat n)), .val (.int (31 : Int32)), .unset] [(.int (g n))])
  refine own_callS K X3 e3 (rmH l Z a0 hw (g n) h0 n0 Z0) (hw _ (List.mem_of_getElem? (i := 36) rfl)) (hw _ (List.mem_of_getElem? (i := 37) rfl)) (hw _ (List.mem_of_getElem? (i := 2) rfl)) (hw _ (List.mem_of_getElem? (i := 38) rfl)) (by decide) [(.int (g n))] [] own_pd0 rfl rfl rfl rfl d7_14 (by decide) (Nat.le_of_ble_eq_true rfl) (by decide) (by decide) ?_
  intro T5 L5 v5 X5 hQ5
  obtain ⟨rfl, Nq5, e5⟩ := hQ5
  have N5 := Fr.app N0 Nq5
  show own_Fin p e below _ T5 (mkF m 17 #[.val (.ref a1), .val (.int (Int32.ofNat n)), .val (.int (31 : Int32)), .unset] [(.int (own_hs (g n)))])
  refine own_seg (T' := T5) (g' := (mkF m 20 #[.val (.ref a1), .val (.int (Int32.ofNat n)), .val (.int (31 : Int32)), .val (.int ((own_hs (g n)) &&& (31 : Int32)))] [])) (fun tg kt => ?_) ?_
  · show Steps p.tables e below (T5.setTop (mkF m 17 #[.val (.ref a1), .val (.int (Int32.ofNat n)), .val (.int (31 : Int32)), .unset] [(.int (own_hs (g n)))])) tg
    refine XS.iloadN X5.here hx rfl (hb hby d7_17) rfl ?_
    show Steps p.tables e below (T5.setTop (mkF m 18 #[.val (.ref a1), .val (.int (Int32.ofNat n)), .val (.int (31 : Int32)), .unset] [(.int (31 : Int32)), (.int (own_hs (g n)))])) tg
    refine XS.iand X5.here hx rfl (hb hby d7_18) rfl ?_
    show Steps p.tables e below (T5.setTop (mkF m 19 #[.val (.ref a1), .val (.int (Int32.ofNat n)), .val (.int (31 : Int32)), .unset] [(.int ((own_hs (g n)) &&& (31 : Int32)))])) tg
    refine XS.istoreN X5.here hx rfl (hb hby d7_19) rfl (l' := #[.val (.ref a1), .val (.int (Int32.ofNat n)), .val (.int (31 : Int32)), .val (.int ((own_hs (g n)) &&& (31 : Int32)))]) rfl ?_
    exact kt
  rw [own_H_eq]
  exact lpX hw a1 t1 t2 t3 n sz u g K Z0 O_a1 O_t1 O_t2 O_t3 hu hD f_t3 hn 4 _ (own_H_lt _) hst _ _ X5 e5 N5
theorem own_pn3 : plainName "com/example/rhizome/rhizome/tableau/Label" = true := by first | (simp [plainName, overriddenIn]; done) | decide +kernel
theorem d3_0 : decode prog_11_method_7_code 0 = .ok (.aload_n 0, 1) := by decide +kernel
theorem d3_1 : decode prog_11_method_7_code 1 = .ok (.iload_n 1, 1) := by decide +kernel
theorem d3_2 : decode prog_11_method_7_code 2 = .ok (.invokevirtual 33, 3) := by decide +kernel
theorem own_pd1 : parseMethodDescriptor "(I)Z" = some ⟨[.int], some .boolean⟩ := by decide +kernel
theorem d3_5 : decode prog_11_method_7_code 5 = .ok (.ifCond .eq 5, 3) := by decide +kernel
theorem d3_8 : decode prog_11_method_7_code 8 = .ok (.iconst 0, 1) := by decide +kernel
theorem d3_9 : decode prog_11_method_7_code 9 = .ok (.ireturn, 1) := by decide +kernel
set_option maxRecDepth 65536 in
set_option maxHeartbeats 40000000 in
theorem rmA0 (l : Launch) (Z : State) (a0 : Array Value) (hw : ∀ d ∈ tables_1, d.before a0 Z = true) (a1 t1 t2 t3 : Addr) (q : Int32) (d : Addr) (n : Nat) (u : Nat → Nat) (g : Nat → Int32) (r : Int32) (h0 : Heap) (n0 : Nat) (Z0 : n0 ≤ h0.size) (O_a1 : own_Obj Z h0 a1 "com/example/rhizome/rhizome/tableau/Label" [("com/example/rhizome/rhizome/tableau/Label", "concepts", "[I", (.ref t1)), ("com/example/rhizome/rhizome/tableau/Label", "dependencies", "[Lcom/example/rhizome/rhizome/tableau/DependencySet;", (.ref t2)), ("com/example/rhizome/rhizome/tableau/Label", "slots", "[I", (.ref t3)), ("com/example/rhizome/rhizome/tableau/Label", "size", "I", (.int (Int32.ofNat n)))]) (O_t1 : own_Arr Z h0 t1 .int (own_L 16 g)) (O_t2 : own_RArr Z h0 t2 "com/example/rhizome/rhizome/tableau/DependencySet" 16) (O_t3 : own_Arr Z h0 t3 .int (own_L 32 (own_F u))) (hT : own_Tab u g n) (hr : own_idx g n q = r) (hr0 : ¬ r < 0) :
    own_Met l Z (⟨"com/example/rhizome/rhizome/tableau/Label", "add", "(ILcom/example/rhizome/rhizome/tableau/DependencySet;)Z"⟩ : MethodName) prog_11_method_7_code 4 (some .boolean) ({ frames := 3, cells := 0, slots := 0, locals := 60 } : Room) #[(.ref a1), (.int q), (.ref d)] h0 (own_QI 0 h0 n0) := by
  refine own_enter (plainFor_of_name own_pn3) (fun m => by first | (simp [entryFrame, mkF, argsToLocals, Value.category, maxLocals]; done) | rfl) (Ls := #[.val (.ref a1), .val (.int q), .val (.ref d), .unset]) ?_
  intro p e s m below meth c T0 K X0 e0
  have hx := K.1
  have hZ := K.2.1
  have hby := K.2.2.1
  have hown := K.2.2.2.2.1
  have N0 := Fr.nil n0
  show own_Fin p e below _ T0 (mkF m 0 #[.val (.ref a1), .val (.int q), .val (.ref d), .unset] [])
  refine own_seg (T' := T0) (g' := (mkF m 2 #[.val (.ref a1), .val (.int q), .val (.ref d), .unset] [(.int q), (.ref a1)])) (fun tg kt => ?_) ?_
  · show Steps p.tables e below (T0.setTop (mkF m 0 #[.val (.ref a1), .val (.int q), .val (.ref d), .unset] [])) tg
    refine XS.aloadN X0.here hx rfl (hb hby d3_0) rfl rfl ?_
    show Steps p.tables e below (T0.setTop (mkF m 1 #[.val (.ref a1), .val (.int q), .val (.ref d), .unset] [(.ref a1)])) tg
    refine XS.iloadN X0.here hx rfl (hb hby d3_1) rfl ?_
    exact kt
  refine own_callV K X0 e0 (rmC l Z a0 hw a1 t1 t2 t3 q n u g r h0 n0 Z0 O_a1 O_t1 O_t2 O_t3 hT hr) (hw _ (List.mem_of_getElem? (i := 26) rfl)) (hw _ (List.mem_of_getElem? (i := 27) rfl)) (fun _ q => notFace_of_selects q) (hw _ (List.mem_of_getElem? (i := 29) rfl)) (hw _ (List.mem_of_getElem? (i := 28) rfl)) (hw _ (List.mem_of_getElem? (i := 2) rfl)) (hw _ (List.mem_of_getElem? (i := 30) rfl)) (by decide) a1 O_a1.exa [(.int q)] [] own_pd1 rfl rfl rfl rfl d3_2 (by decide) (Nat.le_of_ble_eq_true rfl) (by decide) (by decide) ?_
  intro T1 L1 v1 X1 hQ1
  obtain ⟨rfl, Nq1, e1⟩ := hQ1
  rw [if_neg hr0]
  have N1 := Fr.app N0 Nq1
  show own_Fin p e below _ T1 (mkF m 5 #[.val (.ref a1), .val (.int q), .val (.ref d), .unset] [(.int (1 : Int32))])
  have hc5 : ¬ ((1 : Int32) = (0 : Int32)) := by decide
  refine own_seg (T' := T1) (g' := (mkF m 8 #[.val (.ref a1), .val (.int q), .val (.ref d), .unset] [])) (fun tg kt => XS.ifNo X1.here hx rfl (hb hby d3_5) rfl ((if0 _ _).trans (feq hc5).1) kt) ?_
  refine own_seg (T' := T1) (g' := (mkF m 9 #[.val (.ref a1), .val (.int q), .val (.ref d), .unset] [(.int (0 : Int32))])) (fun tg kt => ?_) ?_
  · show Steps p.tables e below (T1.setTop (mkF m 8 #[.val (.ref a1), .val (.int q), .val (.ref d), .unset] [])) tg
    refine XS.iconst X1.here hx rfl (hb hby d3_8) ?_
    exact kt
  exact own_retN K (by simp) X1 d3_9 (⟨rfl, N1, e1⟩) (by decide) (by decide)
def QA (Z : State) (a1 t1 t2 t3 : Addr) (n : Nat) (u : Nat → Nat) (g : Nat → Int32) (h0 : Heap) (n0 : Nat) (v : Option Value) (h : Heap) (L : List Loc) : Prop := v = some (.int 1) ∧ Fr n0 L ∧ Keep h0 h [a1, t1, t2, t3] ∧ own_Obj Z h a1 "com/example/rhizome/rhizome/tableau/Label" [("com/example/rhizome/rhizome/tableau/Label", "concepts", "[I", (.ref t1)), ("com/example/rhizome/rhizome/tableau/Label", "dependencies", "[Lcom/example/rhizome/rhizome/tableau/DependencySet;", (.ref t2)), ("com/example/rhizome/rhizome/tableau/Label", "slots", "[I", (.ref t3)), ("com/example/rhizome/rhizome/tableau/Label", "size", "I", (.int (Int32.ofNat n)))] ∧ own_Arr Z h t1 .int (own_L 16 g) ∧ own_RArr Z h t2 "com/example/rhizome/rhizome/tableau/DependencySet" 16 ∧ own_Arr Z h t3 .int (own_L 32 (own_F u))
theorem d3_10 : decode prog_11_method_7_code 10 = .ok (.aload_n 0, 1) := by decide +kernel
theorem d3_11 : decode prog_11_method_7_code 11 = .ok (.getfield 22, 3) := by decide +kernel
theorem d3_14 : decode prog_11_method_7_code 14 = .ok (.aload_n 0, 1) := by decide +kernel
theorem d3_15 : decode prog_11_method_7_code 15 = .ok (.getfield 7, 3) := by decide +kernel
theorem d3_18 : decode prog_11_method_7_code 18 = .ok (.arraylength, 1) := by decide +kernel
theorem d3_19 : decode prog_11_method_7_code 19 = .ok (.if_icmp .ne 40, 3) := by decide +kernel
theorem d3_59 : decode prog_11_method_7_code 59 = .ok (.aload_n 0, 1) := by decide +kernel
theorem d3_60 : decode prog_11_method_7_code 60 = .ok (.getfield 7, 3) := by decide +kernel
theorem d3_63 : decode prog_11_method_7_code 63 = .ok (.aload_n 0, 1) := by decide +kernel
theorem d3_64 : decode prog_11_method_7_code 64 = .ok (.getfield 22, 3) := by decide +kernel
theorem d3_67 : decode prog_11_method_7_code 67 = .ok (.iload_n 1, 1) := by decide +kernel
theorem d3_68 : decode prog_11_method_7_code 68 = .ok (.iastore, 1) := by decide +kernel
theorem d3_69 : decode prog_11_method_7_code 69 = .ok (.aload_n 0, 1) := by decide +kernel
theorem d3_70 : decode prog_11_method_7_code 70 = .ok (.getfield 15, 3) := by decide +kernel
theorem d3_73 : decode prog_11_method_7_code 73 = .ok (.aload_n 0, 1) := by decide +kernel
theorem d3_74 : decode prog_11_method_7_code 74 = .ok (.getfield 22, 3) := by decide +kernel
theorem d3_77 : decode prog_11_method_7_code 77 = .ok (.aload_n 2, 1) := by decide +kernel
theorem d3_78 : decode prog_11_method_7_code 78 = .ok (.aastore, 1) := by decide +kernel
theorem d3_79 : decode prog_11_method_7_code 79 = .ok (.aload_n 0, 1) := by decide +kernel
theorem d3_80 : decode prog_11_method_7_code 80 = .ok (.dup, 1) := by decide +kernel
theorem d3_81 : decode prog_11_method_7_code 81 = .ok (.getfield 22, 3) := by decide +kernel
theorem d3_84 : decode prog_11_method_7_code 84 = .ok (.iconst 1, 1) := by decide +kernel
theorem d3_85 : decode prog_11_method_7_code 85 = .ok (.iadd, 1) := by decide +kernel
theorem d3_86 : decode prog_11_method_7_code 86 = .ok (.putfield 22, 3) := by decide +kernel
theorem d3_89 : decode prog_11_method_7_code 89 = .ok (.iconst 2, 1) := by decide +kernel
theorem d3_90 : decode prog_11_method_7_code 90 = .ok (.aload_n 0, 1) := by decide +kernel
theorem d3_91 : decode prog_11_method_7_code 91 = .ok (.getfield 22, 3) := by decide +kernel
theorem d3_94 : decode prog_11_method_7_code 94 = .ok (.imul, 1) := by decide +kernel
theorem d3_95 : decode prog_11_method_7_code 95 = .ok (.aload_n 0, 1) := by decide +kernel
theorem d3_96 : decode prog_11_method_7_code 96 = .ok (.getfield 19, 3) := by decide +kernel
theorem d3_99 : decode prog_11_method_7_code 99 = .ok (.arraylength, 1) := by decide +kernel
theorem d3_100 : decode prog_11_method_7_code 100 = .ok (.if_icmp .le 40, 3) := by decide +kernel
theorem d3_140 : decode prog_11_method_7_code 140 = .ok (.aload_n 0, 1) := by decide +kernel
theorem d3_141 : decode prog_11_method_7_code 141 = .ok (.aload_n 0, 1) := by decide +kernel
theorem d3_142 : decode prog_11_method_7_code 142 = .ok (.getfield 22, 3) := by decide +kernel
theorem d3_145 : decode prog_11_method_7_code 145 = .ok (.iconst 1, 1) := by decide +kernel
theorem d3_146 : decode prog_11_method_7_code 146 = .ok (.isub, 1) := by decide +kernel
theorem d3_147 : decode prog_11_method_7_code 147 = .ok (.invokevirtual 47, 3) := by decide +kernel
theorem own_pd2 : parseMethodDescriptor "(I)V" = some ⟨[.int], none⟩ := by decide +kernel
theorem d3_150 : decode prog_11_method_7_code 150 = .ok (.iconst 1, 1) := by decide +kernel
theorem d3_151 : decode prog_11_method_7_code 151 = .ok (.ireturn, 1) := by decide +kernel
set_option maxRecDepth 65536 in
set_option maxHeartbeats 40000000 in
theorem rmA1 (l : Launch) (Z : State) (a0 : Array Value) (hw : ∀ d ∈ tables_1, d.before a0 Z = true) (a1 t1 t2 t3 : Addr) (q : Int32) (d : Addr) (n : Nat) (u : Nat → Nat) (g : Nat → Int32) (h0 : Heap) (n0 : Nat) (Z0 : n0 ≤ h0.size) (O_a1 : own_Obj Z h0 a1 "com/example/rhizome/rhizome/tableau/Label" [("com/example/rhizome/rhizome/tableau/Label", "concepts", "[I", (.ref t1)), ("com/example/rhizome/rhizome/tableau/Label", "dependencies", "[Lcom/example/rhizome/rhizome/tableau/DependencySet;", (.ref t2)), ("com/example/rhizome/rhizome/tableau/Label", "slots", "[I", (.ref t3)), ("com/example/rhizome/rhizome/tableau/Label", "size", "I", (.int (Int32.ofNat n)))]) (O_t1 : own_Arr Z h0 t1 .int (own_L 16 g)) (O_t2 : own_RArr Z h0 t2 "com/example/rhizome/rhizome/tableau/DependencySet" 16) (O_t3 : own_Arr Z h0 t3 .int (own_L 32 (own_F u))) (O_d : Exa Z h0 d "com/example/rhizome/rhizome/tableau/DependencySet") (hT : own_Tab u g n) (hr : own_idx g n q = (-1)) (hn : n < 3) (hD : own_Dis a1 t1 t2 t3) (f_a1 : n0 ≤ a1) (f_t1 : n0 ≤ t1) (f_t2 : n0 ≤ t2) (f_t3 : n0 ≤ t3) :
    own_Met l Z (⟨"com/example/rhizome/rhizome/tableau/Label", "add", "(ILcom/example/rhizome/rhizome/tableau/DependencySet;)Z"⟩ : MethodName) prog_11_method_7_code 4 (some .boolean) ({ frames := 3, cells := 0, slots := 0, locals := 60 } : Room) #[(.ref a1), (.int q), (.ref d)] h0 (QA Z a1 t1 t2 t3 (n + 1) (own_un u (own_sk u 0 4 (own_H q)) (n + 1)) (own_up g n q) h0 n0) := by
  refine own_enter (plainFor_of_name own_pn3) (fun m => by first | (simp [entryFrame, mkF, argsToLocals, Value.category, maxLocals]; done) | rfl) (Ls := #[.val (.ref a1), .val (.int q), .val (.ref d), .unset]) ?_
  intro p e s m below meth c T0 K X0 e0
  have hx := K.1
  have hZ := K.2.1
  have hby := K.2.2.1
  have hown := K.2.2.2.2.1
  have N0 := Fr.nil n0
  have K0 : Keep h0 h0 [a1, t1, t2, t3] := Keep.refl _ _
  show own_Fin p e below _ T0 (mkF m 0 #[.val (.ref a1), .val (.int q), .val (.ref d), .unset] [])
  have hD' := hD
  obtain ⟨ne_a1_t1, ne_a1_t2, ne_a1_t3, ne_t1_t2, ne_t1_t3, ne_t2_t3⟩ := hD'
  have ne_t1_a1 := ne_a1_t1.symm
  have ne_t2_a1 := ne_a1_t2.symm
  have ne_t3_a1 := ne_a1_t3.symm
  have ne_t2_t1 := ne_t1_t2.symm
  have ne_t3_t1 := ne_t1_t3.symm
  have ne_t3_t2 := ne_t2_t3.symm
  have hu : ∀ k, k < 32 → u k ≤ 3 := fun k hk => Nat.le_trans (hT.2.1 k hk) hT.1
  have hup : own_up g n q n = q := if_pos rfl
  have hsz : ¬ (Int32.ofNat n = (16 : Int32)) := fun z => by have z2 := (own_inj (j := n) (k := 16) (by omega) (by omega)).mp z; omega
  have hgr : ¬ ((32 : Int32) < ((2 : Int32) * (Int32.ofNat n + (1 : Int32)))) := by
    rcases (by omega : n = 0 ∨ n = 1 ∨ n = 2) with rfl | rfl | rfl <;> decide
  refine own_seg (T' := T0) (g' := (mkF m 2 #[.val (.ref a1), .val (.int q), .val (.ref d), .unset] [(.int q), (.ref a1)])) (fun tg kt => ?_) ?_
  · show Steps p.tables e below (T0.setTop (mkF m 0 #[.val (.ref a1), .val (.int q), .val (.ref d), .unset] [])) tg
    refine XS.aloadN X0.here hx rfl (hb hby d3_0) rfl rfl ?_
    show Steps p.tables e below (T0.setTop (mkF m 1 #[.val (.ref a1), .val (.int q), .val (.ref d), .unset] [(.ref a1)])) tg
    refine XS.iloadN X0.here hx rfl (hb hby d3_1) rfl ?_
    exact kt
  refine own_callV K X0 e0 (rmC l Z a0 hw a1 t1 t2 t3 q n u g (-1) h0 n0 Z0 O_a1 O_t1 O_t2 O_t3 hT hr) (hw _ (List.mem_of_getElem? (i := 26) rfl)) (hw _ (List.mem_of_getElem? (i := 27) rfl)) (fun _ q => notFace_of_selects q) (hw _ (List.mem_of_getElem? (i := 29) rfl)) (hw _ (List.mem_of_getElem? (i := 28) rfl)) (hw _ (List.mem_of_getElem? (i := 2) rfl)) (hw _ (List.mem_of_getElem? (i := 30) rfl)) (by decide) a1 O_a1.exa [(.int q)] [] own_pd1 rfl rfl rfl rfl d3_2 (by decide) (Nat.le_of_ble_eq_true rfl) (by decide) (by decide) ?_
  intro T1 L1 v1 X1 hQ1
  obtain ⟨rfl, Nq1, e1⟩ := hQ1
  rw [if_pos (by decide)]
  have N1 := Fr.app N0 Nq1
  show own_Fin p e below _ T1 (mkF m 5 #[.val (.ref a1), .val (.int q), .val (.ref d), .unset] [(.int (0 : Int32))])
  have hc5 : (0 : Int32) = (0 : Int32) := by decide
  refine own_seg (T' := T1) (g' := (mkF m 10 #[.val (.ref a1), .val (.int q), .val (.ref d), .unset] [])) (fun tg kt => XS.ifYes X1.here hx rfl (pc0 := 5) (pc' := 10) rfl (hb hby d3_5) rfl ((if0 _ _).trans (teq hc5).1) (by decide) (by decide) kt) ?_
  refine own_seg (T' := T1) (g' := (mkF m 11 #[.val (.ref a1), .val (.int q), .val (.ref d), .unset] [(.ref a1)])) (fun tg kt => ?_) ?_
  · show Steps p.tables e below (T1.setTop (mkF m 10 #[.val (.ref a1), .val (.int q), .val (.ref d), .unset] [])) tg
    refine XS.aloadN X1.here hx rfl (hb hby d3_10) rfl rfl ?_
    exact kt
  refine own_getF K X1 e1 (host := "") (Or.inl (hw _ (List.mem_of_getElem? (i := 40) rfl))) Via.refl (O_a1.get 3 rfl) d3_11 ?_
  intro T2 X2 e2
  show own_Fin p e below _ T2 (mkF m 14 #[.val (.ref a1), .val (.int q), .val (.ref d), .unset] [(.int (Int32.ofNat n))])
  refine own_seg (T' := T2) (g' := (mkF m 15 #[.val (.ref a1), .val (.int q), .val (.ref d), .unset] [(.ref a1), (.int (Int32.ofNat n))])) (fun tg kt => ?_) ?_
  · show Steps p.tables e below (T2.setTop (mkF m 14 #[.val (.ref a1), .val (.int q), .val (.ref d), .unset] [(.int (Int32.ofNat n))])) tg
    refine XS.aloadN X2.here hx rfl (hb hby d3_14) rfl rfl ?_
    exact kt
  refine own_getF K X2 e2 (host := "") (Or.inl (hw _ (List.mem_of_getElem? (i := 10) rfl))) Via.refl (O_a1.get 0 rfl) d3_15 ?_
  intro T3 X3 e3
  show own_Fin p e below _ T3 (mkF m 18 #[.val (.ref a1), .val (.int q), .val (.ref d), .unset] [(.ref t1), (.int (Int32.ofNat n))])
  refine own_alen K X3 e3 O_t1 (n := (16 : Int32)) (by rw [own_L_len]; rfl) d3_18 ?_
  show own_Fin p e below _ T3 (mkF m 19 #[.val (.ref a1), .val (.int q), .val (.ref d), .unset] [(.int (16 : Int32)), (.int (Int32.ofNat n))])
  have hc19 : ¬ ((Int32.ofNat n) = (16 : Int32)) := hsz
  refine own_seg (T' := T3) (g' := (mkF m 59 #[.val (.ref a1), .val (.int q), .val (.ref d), .unset] [])) (fun tg kt => XS.icmpYes X3.here hx rfl (pc0 := 19) (pc' := 59) rfl (hb hby d3_19) rfl (feq hc19).2 (by decide) (by decide) kt) ?_
  refine own_seg (T' := T3) (g' := (mkF m 60 #[.val (.ref a1), .val (.int q), .val (.ref d), .unset] [(.ref a1)])) (fun tg kt => ?_) ?_
  · show Steps p.tables e below (T3.setTop (mkF m 59 #[.val (.ref a1), .val (.int q), .val (.ref d), .unset] [])) tg
    refine XS.aloadN X3.here hx rfl (hb hby d3_59) rfl rfl ?_
    exact kt
  refine own_getF K X3 e3 (host := "") (Or.inl (hw _ (List.mem_of_getElem? (i := 10) rfl))) Via.refl (O_a1.get 0 rfl) d3_60 ?_
  intro T5 X5 e5
  show own_Fin p e below _ T5 (mkF m 63 #[.val (.ref a1), .val (.int q), .val (.ref d), .unset] [(.ref t1)])
  refine own_seg (T' := T5) (g' := (mkF m 64 #[.val (.ref a1), .val (.int q), .val (.ref d), .unset] [(.ref a1), (.ref t1)])) (fun tg kt => ?_) ?_
  · show Steps p.tables e below (T5.setTop (mkF m 63 #[.val (.ref a1), .val (.int q), .val (.ref d), .unset] [(.ref t1)])) tg
    refine XS.aloadN X5.here hx rfl (hb hby d3_63) rfl rfl ?_
    exact kt
  refine own_getF K X5 e5 (host := "") (Or.inl (hw _ (List.mem_of_getElem? (i := 40) rfl))) Via.refl (O_a1.get 3 rfl) d3_64 ?_
  intro T6 X6 e6
  show own_Fin p e below _ T6 (mkF m 67 #[.val (.ref a1), .val (.int q), .val (.ref d), .unset] [(.int (Int32.ofNat n)), (.ref t1)])
  refine own_seg (T' := T6) (g' := (mkF m 68 #[.val (.ref a1), .val (.int q), .val (.ref d), .unset] [(.int q), (.int (Int32.ofNat n)), (.ref t1)])) (fun tg kt => ?_) ?_
  · show Steps p.tables e below (T6.setTop (mkF m 67 #[.val (.ref a1), .val (.int q), .val (.ref d), .unset] [(.int (Int32.ofNat n)), (.ref t1)])) tg
    refine XS.iloadN X6.here hx rfl (hb hby d3_67) rfl ?_
    exact kt
  refine own_iastore K X6 e6 O_t1 (own_nn (by omega)) (by rw [own_cl (by omega), own_L_len]; omega) d3_68 ?_
  intro T7 h7 X7 e7 W7
  have O_a1_7 : own_Obj Z h7 a1 "com/example/rhizome/rhizome/tableau/Label" [("com/example/rhizome/rhizome/tableau/Label", "concepts", "[I", (.ref t1)), ("com/example/rhizome/rhizome/tableau/Label", "dependencies", "[Lcom/example/rhizome/rhizome/tableau/DependencySet;", (.ref t2)), ("com/example/rhizome/rhizome/tableau/Label", "slots", "[I", (.ref t3)), ("com/example/rhizome/rhizome/tableau/Label", "size", "I", (.int (Int32.ofNat n)))] := O_a1.other W7 ne_a1_t1
  have O_t2_7 : own_RArr Z h7 t2 "com/example/rhizome/rhizome/tableau/DependencySet" 16 := O_t2.other W7 ne_t2_t1
  have O_t3_7 : own_Arr Z h7 t3 .int (own_L 32 (own_F u)) := O_t3.other W7 ne_t3_t1
  have O_d_7 : Exa Z h7 d "com/example/rhizome/rhizome/tableau/DependencySet" := O_d.wr W7
  have O_t1_7 : own_Arr Z h7 t1 .int (own_L 16 (own_up g n q)) := (by have q1 := (O_t1.set W7); rw [own_Lset (by omega) (by decide)] at q1; exact q1)
  have Z7 : n0 ≤ h7.size := by rw [Wr.size W7]; exact Z0
  have N7 := Fr.snoc X7 N1 f_t1
  have K7 := K0.wr W7 (Or.inl (List.mem_of_getElem? (i := 1) rfl))
  show own_Fin p e below _ T7 (mkF m 69 #[.val (.ref a1), .val (.int q), .val (.ref d), .unset] [])
  refine own_seg (T' := T7) (g' := (mkF m 70 #[.val (.ref a1), .val (.int q), .val (.ref d), .unset] [(.ref a1)])) (fun tg kt => ?_) ?_
  · show Steps p.tables e below (T7.setTop (mkF m 69 #[.val (.ref a1), .val (.int q), .val (.ref d), .unset] [])) tg
    refine XS.aloadN X7.here hx rfl (hb hby d3_69) rfl rfl ?_
    exact kt
  refine own_getF K X7 e7 (host := "") (Or.inl (hw _ (List.mem_of_getElem? (i := 14) rfl))) Via.refl (O_a1_7.get 1 rfl) d3_70 ?_
  intro T8 X8 e8
  show own_Fin p e below _ T8 (mkF m 73 #[.val (.ref a1), .val (.int q), .val (.ref d), .unset] [(.ref t2)])
  refine own_seg (T' := T8) (g' := (mkF m 74 #[.val (.ref a1), .val (.int q), .val (.ref d), .unset] [(.ref a1), (.ref t2)])) (fun tg kt => ?_) ?_
  · show Steps p.tables e below (T8.setTop (mkF m 73 #[.val (.ref a1), .val (.int q), .val (.ref d), .unset] [(.ref t2)])) tg
    refine XS.aloadN X8.here hx rfl (hb hby d3_73) rfl rfl ?_
    exact kt
  refine own_getF K X8 e8 (host := "") (Or.inl (hw _ (List.mem_of_getElem? (i := 40) rfl))) Via.refl (O_a1_7.get 3 rfl) d3_74 ?_
  intro T9 X9 e9
  show own_Fin p e below _ T9 (mkF m 77 #[.val (.ref a1), .val (.int q), .val (.ref d), .unset] [(.int (Int32.ofNat n)), (.ref t2)])
  refine own_seg (T' := T9) (g' := (mkF m 78 #[.val (.ref a1), .val (.int q), .val (.ref d), .unset] [(.ref d), (.int (Int32.ofNat n)), (.ref t2)])) (fun tg kt => ?_) ?_
  · show Steps p.tables e below (T9.setTop (mkF m 77 #[.val (.ref a1), .val (.int q), .val (.ref d), .unset] [(.int (Int32.ofNat n)), (.ref t2)])) tg
    refine XS.aloadN X9.here hx rfl (hb hby d3_77) rfl rfl ?_
    exact kt
  refine own_aastore K X9 e9 O_t2_7 (own_nn (by omega)) (by rw [own_cl (by omega)]; omega) (Or.inr ⟨_, rfl, (Ins.self O_d_7)⟩) d3_78 ?_
  intro T10 h10 X10 e10 W10
  have O_a1_10 : own_Obj Z h10 a1 "com/example/rhizome/rhizome/tableau/Label" [("com/example/rhizome/rhizome/tableau/Label", "concepts", "[I", (.ref t1)), ("com/example/rhizome/rhizome/tableau/Label", "dependencies", "[Lcom/example/rhizome/rhizome/tableau/DependencySet;", (.ref t2)), ("com/example/rhizome/rhizome/tableau/Label", "slots", "[I", (.ref t3)), ("com/example/rhizome/rhizome/tableau/Label", "size", "I", (.int (Int32.ofNat n)))] := O_a1_7.other W10 ne_a1_t2
  have O_t1_10 : own_Arr Z h10 t1 .int (own_L 16 (own_up g n q)) := O_t1_7.other W10 ne_t1_t2
  have O_t3_10 : own_Arr Z h10 t3 .int (own_L 32 (own_F u)) := O_t3_7.other W10 ne_t3_t2
  have O_d_10 : Exa Z h10 d "com/example/rhizome/rhizome/tableau/DependencySet" := O_d_7.wr W10
  have O_t2_10 : own_RArr Z h10 t2 "com/example/rhizome/rhizome/tableau/DependencySet" 16 := O_t2_7.set W10
  have Z10 : n0 ≤ h10.size := by rw [Wr.size W10]; exact Z7
  have N10 := Fr.snoc X10 N7 f_t2
  have K10 := K7.wr W10 (Or.inl (List.mem_of_getElem? (i := 2) rfl))
  show own_Fin p e below _ T10 (mkF m 79 #[.val (.ref a1), .val (.int q), .val (.ref d), .unset] [])
  refine own_seg (T' := T10) (g' := (mkF m 81 #[.val (.ref a1), .val (.int q), .val (.ref d), .unset] [(.ref a1), (.ref a1)])) (fun tg kt => ?_) ?_
  · show Steps p.tables e below (T10.setTop (mkF m 79 #[.val (.ref a1), .val (.int q), .val (.ref d), .unset] [])) tg
    refine XS.aloadN X10.here hx rfl (hb hby d3_79) rfl rfl ?_
    show Steps p.tables e below (T10.setTop (mkF m 80 #[.val (.ref a1), .val (.int q), .val (.ref d), .unset] [(.ref a1)])) tg
    refine XS.dup X10.here hx rfl (hb hby d3_80) rfl rfl ?_
    exact kt
  refine own_getF K X10 e10 (host := "") (Or.inl (hw _ (List.mem_of_getElem? (i := 40) rfl))) Via.refl (O_a1_10.get 3 rfl) d3_81 ?_
  intro T11 X11 e11
  show own_Fin p e below _ T11 (mkF m 84 #[.val (.ref a1), .val (.int q), .val (.ref d), .unset] [(.int (Int32.ofNat n)), (.ref a1)])
  refine own_seg (T' := T11) (g' := (mkF m 86 #[.val (.ref a1), .val (.int q), .val (.ref d), .unset] [(.int ((Int32.ofNat n) + (1 : Int32))), (.ref a1)])) (fun tg kt => ?_) ?_
  · show Steps p.tables e below (T11.setTop (mkF m 84 #[.val (.ref a1), .val (.int q), .val (.ref d), .unset] [(.int (Int32.ofNat n)), (.ref a1)])) tg
    refine XS.iconst X11.here hx rfl (hb hby d3_84) ?_
    show Steps p.tables e below (T11.setTop (mkF m 85 #[.val (.ref a1), .val (.int q), .val (.ref d), .unset] [(.int (1 : Int32)), (.int (Int32.ofNat n)), (.ref a1)])) tg
    refine XS.iadd X11.here hx rfl (hb hby d3_85) rfl ?_
    exact kt
  refine own_putF K X11 e11 (host := "") (Or.inl (hw _ (List.mem_of_getElem? (i := 40) rfl))) Via.refl (O_a1_10.get 3 rfl) O_a1_10.exa (Or.inl (hw _ (List.mem_of_getElem? (i := 41) rfl))) (hw _ (List.mem_of_getElem? (i := 1) rfl)) (ty := .int) (by decide) rfl rfl d3_86 ?_
  intro T12 h12 X12 e12 W12
  have O_t1_12 : own_Arr Z h12 t1 .int (own_L 16 (own_up g n q)) := O_t1_10.other W12 ne_t1_a1
  have O_t2_12 : own_RArr Z h12 t2 "com/example/rhizome/rhizome/tableau/DependencySet" 16 := O_t2_10.other W12 ne_t2_a1
  have O_t3_12 : own_Arr Z h12 t3 .int (own_L 32 (own_F u)) := O_t3_10.other W12 ne_t3_a1
  have O_d_12 : Exa Z h12 d "com/example/rhizome/rhizome/tableau/DependencySet" := O_d_10.wr W12
  have O_a1_12 : own_Obj Z h12 a1 "com/example/rhizome/rhizome/tableau/Label" [("com/example/rhizome/rhizome/tableau/Label", "concepts", "[I", (.ref t1)), ("com/example/rhizome/rhizome/tableau/Label", "dependencies", "[Lcom/example/rhizome/rhizome/tableau/DependencySet;", (.ref t2)), ("com/example/rhizome/rhizome/tableau/Label", "slots", "[I", (.ref t3)), ("com/example/rhizome/rhizome/tableau/Label", "size", "I", (.int ((Int32.ofNat n) + (1 : Int32))))] := O_a1_10.put (own_lay_Label hw) rfl own_nd_Label 3 rfl W12
  have Z12 : n0 ≤ h12.size := by rw [Wr.size W12]; exact Z10
  have N12 := Fr.snoc X12 N10 f_a1
  have K12 := K10.wr W12 (Or.inl (List.mem_of_getElem? (i := 0) rfl))
  show own_Fin p e below _ T12 (mkF m 89 #[.val (.ref a1), .val (.int q), .val (.ref d), .unset] [])
  refine own_seg (T' := T12) (g' := (mkF m 91 #[.val (.ref a1), .val (.int q), .val (.ref d), .unset] [(.ref a1), (.int (2 : Int32))])) (fun tg kt => ?_) ?_
  · show Steps p.tables e below (T12.setTop (mkF m 89 #[.val (.ref a1), .val (.int q), .val (.ref d), .unset] [])) tg
    refine XS.iconst X12.here hx rfl (hb hby d3_89) ?_
    show Steps p.tables e below (T12.setTop (mkF m 90 #[.val (.ref a1), .val (.int q), .val (.ref d), .unset] [(.int (2 : Int32))])) tg
    refine XS.aloadN X12.here hx rfl (hb hby d3_90) rfl rfl ?_
    exact kt
  refine own_getF K X12 e12 (host := "") (Or.inl (hw _ (List.mem_of_getElem? (i := 40) rfl))) Via.refl (O_a1_12.get 3 rfl) d3_91 ?_
  intro T13 X13 e13
  show own_Fin p e below _ T13 (mkF m 94 #[.val (.ref a1), .val (.int q), .val (.ref d), .unset] [(.int ((Int32.ofNat n) + (1 : Int32))), (.int (2 : Int32))])
  refine own_seg (T' := T13) (g' := (mkF m 96 #[.val (.ref a1), .val (.int q), .val (.ref d), .unset] [(.ref a1), (.int ((2 : Int32) * ((Int32.ofNat n) + (1 : Int32))))])) (fun tg kt => ?_) ?_
  · show Steps p.tables e below (T13.setTop (mkF m 94 #[.val (.ref a1), .val (.int q), .val (.ref d), .unset] [(.int ((Int32.ofNat n) + (1 : Int32))), (.int (2 : Int32))])) tg
    refine XS.imul X13.here hx rfl (hb hby d3_94) rfl ?_
    show Steps p.tables e below (T13.setTop (mkF m 95 #[.val (.ref a1), .val (.int q), .val (.ref d), .unset] [(.int ((2 : Int32) * ((Int32.ofNat n) + (1 : Int32))))])) tg
    refine XS.aloadN X13.here hx rfl (hb hby d3_95) rfl rfl ?_
    exact kt
  refine own_getF K X13 e13 (host := "") (Or.inl (hw _ (List.mem_of_getElem? (i := 16) rfl))) Via.refl (O_a1_12.get 2 rfl) d3_96 ?_
  intro T14 X14 e14
  show own_Fin p e below _ T14 (mkF m 99 #[.val (.ref a1), .val (.int q), .val (.ref d), .unset] [(.ref t3), (.int ((2 : Int32) * ((Int32.ofNat n) + (1 : Int32))))])
  refine own_alen K X14 e14 O_t3_12 (n := (32 : Int32)) (by rw [own_L_len]; rfl) d3_99 ?_
  show own_Fin p e below _ T14 (mkF m 100 #[.val (.ref a1), .val (.int q), .val (.ref d), .unset] [(.int (32 : Int32)), (.int ((2 : Int32) * ((Int32.ofNat n) + (1 : Int32))))])
  have hc100 : ¬ ((32 : Int32) < ((2 : Int32) * ((Int32.ofNat n) + (1 : Int32)))) := hgr
  refine own_seg (T' := T14) (g' := (mkF m 140 #[.val (.ref a1), .val (.int q), .val (.ref d), .unset] [])) (fun tg kt => XS.icmpYes X14.here hx rfl (pc0 := 100) (pc' := 140) rfl (hb hby d3_100) rfl (flt hc100).2.2.2 (by decide) (by decide) kt) ?_
  refine own_seg (T' := T14) (g' := (mkF m 142 #[.val (.ref a1), .val (.int q), .val (.ref d), .unset] [(.ref a1), (.ref a1)])) (fun tg kt => ?_) ?_
  · show Steps p.tables e below (T14.setTop (mkF m 140 #[.val (.ref a1), .val (.int q), .val (.ref d), .unset] [])) tg
    refine XS.aloadN X14.here hx rfl (hb hby d3_140) rfl rfl ?_
    show Steps p.tables e below (T14.setTop (mkF m 141 #[.val (.ref a1), .val (.int q), .val (.ref d), .unset] [(.ref a1)])) tg
    refine XS.aloadN X14.here hx rfl (hb hby d3_141) rfl rfl ?_
    exact kt
  refine own_getF K X14 e14 (host := "") (Or.inl (hw _ (List.mem_of_getElem? (i := 40) rfl))) Via.refl (O_a1_12.get 3 rfl) d3_142 ?_
  intro T16 X16 e16
  show own_Fin p e below _ T16 (mkF m 145 #[.val (.ref a1), .val (.int q), .val (.ref d), .unset] [(.int ((Int32.ofNat n) + (1 : Int32))), (.ref a1)])
  refine own_seg (T' := T16) (g' := (mkF m 147 #[.val (.ref a1), .val (.int q), .val (.ref d), .unset] [(.int (((Int32.ofNat n) + (1 : Int32)) - (1 : Int32))), (.ref a1)])) (fun tg kt => ?_) ?_
  · show Steps p.tables e below (T16.setTop (mkF m 145 #[.val (.ref a1), .val (.int q), .val (.ref d), .unset] [(.int ((Int32.ofNat n) + (1 : Int32))), (.ref a1)])) tg
    refine XS.iconst X16.here hx rfl (hb hby d3_145) ?_
    show Steps p.tables e below (T16.setTop (mkF m 146 #[.val (.ref a1), .val (.int q), .val (.ref d), .unset] [(.int (1 : Int32)), (.int ((Int32.ofNat n) + (1 : Int32))), (.ref a1)])) tg
    refine XS.isub X16.here hx rfl (hb hby d3_146) rfl ?_
    exact kt
  rw [Int32.add_sub_cancel]
  refine own_callP K X16 e16 (rmX l Z a0 hw a1 t1 t2 t3 n ((Int32.ofNat n) + (1 : Int32)) u (own_up g n q) h12 n0 Z12 O_a1_12 O_t1_12 O_t2_12 O_t3_12 hu hD f_t3 hn (by rw [hup]; exact own_fr_stop hT q)) (hw _ (List.mem_of_getElem? (i := 43) rfl)) (hw _ (List.mem_of_getElem? (i := 44) rfl)) (hw _ (List.mem_of_getElem? (i := 1) rfl)) (hw _ (List.mem_of_getElem? (i := 45) rfl)) (hw _ (List.mem_of_getElem? (i := 2) rfl)) (hw _ (List.mem_of_getElem? (i := 46) rfl)) (by decide) a1 O_a1_12.exa [(.int (Int32.ofNat n))] [] own_pd2 rfl rfl rfl rfl d3_147 (by decide) (Nat.le_of_ble_eq_true rfl) (by decide) (by decide) ?_
  intro T17 L17 v17 X17 hQ17
  obtain ⟨h17, e17⟩ : ∃ z, T17.heap = z := ⟨_, rfl⟩
  rw [e17] at hQ17
  obtain ⟨rfl, Nq17, Kq17, Oq17_t3⟩ := hQ17
  have N17 := Fr.app N12 Nq17
  have O_a1_17 : own_Obj Z h17 a1 "com/example/rhizome/rhizome/tableau/Label" [("com/example/rhizome/rhizome/tableau/Label", "concepts", "[I", (.ref t1)), ("com/example/rhizome/rhizome/tableau/Label", "dependencies", "[Lcom/example/rhizome/rhizome/tableau/DependencySet;", (.ref t2)), ("com/example/rhizome/rhizome/tableau/Label", "slots", "[I", (.ref t3)), ("com/example/rhizome/rhizome/tableau/Label", "size", "I", (.int ((Int32.ofNat n) + (1 : Int32))))] := O_a1_12.keep Kq17 (ninS ne_a1_t3 nin0)
  have O_t1_17 : own_Arr Z h17 t1 .int (own_L 16 (own_up g n q)) := O_t1_12.keep Kq17 (ninS ne_t1_t3 nin0)
  have O_t2_17 : own_RArr Z h17 t2 "com/example/rhizome/rhizome/tableau/DependencySet" 16 := O_t2_12.keep Kq17 (ninS ne_t2_t3 nin0)
  have O_d_17 : Exa Z h17 d "com/example/rhizome/rhizome/tableau/DependencySet" := O_d_12.keep Kq17
  have Z17 : n0 ≤ h17.size := Nat.le_trans Z12 Kq17.1
  have K17 := Keep.trans K12 Kq17 (allS (Or.inl (List.mem_of_getElem? (i := 3) rfl)) all0)
  show own_Fin p e below _ T17 (mkF m 150 #[.val (.ref a1), .val (.int q), .val (.ref d), .unset] [])
  refine own_seg (T' := T17) (g' := (mkF m 151 #[.val (.ref a1), .val (.int q), .val (.ref d), .unset] [(.int (1 : Int32))])) (fun tg kt => ?_) ?_
  · show Steps p.tables e below (T17.setTop (mkF m 150 #[.val (.ref a1), .val (.int q), .val (.ref d), .unset] [])) tg
    refine XS.iconst X17.here hx rfl (hb hby d3_150) ?_
    exact kt
  exact own_retN K (by simp) X17 d3_151 (by rw [QA, e17, ← own_add1 (by omega)]; exact ⟨rfl, N17, K17, O_a1_17, O_t1_17, O_t2_17, by rw [hup] at Oq17_t3; exact Oq17_t3⟩) (by decide) (by decide)
def QT (Z : State) (a1 t1 t2 t3 : Addr) (n mm : Nat) (g : Nat → Int32) (h0 : Heap) (n0 : Nat) (v : Option Value) (h : Heap) (L : List Loc) : Prop := ∃ (k : Nat) (u : Nat → Nat), v = none ∧ Fr n0 L ∧ Keep h0 h [a1, t1, t2, t3] ∧ k = min n mm ∧ own_Tab u g k ∧ own_Obj Z h a1 "com/example/rhizome/rhizome/tableau/Label" [("com/example/rhizome/rhizome/tableau/Label", "concepts", "[I", (.ref t1)), ("com/example/rhizome/rhizome/tableau/Label", "dependencies", "[Lcom/example/rhizome/rhizome/tableau/DependencySet;", (.ref t2)), ("com/example/rhizome/rhizome/tableau/Label", "slots", "[I", (.ref t3)), ("com/example/rhizome/rhizome/tableau/Label", "size", "I", (.int (Int32.ofNat k)))] ∧ own_Arr Z h t1 .int (own_L 16 g) ∧ own_RArr Z h t2 "com/example/rhizome/rhizome/tableau/DependencySet" 16 ∧ own_Arr Z h t3 .int (own_L 32 (own_F u))
theorem d8_41 : decode prog_11_method_8_code 41 = .ok (.aload_n 0, 1) := by decide +kernel
theorem d8_42 : decode prog_11_method_8_code 42 = .ok (.getfield 19, 3) := by decide +kernel
theorem d8_45 : decode prog_11_method_8_code 45 = .ok (.iload_n 3, 1) := by decide +kernel
theorem d8_46 : decode prog_11_method_8_code 46 = .ok (.iaload, 1) := by decide +kernel
theorem d8_47 : decode prog_11_method_8_code 47 = .ok (.aload_n 0, 1) := by decide +kernel
theorem d8_48 : decode prog_11_method_8_code 48 = .ok (.getfield 22, 3) := by decide +kernel
theorem d8_51 : decode prog_11_method_8_code 51 = .ok (.iconst 1, 1) := by decide +kernel
theorem d8_52 : decode prog_11_method_8_code 52 = .ok (.iadd, 1) := by decide +kernel
theorem d8_53 : decode prog_11_method_8_code 53 = .ok (.if_icmp .eq 12, 3) := by decide +kernel
theorem d8_56 : decode prog_11_method_8_code 56 = .ok (.iload_n 3, 1) := by decide +kernel
theorem d8_57 : decode prog_11_method_8_code 57 = .ok (.iconst 1, 1) := by decide +kernel
theorem d8_58 : decode prog_11_method_8_code 58 = .ok (.iadd, 1) := by decide +kernel
theorem d8_59 : decode prog_11_method_8_code 59 = .ok (.iload_n 2, 1) := by decide +kernel
theorem d8_60 : decode prog_11_method_8_code 60 = .ok (.iand, 1) := by decide +kernel
theorem d8_61 : decode prog_11_method_8_code 61 = .ok (.istore_n 3, 1) := by decide +kernel
theorem d8_62 : decode prog_11_method_8_code 62 = .ok (.goto (-21), 3) := by decide +kernel
set_option maxRecDepth 65536 in
set_option maxHeartbeats 40000000 in
theorem sgS {p : Program} {l : Launch} {e : Env} {s : State} {m : MethodId} {args : Array Value} {below : List Frame} {meth : Method} {c : Code} {T0 : State} {locs : List Loc} {Z : State} {a0 : Array Value} {h0 : Heap} {n0 : Nat} (hw : ∀ d ∈ tables_1, d.before a0 Z = true) (a1 t1 t2 t3 : Addr) (mm nn n : Nat) (u : Nat → Nat) (g : Nat → Int32) (hh : Heap) (k : Nat)
    (K : own_Ctx p Z s m meth c "com/example/rhizome/rhizome/tableau/Label" prog_11_method_8_code 4 none "truncate") (X0 : Stand p l e ({ frames := 1, cells := 0, slots := 0, locals := 20 } : Room) s m args below meth c T0 locs 0 0) (e0 : T0.heap = h0) (N0 : Fr n0 locs) (Z0 : n0 ≤ h0.size) (O_a1 : own_Obj Z h0 a1 "com/example/rhizome/rhizome/tableau/Label" [("com/example/rhizome/rhizome/tableau/Label", "concepts", "[I", (.ref t1)), ("com/example/rhizome/rhizome/tableau/Label", "dependencies", "[Lcom/example/rhizome/rhizome/tableau/DependencySet;", (.ref t2)), ("com/example/rhizome/rhizome/tableau/Label", "slots", "[I", (.ref t3)), ("com/example/rhizome/rhizome/tableau/Label", "size", "I", (.int (Int32.ofNat n)))]) (O_t1 : own_Arr Z h0 t1 .int (own_L 16 g)) (O_t2 : own_RArr Z h0 t2 "com/example/rhizome/rhizome/tableau/DependencySet" 16) (O_t3 : own_Arr Z h0 t3 .int (own_L 32 (own_F u))) (hk : k < 32) (kon : Int32.ofNat (u k) = Int32.ofNat n + (1 : Int32) → ∀ (T0 : State) (locs : List Loc), Stand p l e ({ frames := 1, cells := 0, slots := 0, locals := 20 } : Room) s m args below meth c T0 locs 0 0 → T0.heap = h0 → Fr n0 locs → own_Fin p e below (own_P s ({ frames := 1, cells := 0, slots := 0, locals := 20 } : Room) (QT Z a1 t1 t2 t3 nn mm g hh n0)) T0 (mkF m 65 #[.val (.ref a1), .val (.int (Int32.ofNat mm)), .val (.int (31 : Int32)), .val (.int (Int32.ofNat k))] [])) (ih : ¬ Int32.ofNat (u k) = Int32.ofNat n + (1 : Int32) → ∀ (T0 : State) (locs : List Loc), Stand p l e ({ frames := 1, cells := 0, slots := 0, locals := 20 } : Room) s m args below meth c T0 locs 0 0 → T0.heap = h0 → Fr n0 locs → own_Fin p e below (own_P s ({ frames := 1, cells := 0, slots := 0, locals := 20 } : Room) (QT Z a1 t1 t2 t3 nn mm g hh n0)) T0 (mkF m 41 #[.val (.ref a1), .val (.int (Int32.ofNat mm)), .val (.int (31 : Int32)), .val (.int ((Int32.ofNat k + (1 : Int32)) &&& (31 : Int32)))] [])) :
    own_Fin p e below (own_P s ({ frames := 1, cells := 0, slots := 0, locals := 20 } : Room) (QT Z a1 t1 t2 t3 nn mm g hh n0)) T0 (mkF m 41 #[.val (.ref a1), .val (.int (Int32.ofNat mm)), .val (.int (31 : Int32)), .val (.int (Int32.ofNat k))] []) := by
  have hx := K.1
  have hZ := K.2.1
  have hby := K.2.2.1
  have hown := K.2.2.2.2.1
  refine own_seg (T' := T0) (g' := (mkF m 42 #[.val (.ref a1), .val (.int (Int32.ofNat mm)), .val (.int (31 : Int32)), .val (.int (Int32.ofNat k))] [(.ref a1)])) (fun tg kt => ?_) ?_
  · show Steps p.tables e below (T0.setTop (mkF m 41 #[.val (.ref a1), .val (.int (Int32.ofNat mm)), .val (.int (31 : Int32)), .val (.int (Int32.ofNat k))] [])) tg
    refine XS.aloadN X0.here hx rfl (hb hby d8_41) rfl rfl ?_
    exact kt
  refine own_getF K X0 e0 (host := "") (Or.inl (hw _ (List.mem_of_getElem? (i := 16) rfl))) Via.refl (O_a1.get 2 rfl) d8_42 ?_
  intro T1 X1 e1
  show own_Fin p e below _ T1 (mkF m 45 #[.val (.ref a1), .val (.int (Int32.ofNat mm)), .val (.int (31 : Int32)), .val (.int (Int32.ofNat k))] [(.ref t3)])
  refine own_seg (T' := T1) (g' := (mkF m 46 #[.val (.ref a1), .val (.int (Int32.ofNat mm)), .val (.int (31 : Int32)), .val (.int (Int32.ofNat k))] [(.int (Int32.ofNat k)), (.ref t3)])) (fun tg kt => ?_) ?_
  · show Steps p.tables e below (T1.setTop (mkF m 45 #[.val (.ref a1), .val (.int (Int32.ofNat mm)), .val (.int (31 : Int32)), .val (.int (Int32.ofNat k))] [(.ref t3)])) tg
    refine XS.iloadN X1.here hx rfl (hb hby d8_45) rfl ?_
    exact kt
  refine own_iaload K X1 e1 O_t3 (own_nn (by omega)) (own_Lat hk (by decide)) d8_46 ?_
  show own_Fin p e below _ T1 (mkF m 47 #[.val (.ref a1), .val (.int (Int32.ofNat mm)), .val (.int (31 : Int32)), .val (.int (Int32.ofNat k))] [(.int (Int32.ofNat (u k)))])
  refine own_seg (T' := T1) (g' := (mkF m 48 #[.val (.ref a1), .val (.int (Int32.ofNat mm)), .val (.int (31 : Int32)), .val (.int (Int32.ofNat k))] [(.ref a1), (.int (Int32.ofNat (u k)))])) (fun tg kt => ?_) ?_
  · show Steps p.tables e below (T1.setTop (mkF m 47 #[.val (.ref a1), .val (.int (Int32.ofNat mm)), .val (.int (31 : Int32)), .val (.int (Int32.ofNat k))] [(.int (Int32.ofNat (u k)))])) tg
    refine XS.aloadN X1.here hx rfl (hb hby d8_47) rfl rfl ?_
    exact kt
  refine own_getF K X1 e1 (host := "") (Or.inl (hw _ (List.mem_of_getElem? (i := 40) rfl))) Via.refl (O_a1.get 3 rfl) d8_48 ?_
  intro T3 X3 e3
  show own_Fin p e below _ T3 (mkF m 51 #[.val (.ref a1), .val (.int (Int32.ofNat mm)), .val (.int (31 : Int32)), .val (.int (Int32.ofNat k))] [(.int (Int32.ofNat n)), (.int (Int32.ofNat (u k)))])
  refine own_seg (T' := T3) (g' := (mkF m 53 #[.val (.ref a1), .val (.int (Int32.ofNat mm)), .val (.int (31 : Int32)), .val (.int (Int32.ofNat k))] [(.int ((Int32.ofNat n) + (1 : Int32))), (.int (Int32.ofNat (u k)))])) (fun tg kt => ?_) ?_
  · show Steps p.tables e below (T3.setTop (mkF m 51 #[.val (.ref a1), .val (.int (Int32.ofNat mm)), .val (.int (31 : Int32)), .val (.int (Int32.ofNat k))] [(.int (Int32.ofNat n)), (.int (Int32.ofNat (u k)))])) tg
    refine XS.iconst X3.here hx rfl (hb hby d8_51) ?_
    show Steps p.tables e below (T3.setTop (mkF m 52 #[.val (.ref a1), .val (.int (Int32.ofNat mm)), .val (.int (31 : Int32)), .val (.int (Int32.ofNat k))] [(.int (1 : Int32)), (.int (Int32.ofNat n)), (.int (Int32.ofNat (u k)))])) tg
    refine XS.iadd X3.here hx rfl (hb hby d8_52) rfl ?_
    exact kt
  by_cases hc53 : (Int32.ofNat (u k)) = ((Int32.ofNat n) + (1 : Int32))
  · skip
    refine own_seg (T' := T3) (g' := (mkF m 65 #[.val (.ref a1), .val (.int (Int32.ofNat mm)), .val (.int (31 : Int32)), .val (.int (Int32.ofNat k))] [])) (fun tg kt => XS.icmpYes X3.here hx rfl (pc0 := 53) (pc' := 65) rfl (hb hby d8_53) rfl (teq hc53).1 (by decide) (by decide) kt) ?_
    exact kon hc53 _ _ X3 e3 N0
  · skip
    refine own_seg (T' := T3) (g' := (mkF m 56 #[.val (.ref a1), .val (.int (Int32.ofNat mm)), .val (.int (31 : Int32)), .val (.int (Int32.ofNat k))] [])) (fun tg kt => XS.icmpNo X3.here hx rfl (hb hby d8_53) rfl (feq hc53).1 kt) ?_
    refine own_seg (T' := T3) (g' := (mkF m 41 #[.val (.ref a1), .val (.int (Int32.ofNat mm)), .val (.int (31 : Int32)), .val (.int (((Int32.ofNat k) + (1 : Int32)) &&& (31 : Int32)))] [])) (fun tg kt => ?_) ?_
    · show Steps p.tables e below (T3.setTop (mkF m 56 #[.val (.ref a1), .val (.int (Int32.ofNat mm)), .val (.int (31 : Int32)), .val (.int (Int32.ofNat k))] [])) tg
      refine XS.iloadN X3.here hx rfl (hb hby d8_56) rfl ?_
      show Steps p.tables e below (T3.setTop (mkF m 57 #[.val (.ref a1), .val (.int (Int32.ofNat mm)), .val (.int (31 : Int32)), .val (.int (Int32.ofNat k))] [(.int (Int32.ofNat k))])) tg
      refine XS.iconst X3.here hx rfl (hb hby d8_57) ?_
      show Steps p.tables e below (T3.setTop (mkF m 58 #[.val (.ref a1), .val (.int (Int32.ofNat mm)), .val (.int (31 : Int32)), .val (.int (Int32.ofNat k))] [(.int (1 : Int32)), (.int (Int32.ofNat k))])) tg
      refine XS.iadd X3.here hx rfl (hb hby d8_58) rfl ?_
      show Steps p.tables e below (T3.setTop (mkF m 59 #[.val (.ref a1), .val (.int (Int32.ofNat mm)), .val (.int (31 : Int32)), .val (.int (Int32.ofNat k))] [(.int ((Int32.ofNat k) + (1 : Int32)))])) tg
      refine XS.iloadN X3.here hx rfl (hb hby d8_59) rfl ?_
      show Steps p.tables e below (T3.setTop (mkF m 60 #[.val (.ref a1), .val (.int (Int32.ofNat mm)), .val (.int (31 : Int32)), .val (.int (Int32.ofNat k))] [(.int (31 : Int32)), (.int ((Int32.ofNat k) + (1 : Int32)))])) tg
      refine XS.iand X3.here hx rfl (hb hby d8_60) rfl ?_
      show Steps p.tables e below (T3.setTop (mkF m 61 #[.val (.ref a1), .val (.int (Int32.ofNat mm)), .val (.int (31 : Int32)), .val (.int (Int32.ofNat k))] [(.int (((Int32.ofNat k) + (1 : Int32)) &&& (31 : Int32)))])) tg
      refine XS.istoreN X3.here hx rfl (hb hby d8_61) rfl (l' := #[.val (.ref a1), .val (.int (Int32.ofNat mm)), .val (.int (31 : Int32)), .val (.int (((Int32.ofNat k) + (1 : Int32)) &&& (31 : Int32)))]) rfl ?_
      show Steps p.tables e below (T3.setTop (mkF m 62 #[.val (.ref a1), .val (.int (Int32.ofNat mm)), .val (.int (31 : Int32)), .val (.int (((Int32.ofNat k) + (1 : Int32)) &&& (31 : Int32)))] [])) tg
      refine XS.goto X3.here hx rfl (pc0 := 62) (pc' := 41) rfl (hb hby d8_62) (by decide) (by decide) ?_
      exact kt
    exact ih hc53 _ _ X3 e3 N0
theorem lpS {p : Program} {l : Launch} {e : Env} {s : State} {m : MethodId} {args : Array Value} {below : List Frame} {meth : Method} {c : Code} {Z : State} {a0 : Array Value} {h0 : Heap} {n0 : Nat} (hw : ∀ d ∈ tables_1, d.before a0 Z = true) (a1 t1 t2 t3 : Addr) (mm nn n : Nat) (u : Nat → Nat) (g : Nat → Int32) (hh : Heap) (K : own_Ctx p Z s m meth c "com/example/rhizome/rhizome/tableau/Label" prog_11_method_8_code 4 none "truncate") (Z0 : n0 ≤ h0.size) (O_a1 : own_Obj Z h0 a1 "com/example/rhizome/rhizome/tableau/Label" [("com/example/rhizome/rhizome/tableau/Label", "concepts", "[I", (.ref t1)), ("com/example/rhizome/rhizome/tableau/Label", "dependencies", "[Lcom/example/rhizome/rhizome/tableau/DependencySet;", (.ref t2)), ("com/example/rhizome/rhizome/tableau/Label", "slots", "[I", (.ref t3)), ("com/example/rhizome/rhizome/tableau/Label", "size", "I", (.int (Int32.ofNat n)))]) (O_t1 : own_Arr Z h0 t1 .int (own_L 16 g)) (O_t2 : own_RArr Z h0 t2 "com/example/rhizome/rhizome/tableau/DependencySet" 16) (O_t3 : own_Arr Z h0 t3 .int (own_L 32 (own_F u))) (hn : n < 3) (hu : ∀ k, k < 32 → u k ≤ 3) : ∀ (F k : Nat), k < 32 → own_sstop u (n + 1) F k → (∀ (T0 : State) (locs : List Loc), Stand p l e ({ frames := 1, cells := 0, slots := 0, locals := 20 } : Room) s m args below meth c T0 locs 0 0 → T0.heap = h0 → Fr n0 locs → own_Fin p e below (own_P s ({ frames := 1, cells := 0, slots := 0, locals := 20 } : Room) (QT Z a1 t1 t2 t3 nn mm g hh n0)) T0 (mkF m 65 #[.val (.ref a1), .val (.int (Int32.ofNat mm)), .val (.int (31 : Int32)), .val (.int (Int32.ofNat (own_sk u (n + 1) F k)))] [])) → ∀ (T0 : State) (locs : List Loc), Stand p l e ({ frames := 1, cells := 0, slots := 0, locals := 20 } : Room) s m args below meth c T0 locs 0 0 → T0.heap = h0 → Fr n0 locs → own_Fin p e below (own_P s ({ frames := 1, cells := 0, slots := 0, locals := 20 } : Room) (QT Z a1 t1 t2 t3 nn mm g hh n0)) T0 (mkF m 41 #[.val (.ref a1), .val (.int (Int32.ofNat mm)), .val (.int (31 : Int32)), .val (.int (Int32.ofNat k))] [])
  | 0, _, _, h, _ => h.elim
  | F + 1, k, hk, h, kon => fun T0 locs X0 e0 N0 => sgS hw a1 t1 t2 t3 mm nn n u g hh k K X0 e0 N0 Z0 O_a1 O_t1 O_t2 O_t3 hk
      (fun y53 T1 locs1 X1 e1 N1 => by
        have huk := hu k hk
        have e2 : u k = n + 1 := (own_inj (by omega) (by omega)).mp (y53.trans (own_add1 (by omega)))
        have e3 : own_sk u (n + 1) (F + 1) k = k := by rw [own_sk, if_pos e2]
        rw [e3] at kon
        exact kon T1 locs1 X1 e1 N1)
      (fun n53 T1 locs1 X1 e1 N1 => by
        have huk := hu k hk
        have ne : u k ≠ n + 1 := fun z => n53 (by rw [z, own_add1 (by omega)])
        have e3 : own_sk u (n + 1) (F + 1) k = own_sk u (n + 1) F ((k + 1) % 32) := by rw [own_sk, if_neg ne]
        rw [e3] at kon
        rw [own_nx hk]
        exact lpS hw a1 t1 t2 t3 mm nn n u g hh K Z0 O_a1 O_t1 O_t2 O_t3 hn hu F ((k + 1) % 32) (by omega) (h.resolve_left ne) kon T1 locs1 X1 e1 N1)
theorem d8_65 : decode prog_11_method_8_code 65 = .ok (.aload_n 0, 1) := by decide +kernel
theorem d8_66 : decode prog_11_method_8_code 66 = .ok (.getfield 19, 3) := by decide +kernel
theorem d8_69 : decode prog_11_method_8_code 69 = .ok (.iload_n 3, 1) := by decide +kernel
theorem d8_70 : decode prog_11_method_8_code 70 = .ok (.iconst 0, 1) := by decide +kernel
theorem d8_71 : decode prog_11_method_8_code 71 = .ok (.iastore, 1) := by decide +kernel
theorem d8_72 : decode prog_11_method_8_code 72 = .ok (.aload_n 0, 1) := by decide +kernel
theorem d8_73 : decode prog_11_method_8_code 73 = .ok (.getfield 15, 3) := by decide +kernel
theorem d8_76 : decode prog_11_method_8_code 76 = .ok (.aload_n 0, 1) := by decide +kernel
theorem d8_77 : decode prog_11_method_8_code 77 = .ok (.getfield 22, 3) := by decide +kernel
theorem d8_80 : decode prog_11_method_8_code 80 = .ok (.aconst_null, 1) := by decide +kernel
theorem d8_81 : decode prog_11_method_8_code 81 = .ok (.aastore, 1) := by decide +kernel
theorem d8_82 : decode prog_11_method_8_code 82 = .ok (.goto (-74), 3) := by decide +kernel
set_option maxRecDepth 65536 in
set_option maxHeartbeats 40000000 in
theorem sgT65 {p : Program} {l : Launch} {e : Env} {s : State} {m : MethodId} {args : Array Value} {below : List Frame} {meth : Method} {c : Code} {T0 : State} {locs : List Loc} {Z : State} {a0 : Array Value} {h0 : Heap} {n0 : Nat} (hw : ∀ d ∈ tables_1, d.before a0 Z = true) (a1 t1 t2 t3 : Addr) (mm nn n : Nat) (u : Nat → Nat) (g : Nat → Int32) (hh : Heap) (k : Nat)
    (K : own_Ctx p Z s m meth c "com/example/rhizome/rhizome/tableau/Label" prog_11_method_8_code 4 none "truncate") (X0 : Stand p l e ({ frames := 1, cells := 0, slots := 0, locals := 20 } : Room) s m args below meth c T0 locs 0 0) (e0 : T0.heap = h0) (N0 : Fr n0 locs) (Z0 : n0 ≤ h0.size) (O_a1 : own_Obj Z h0 a1 "com/example/rhizome/rhizome/tableau/Label" [("com/example/rhizome/rhizome/tableau/Label", "concepts", "[I", (.ref t1)), ("com/example/rhizome/rhizome/tableau/Label", "dependencies", "[Lcom/example/rhizome/rhizome/tableau/DependencySet;", (.ref t2)), ("com/example/rhizome/rhizome/tableau/Label", "slots", "[I", (.ref t3)), ("com/example/rhizome/rhizome/tableau/Label", "size", "I", (.int (Int32.ofNat n)))]) (O_t1 : own_Arr Z h0 t1 .int (own_L 16 g)) (O_t2 : own_RArr Z h0 t2 "com/example/rhizome/rhizome/tableau/DependencySet" 16) (O_t3 : own_Arr Z h0 t3 .int (own_L 32 (own_F u))) (hD : own_Dis a1 t1 t2 t3) (f_a1 : n0 ≤ a1) (f_t1 : n0 ≤ t1) (f_t2 : n0 ≤ t2) (f_t3 : n0 ≤ t3) (K0 : Keep hh h0 [a1, t1, t2, t3]) (hk : k < 32) (hn : n < 3) (nxt : ∀ (T0 : State) (locs : List Loc) (h1 : Heap), Stand p l e ({ frames := 1, cells := 0, slots := 0, locals := 20 } : Room) s m args below meth c T0 locs 0 0 → T0.heap = h1 → Fr n0 locs → n0 ≤ h1.size → Keep hh h1 [a1, t1, t2, t3] → own_Obj Z h1 a1 "com/example/rhizome/rhizome/tableau/Label" [("com/example/rhizome/rhizome/tableau/Label", "concepts", "[I", (.ref t1)), ("com/example/rhizome/rhizome/tableau/Label", "dependencies", "[Lcom/example/rhizome/rhizome/tableau/DependencySet;", (.ref t2)), ("com/example/rhizome/rhizome/tableau/Label", "slots", "[I", (.ref t3)), ("com/example/rhizome/rhizome/tableau/Label", "size", "I", (.int (Int32.ofNat n)))] → own_Arr Z h1 t1 .int (own_L 16 g) → own_RArr Z h1 t2 "com/example/rhizome/rhizome/tableau/DependencySet" 16 → own_Arr Z h1 t3 .int (own_L 32 (own_F (own_un u k 0))) → own_Fin p e below (own_P s ({ frames := 1, cells := 0, slots := 0, locals := 20 } : Room) (QT Z a1 t1 t2 t3 nn mm g hh n0)) T0 (mkF m 8 #[.val (.ref a1), .val (.int (Int32.ofNat mm)), .val (.int (31 : Int32)), .val (.int (Int32.ofNat k))] [])) :
    own_Fin p e below (own_P s ({ frames := 1, cells := 0, slots := 0, locals := 20 } : Room) (QT Z a1 t1 t2 t3 nn mm g hh n0)) T0 (mkF m 65 #[.val (.ref a1), .val (.int (Int32.ofNat mm)), .val (.int (31 : Int32)), .val (.int (Int32.ofNat k))] []) := by
  have hx := K.1
  have hZ := K.2.1
  have hby := K.2.2.1
  have hown := K.2.2.2.2.1
  obtain ⟨ne_a1_t1, ne_a1_t2, ne_a1_t3, ne_t1_t2, ne_t1_t3, ne_t2_t3⟩ := hD
  have ne_t1_a1 := ne_a1_t1.symm
  have ne_t2_a1 := ne_a1_t2.symm
  have ne_t3_a1 := ne_a1_t3.symm
  have ne_t2_t1 := ne_t1_t2.symm
  have ne_t3_t1 := ne_t1_t3.symm
  have ne_t3_t2 := ne_t2_t3.symm
  have K0' := K0
  have K1 : Keep h0 h0 [a1, t1, t2, t3] := Keep.refl _ _
  refine own_seg (T' := T0) (g' := (mkF m 66 #[.val (.ref a1), .val (.int (Int32.ofNat mm)), .val (.int (31 : Int32)), .val (.int (Int32.ofNat k))] [(.ref a1)])) (fun tg kt => ?_) ?_
  · show Steps p.tables e below (T0.setTop (mkF m 65 #[.val (.ref a1), .val (.int (Int32.ofNat mm)), .val (.int (31 : Int32)), .val (.int (Int32.ofNat k))] [])) tg
    refine XS.aloadN X0.here hx rfl (hb hby d8_65) rfl rfl ?_
    exact kt
  refine own_getF K X0 e0 (host := "") (Or.inl (hw _ (List.mem_of_getElem? (i := 16) rfl))) Via.refl (O_a1.get 2 rfl) d8_66 ?_
  intro T1 X1 e1
  show own_Fin p e below _ T1 (mkF m 69 #[.val (.ref a1), .val (.int (Int32.ofNat mm)), .val (.int (31 : Int32)), .val (.int (Int32.ofNat k))] [(.ref t3)])
  refine own_seg (T' := T1) (g' := (mkF m 71 #[.val (.ref a1), .val (.int (Int32.ofNat mm)), .val (.int (31 : Int32)), .val (.int (Int32.ofNat k))] [(.int (0 : Int32)), (.int (Int32.ofNat k)), (.ref t3)])) (fun tg kt => ?_) ?_
  · show Steps p.tables e below (T1.setTop (mkF m 69 #[.val (.ref a1), .val (.int (Int32.ofNat mm)), .val (.int (31 : Int32)), .val (.int (Int32.ofNat k))] [(.ref t3)])) tg
    refine XS.iloadN X1.here hx rfl (hb hby d8_69) rfl ?_
    show Steps p.tables e below (T1.setTop (mkF m 70 #[.val (.ref a1), .val (.int (Int32.ofNat mm)), .val (.int (31 : Int32)), .val (.int (Int32.ofNat k))] [(.int (Int32.ofNat k)), (.ref t3)])) tg
    refine XS.iconst X1.here hx rfl (hb hby d8_70) ?_
    exact kt
  refine own_iastore K X1 e1 O_t3 (own_nn (by omega)) (by rw [own_cl (by omega), own_L_len]; exact hk) d8_71 ?_
  intro T2 h2 X2 e2 W2
  have O_a1_2 : own_Obj Z h2 a1 "com/example/rhizome/rhizome/tableau/Label" [("com/example/rhizome/rhizome/tableau/Label", "concepts", "[I", (.ref t1)), ("com/example/rhizome/rhizome/tableau/Label", "dependencies", "[Lcom/example/rhizome/rhizome/tableau/DependencySet;", (.ref t2)), ("com/example/rhizome/rhizome/tableau/Label", "slots", "[I", (.ref t3)), ("com/example/rhizome/rhizome/tableau/Label", "size", "I", (.int (Int32.ofNat n)))] := O_a1.other W2 ne_a1_t3
  have O_t1_2 : own_Arr Z h2 t1 .int (own_L 16 g) := O_t1.other W2 ne_t1_t3
  have O_t2_2 : own_RArr Z h2 t2 "com/example/rhizome/rhizome/tableau/DependencySet" 16 := O_t2.other W2 ne_t2_t3
  have O_t3_2 : own_Arr Z h2 t3 .int (own_L 32 (own_F (own_un u k 0))) := (by have q1 := (O_t3.set W2); rw [own_Lset hk (by decide), show (0 : Int32) = Int32.ofNat 0 from rfl, own_Fun] at q1; exact q1)
  have Z2 : n0 ≤ h2.size := by rw [Wr.size W2]; exact Z0
  have N2 := Fr.snoc X2 N0 f_t3
  have K2 := K1.wr W2 (Or.inl (List.mem_of_getElem? (i := 3) rfl))
  show own_Fin p e below _ T2 (mkF m 72 #[.val (.ref a1), .val (.int (Int32.ofNat mm)), .val (.int (31 : Int32)), .val (.int (Int32.ofNat k))] [])
  refine own_seg (T' := T2) (g' := (mkF m 73 #[.val (.ref a1), .val (.int (Int32.ofNat mm)), .val (.int (31 : Int32)), .val (.int (Int32.ofNat k))] [(.ref a1)])) (fun tg kt => ?_) ?_
  · show Steps p.tables e below (T2.setTop (mkF m 72 #[.val (.ref a1), .val (.int (Int32.ofNat mm)), .val (.int (31 : Int32)), .val (.int (Int32.ofNat k))] [])) tg
    refine XS.aloadN X2.here hx rfl (hb hby d8_72) rfl rfl ?_
    exact kt
  refine own_getF K X2 e2 (host := "") (Or.inl (hw _ (List.mem_of_getElem? (i := 14) rfl))) Via.refl (O_a1_2.get 1 rfl) d8_73 ?_
  intro T3 X3 e3
  show own_Fin p e below _ T3 (mkF m 76 #[.val (.ref a1), .val (.int (Int32.ofNat mm)), .val (.int (31 : Int32)), .val (.int (Int32.ofNat k))] [(.ref t2)])
  refine own_seg (T' := T3) (g' := (mkF m 77 #[.val (.ref a1), .val (.int (Int32.ofNat mm)), .val (.int (31 : Int32)), .val (.int (Int32.ofNat k))] [(.ref a1), (.ref t2)])) (fun tg kt => ?_) ?_
  · show Steps p.tables e below (T3.setTop (mkF m 76 #[.val (.ref a1), .val (.int (Int32.ofNat mm)), .val (.int (31 : Int32)), .val (.int (Int32.ofNat k))] [(.ref t2)])) tg
    refine XS.aloadN X3.here hx rfl (hb hby d8_76) rfl rfl ?_
    exact kt
  refine own_getF K X3 e3 (host := "") (Or.inl (hw _ (List.mem_of_getElem? (i := 40) rfl))) Via.refl (O_a1_2.get 3 rfl) d8_77 ?_
  intro T4 X4 e4
  show own_Fin p e below _ T4 (mkF m 80 #[.val (.ref a1), .val (.int (Int32.ofNat mm)), .val (.int (31 : Int32)), .val (.int (Int32.ofNat k))] [(.int (Int32.ofNat n)), (.ref t2)])
  refine own_seg (T' := T4) (g' := (mkF m 81 #[.val (.ref a1), .val (.int (Int32.ofNat mm)), .val (.int (31 : Int32)), .val (.int (Int32.ofNat k))] [.null, (.int (Int32.ofNat n)), (.ref t2)])) (fun tg kt => ?_) ?_
  · show Steps p.tables e below (T4.setTop (mkF m 80 #[.val (.ref a1), .val (.int (Int32.ofNat mm)), .val (.int (31 : Int32)), .val (.int (Int32.ofNat k))] [(.int (Int32.ofNat n)), (.ref t2)])) tg
    refine XS.aconstNull X4.here hx rfl (hb hby d8_80) ?_
    exact kt
  refine own_aastore K X4 e4 O_t2_2 (own_nn (by omega)) (by rw [own_cl (by omega)]; omega) (Or.inl rfl) d8_81 ?_
  intro T5 h5 X5 e5 W5
  have O_a1_5 : own_Obj Z h5 a1 "com/example/rhizome/rhizome/tableau/Label" [("com/example/rhizome/rhizome/tableau/Label", "concepts", "[I", (.ref t1)), ("com/example/rhizome/rhizome/tableau/Label", "dependencies", "[Lcom/example/rhizome/rhizome/tableau/DependencySet;", (.ref t2)), ("com/example/rhizome/rhizome/tableau/Label", "slots", "[I", (.ref t3)), ("com/example/rhizome/rhizome/tableau/Label", "size", "I", (.int (Int32.ofNat n)))] := O_a1_2.other W5 ne_a1_t2
  have O_t1_5 : own_Arr Z h5 t1 .int (own_L 16 g) := O_t1_2.other W5 ne_t1_t2
  have O_t3_5 : own_Arr Z h5 t3 .int (own_L 32 (own_F (own_un u k 0))) := O_t3_2.other W5 ne_t3_t2
  have O_t2_5 : own_RArr Z h5 t2 "com/example/rhizome/rhizome/tableau/DependencySet" 16 := O_t2_2.set W5
  have Z5 : n0 ≤ h5.size := by rw [Wr.size W5]; exact Z2
  have N5 := Fr.snoc X5 N2 f_t2
  have K5 := K2.wr W5 (Or.inl (List.mem_of_getElem? (i := 2) rfl))
  show own_Fin p e below _ T5 (mkF m 82 #[.val (.ref a1), .val (.int (Int32.ofNat mm)), .val (.int (31 : Int32)), .val (.int (Int32.ofNat k))] [])
  refine own_seg (T' := T5) (g' := (mkF m 8 #[.val (.ref a1), .val (.int (Int32.ofNat mm)), .val (.int (31 : Int32)), .val (.int (Int32.ofNat k))] [])) (fun tg kt => ?_) ?_
  · show Steps p.tables e below (T5.setTop (mkF m 82 #[.val (.ref a1), .val (.int (Int32.ofNat mm)), .val (.int (31 : Int32)), .val (.int (Int32.ofNat k))] [])) tg
    refine XS.goto X5.here hx rfl (pc0 := 82) (pc' := 8) rfl (hb hby d8_82) (by decide) (by decide) ?_
    exact kt
  exact nxt _ _ _ X5 e5 N5 Z5 (Keep.trans K0 K5 (fun x hx => Or.inl hx)) O_a1_5 O_t1_5 O_t2_5 O_t3_5
theorem d8_8 : decode prog_11_method_8_code 8 = .ok (.aload_n 0, 1) := by decide +kernel
theorem d8_9 : decode prog_11_method_8_code 9 = .ok (.getfield 22, 3) := by decide +kernel
theorem d8_12 : decode prog_11_method_8_code 12 = .ok (.iload_n 1, 1) := by decide +kernel
theorem d8_13 : decode prog_11_method_8_code 13 = .ok (.if_icmp .le 72, 3) := by decide +kernel
theorem d8_85 : decode prog_11_method_8_code 85 = .ok (.return_, 1) := by decide +kernel
set_option maxRecDepth 65536 in
set_option maxHeartbeats 40000000 in
theorem sgT8 {p : Program} {l : Launch} {e : Env} {s : State} {m : MethodId} {args : Array Value} {below : List Frame} {meth : Method} {c : Code} {T0 : State} {locs : List Loc} {Z : State} {a0 : Array Value} {h0 : Heap} {n0 : Nat} (hw : ∀ d ∈ tables_1, d.before a0 Z = true) (a1 t1 t2 t3 : Addr) (mm nn n : Nat) (u : Nat → Nat) (g : Nat → Int32) (hh : Heap) (s3 : Slot)
    (K : own_Ctx p Z s m meth c "com/example/rhizome/rhizome/tableau/Label" prog_11_method_8_code 4 none "truncate") (X0 : Stand p l e ({ frames := 1, cells := 0, slots := 0, locals := 20 } : Room) s m args below meth c T0 locs 0 0) (e0 : T0.heap = h0) (N0 : Fr n0 locs) (Z0 : n0 ≤ h0.size) (O_a1 : own_Obj Z h0 a1 "com/example/rhizome/rhizome/tableau/Label" [("com/example/rhizome/rhizome/tableau/Label", "concepts", "[I", (.ref t1)), ("com/example/rhizome/rhizome/tableau/Label", "dependencies", "[Lcom/example/rhizome/rhizome/tableau/DependencySet;", (.ref t2)), ("com/example/rhizome/rhizome/tableau/Label", "slots", "[I", (.ref t3)), ("com/example/rhizome/rhizome/tableau/Label", "size", "I", (.int (Int32.ofNat n)))]) (O_t1 : own_Arr Z h0 t1 .int (own_L 16 g)) (O_t2 : own_RArr Z h0 t2 "com/example/rhizome/rhizome/tableau/DependencySet" 16) (O_t3 : own_Arr Z h0 t3 .int (own_L 32 (own_F u))) (K0 : Keep hh h0 [a1, t1, t2, t3]) (hT : own_Tab u g n) (hmin : ¬ (Int32.ofNat mm < Int32.ofNat n) → n = min nn mm) (dwn : Int32.ofNat mm < Int32.ofNat n → ∀ (T0 : State) (locs : List Loc), Stand p l e ({ frames := 1, cells := 0, slots := 0, locals := 20 } : Room) s m args below meth c T0 locs 0 0 → T0.heap = h0 → Fr n0 locs → own_Fin p e below (own_P s ({ frames := 1, cells := 0, slots := 0, locals := 20 } : Room) (QT Z a1 t1 t2 t3 nn mm g hh n0)) T0 (mkF m 16 #[.val (.ref a1), .val (.int (Int32.ofNat mm)), .val (.int (31 : Int32)), s3] [])) :
    own_Fin p e below (own_P s ({ frames := 1, cells := 0, slots := 0, locals := 20 } : Room) (QT Z a1 t1 t2 t3 nn mm g hh n0)) T0 (mkF m 8 #[.val (.ref a1), .val (.int (Int32.ofNat mm)), .val (.int (31 : Int32)), s3] []) := by
  have hx := K.1
  have hZ := K.2.1
  have hby := K.2.2.1
  have hown := K.2.2.2.2.1
  refine own_seg (T' := T0) (g' := (mkF m 9 #[.val (.ref a1), .val (.int (Int32.ofNat mm)), .val (.int (31 : Int32)), s3] [(.ref a1)])) (fun tg kt => ?_) ?_
  · show Steps p.tables e below (T0.setTop (mkF m 8 #[.val (.ref a1), .val (.int (Int32.ofNat mm)), .val (.int (31 : Int32)), s3] [])) tg
    refine XS.aloadN X0.here hx rfl (hb hby d8_8) rfl rfl ?_
    exact kt
  refine own_getF K X0 e0 (host := "") (Or.inl (hw _ (List.mem_of_getElem? (i := 40) rfl))) Via.refl (O_a1.get 3 rfl) d8_9 ?_
  intro T1 X1 e1
  show own_Fin p e below _ T1 (mkF m 12 #[.val (.ref a1), .val (.int (Int32.ofNat mm)), .val (.int (31 : Int32)), s3] [(.int (Int32.ofNat n))])
  refine own_seg (T' := T1) (g' := (mkF m 13 #[.val (.ref a1), .val (.int (Int32.ofNat mm)), .val (.int (31 : Int32)), s3] [(.int (Int32.ofNat mm)), (.int (Int32.ofNat n))])) (fun tg kt => ?_) ?_
  · show Steps p.tables e below (T1.setTop (mkF m 12 #[.val (.ref a1), .val (.int (Int32.ofNat mm)), .val (.int (31 : Int32)), s3] [(.int (Int32.ofNat n))])) tg
    refine XS.iloadN X1.here hx rfl (hb hby d8_12) rfl ?_
    exact kt
  by_cases hc13 : (Int32.ofNat mm) < (Int32.ofNat n)
  · skip
    refine own_seg (T' := T1) (g' := (mkF m 16 #[.val (.ref a1), .val (.int (Int32.ofNat mm)), .val (.int (31 : Int32)), s3] [])) (fun tg kt => XS.icmpNo X1.here hx rfl (hb hby d8_13) rfl (tlt hc13).2.2.2 kt) ?_
    exact dwn hc13 _ _ X1 e1 N0
  · skip
    refine own_seg (T' := T1) (g' := (mkF m 85 #[.val (.ref a1), .val (.int (Int32.ofNat mm)), .val (.int (31 : Int32)), s3] [])) (fun tg kt => XS.icmpYes X1.here hx rfl (pc0 := 13) (pc' := 85) rfl (hb hby d8_13) rfl (flt hc13).2.2.2 (by decide) (by decide) kt) ?_
    exact own_retV K X1 d8_85 (by rw [e1]; exact ⟨n, u, rfl, N0, K0, hmin hc13, hT, O_a1, O_t1, O_t2, O_t3⟩) (by decide) (by decide)
theorem d8_16 : decode prog_11_method_8_code 16 = .ok (.aload_n 0, 1) := by decide +kernel
theorem d8_17 : decode prog_11_method_8_code 17 = .ok (.dup, 1) := by decide +kernel
theorem d8_18 : decode prog_11_method_8_code 18 = .ok (.getfield 22, 3) := by decide +kernel
theorem d8_21 : decode prog_11_method_8_code 21 = .ok (.iconst 1, 1) := by decide +kernel
theorem d8_22 : decode prog_11_method_8_code 22 = .ok (.isub, 1) := by decide +kernel
theorem d8_23 : decode prog_11_method_8_code 23 = .ok (.putfield 22, 3) := by decide +kernel
theorem d8_26 : decode prog_11_method_8_code 26 = .ok (.aload_n 0, 1) := by decide +kernel
theorem d8_27 : decode prog_11_method_8_code 27 = .ok (.getfield 7, 3) := by decide +kernel
theorem d8_30 : decode prog_11_method_8_code 30 = .ok (.aload_n 0, 1) := by decide +kernel
theorem d8_31 : decode prog_11_method_8_code 31 = .ok (.getfield 22, 3) := by decide +kernel
theorem d8_34 : decode prog_11_method_8_code 34 = .ok (.iaload, 1) := by decide +kernel
theorem d8_35 : decode prog_11_method_8_code 35 = .ok (.invokestatic 26, 3) := by decide +kernel
theorem d8_38 : decode prog_11_method_8_code 38 = .ok (.iload_n 2, 1) := by decide +kernel
theorem d8_39 : decode prog_11_method_8_code 39 = .ok (.iand, 1) := by decide +kernel
theorem d8_40 : decode prog_11_method_8_code 40 = .ok (.istore_n 3, 1) := by decide +kernel
set_option maxRecDepth 65536 in
set_option maxHeartbeats 40000000 in
theorem sgT16 {p : Program} {l : Launch} {e : Env} {s : State} {m : MethodId} {args : Array Value} {below : List Frame} {meth : Method} {c : Code} {T0 : State} {locs : List Loc} {Z : State} {a0 : Array Value} {h0 : Heap} {n0 : Nat} (hw : ∀ d ∈ tables_1, d.before a0 Z = true) (a1 t1 t2 t3 : Addr) (mm nn n : Nat) (u : Nat → Nat) (g : Nat → Int32) (hh : Heap) (s3 : Slot)
    (K : own_Ctx p Z s m meth c "com/example/rhizome/rhizome/tableau/Label" prog_11_method_8_code 4 none "truncate") (X0 : Stand p l e ({ frames := 1, cells := 0, slots := 0, locals := 20 } : Room) s m args below meth c T0 locs 0 0) (e0 : T0.heap = h0) (N0 : Fr n0 locs) (Z0 : n0 ≤ h0.size) (O_a1 : own_Obj Z h0 a1 "com/example/rhizome/rhizome/tableau/Label" [("com/example/rhizome/rhizome/tableau/Label", "concepts", "[I", (.ref t1)), ("com/example/rhizome/rhizome/tableau/Label", "dependencies", "[Lcom/example/rhizome/rhizome/tableau/DependencySet;", (.ref t2)), ("com/example/rhizome/rhizome/tableau/Label", "slots", "[I", (.ref t3)), ("com/example/rhizome/rhizome/tableau/Label", "size", "I", (.int (Int32.ofNat (n + 1))))]) (O_t1 : own_Arr Z h0 t1 .int (own_L 16 g)) (O_t2 : own_RArr Z h0 t2 "com/example/rhizome/rhizome/tableau/DependencySet" 16) (O_t3 : own_Arr Z h0 t3 .int (own_L 32 (own_F u))) (hs3 : One s3) (hD : own_Dis a1 t1 t2 t3) (f_a1 : n0 ≤ a1) (f_t1 : n0 ≤ t1) (f_t2 : n0 ≤ t2) (f_t3 : n0 ≤ t3) (K0 : Keep hh h0 [a1, t1, t2, t3]) (hn : n < 3) (inn : ∀ (T0 : State) (locs : List Loc) (h1 : Heap), Stand p l e ({ frames := 1, cells := 0, slots := 0, locals := 20 } : Room) s m args below meth c T0 locs 0 0 → T0.heap = h1 → Fr n0 locs → n0 ≤ h1.size → Keep hh h1 [a1, t1, t2, t3] → own_Obj Z h1 a1 "com/example/rhizome/rhizome/tableau/Label" [("com/example/rhizome/rhizome/tableau/Label", "concepts", "[I", (.ref t1)), ("com/example/rhizome/rhizome/tableau/Label", "dependencies", "[Lcom/example/rhizome/rhizome/tableau/DependencySet;", (.ref t2)), ("com/example/rhizome/rhizome/tableau/Label", "slots", "[I", (.ref t3)), ("com/example/rhizome/rhizome/tableau/Label", "size", "I", (.int (Int32.ofNat n)))] → own_Arr Z h1 t1 .int (own_L 16 g) → own_RArr Z h1 t2 "com/example/rhizome/rhizome/tableau/DependencySet" 16 → own_Arr Z h1 t3 .int (own_L 32 (own_F u)) → own_Fin p e below (own_P s ({ frames := 1, cells := 0, slots := 0, locals := 20 } : Room) (QT Z a1 t1 t2 t3 nn mm g hh n0)) T0 (mkF m 41 #[.val (.ref a1), .val (.int (Int32.ofNat mm)), .val (.int (31 : Int32)), .val (.int (Int32.ofNat (own_H (g n))))] [])) :
    own_Fin p e below (own_P s ({ frames := 1, cells := 0, slots := 0, locals := 20 } : Room) (QT Z a1 t1 t2 t3 nn mm g hh n0)) T0 (mkF m 16 #[.val (.ref a1), .val (.int (Int32.ofNat mm)), .val (.int (31 : Int32)), s3] []) := by
  have hx := K.1
  have hZ := K.2.1
  have hby := K.2.2.1
  have hown := K.2.2.2.2.1
  obtain ⟨ne_a1_t1, ne_a1_t2, ne_a1_t3, ne_t1_t2, ne_t1_t3, ne_t2_t3⟩ := hD
  have ne_t1_a1 := ne_a1_t1.symm
  have ne_t2_a1 := ne_a1_t2.symm
  have ne_t3_a1 := ne_a1_t3.symm
  have ne_t2_t1 := ne_t1_t2.symm
  have ne_t3_t1 := ne_t1_t3.symm
  have ne_t3_t2 := ne_t2_t3.symm
  have K0' := K0
  have K1 : Keep h0 h0 [a1, t1, t2, t3] := Keep.refl _ _
  refine own_seg (T' := T0) (g' := (mkF m 18 #[.val (.ref a1), .val (.int (Int32.ofNat mm)), .val (.int (31 : Int32)), s3] [(.ref a1), (.ref a1)])) (fun tg kt => ?_) ?_
  · show Steps p.tables e below (T0.setTop (mkF m 16 #[.val (.ref a1), .val (.int (Int32.ofNat mm)), .val (.int (31 : Int32)), s3] [])) tg
    refine XS.aloadN X0.here hx rfl (hb hby d8_16) rfl rfl ?_
    show Steps p.tables e below (T0.setTop (mkF m 17 #[.val (.ref a1), .val (.int (Int32.ofNat mm)), .val (.int (31 : Int32)), s3] [(.ref a1)])) tg
    refine XS.dup X0.here hx rfl (hb hby d8_17) rfl rfl ?_
    exact kt
  refine own_getF K X0 e0 (host := "") (Or.inl (hw _ (List.mem_of_getElem? (i := 40) rfl))) Via.refl (O_a1.get 3 rfl) d8_18 ?_
  intro T1 X1 e1
  show own_Fin p e below _ T1 (mkF m 21 #[.val (.ref a1), .val (.int (Int32.ofNat mm)), .val (.int (31 : Int32)), s3] [(.int (Int32.ofNat (n + 1))), (.ref a1)])
  refine own_seg (T' := T1) (g' := (mkF m 23 #[.val (.ref a1), .val (.int (Int32.ofNat mm)), .val (.int (31 : Int32)), s3] [(.int ((Int32.ofNat (n + 1)) - (1 : Int32))), (.ref a1)])) (fun tg kt => ?_) ?_
  · show Steps p.tables e below (T1.setTop (mkF m 21 #[.val (.ref a1), .val (.int (Int32.ofNat mm)), .val (.int (31 : Int32)), s3] [(.int (Int32.ofNat (n + 1))), (.ref a1)])) tg
    refine XS.iconst X1.here hx rfl (hb hby d8_21) ?_
    show Steps p.tables e below (T1.setTop (mkF m 22 #[.val (.ref a1), .val (.int (Int32.ofNat mm)), .val (.int (31 : Int32)), s3] [(.int (1 : Int32)), (.int (Int32.ofNat (n + 1))), (.ref a1)])) tg
    refine XS.isub X1.here hx rfl (hb hby d8_22) rfl ?_
    exact kt
  refine own_putF K X1 e1 (host := "") (Or.inl (hw _ (List.mem_of_getElem? (i := 40) rfl))) Via.refl (O_a1.get 3 rfl) O_a1.exa (Or.inl (hw _ (List.mem_of_getElem? (i := 41) rfl))) (hw _ (List.mem_of_getElem? (i := 1) rfl)) (ty := .int) (by decide) rfl rfl d8_23 ?_
  intro T2 h2 X2 e2 W2
  have O_t1_2 : own_Arr Z h2 t1 .int (own_L 16 g) := O_t1.other W2 ne_t1_a1
  have O_t2_2 : own_RArr Z h2 t2 "com/example/rhizome/rhizome/tableau/DependencySet" 16 := O_t2.other W2 ne_t2_a1
  have O_t3_2 : own_Arr Z h2 t3 .int (own_L 32 (own_F u)) := O_t3.other W2 ne_t3_a1
  have O_a1_2 : own_Obj Z h2 a1 "com/example/rhizome/rhizome/tableau/Label" [("com/example/rhizome/rhizome/tableau/Label", "concepts", "[I", (.ref t1)), ("com/example/rhizome/rhizome/tableau/Label", "dependencies", "[Lcom/example/rhizome/rhizome/tableau/DependencySet;", (.ref t2)), ("com/example/rhizome/rhizome/tableau/Label", "slots", "[I", (.ref t3)), ("com/example/rhizome/rhizome/tableau/Label", "size", "I", (.int ((Int32.ofNat (n + 1)) - (1 : Int32))))] := O_a1.put (own_lay_Label hw) rfl own_nd_Label 3 rfl W2
  have Z2 : n0 ≤ h2.size := by rw [Wr.size W2]; exact Z0
  have N2 := Fr.snoc X2 N0 f_a1
  have K2 := K1.wr W2 (Or.inl (List.mem_of_getElem? (i := 0) rfl))
  show own_Fin p e below _ T2 (mkF m 26 #[.val (.ref a1), .val (.int (Int32.ofNat mm)), .val (.int (31 : Int32)), s3] [])
  rw [own_sub1 (by omega)] at O_a1_2
  refine own_seg (T' := T2) (g' := (mkF m 27 #[.val (.ref a1), .val (.int (Int32.ofNat mm)), .val (.int (31 : Int32)), s3] [(.ref a1)])) (fun tg kt => ?_) ?_
  · show Steps p.tables e below (T2.setTop (mkF m 26 #[.val (.ref a1), .val (.int (Int32.ofNat mm)), .val (.int (31 : Int32)), s3] [])) tg
    refine XS.aloadN X2.here hx rfl (hb hby d8_26) rfl rfl ?_
    exact kt
  refine own_getF K X2 e2 (host := "") (Or.inl (hw _ (List.mem_of_getElem? (i := 10) rfl))) Via.refl (O_a1_2.get 0 rfl) d8_27 ?_
  intro T3 X3 e3
  show own_Fin p e below _ T3 (mkF m 30 #[.val (.ref a1), .val (.int (Int32.ofNat mm)), .val (.int (31 : Int32)), s3] [(.ref t1)])
  refine own_seg (T' := T3) (g' := (mkF m 31 #[.val (.ref a1), .val (.int (Int32.ofNat mm)), .val (.int (31 : Int32)), s3] [(.ref a1), (.ref t1)])) (fun tg kt => ?_) ?_
  · show Steps p.tables e below (T3.setTop (mkF m 30 #[.val (.ref a1), .val (.int (Int32.ofNat mm)), .val (.int (31 : Int32)), s3] [(.ref t1)])) tg
    refine XS.aloadN X3.here hx rfl (hb hby d8_30) rfl rfl ?_
    exact kt
  refine own_getF K X3 e3 (host := "") (Or.inl (hw _ (List.mem_of_getElem? (i := 40) rfl))) Via.refl (O_a1_2.get 3 rfl) d8_31 ?_
  intro T4 X4 e4
  show own_Fin p e below _ T4 (mkF m 34 #[.val (.ref a1), .val (.int (Int32.ofNat mm)), .val (.int (31 : Int32)), s3] [(.int (Int32.ofNat n)), (.ref t1)])
  refine own_iaload K X4 e4 O_t1_2 (own_nn (by omega)) (own_Lat (by omega) (by decide)) d8_34 ?_
  show own_Fin p e below _ T4 (mkF m 35 #[.val (.ref a1), .val (.int (Int32.ofNat mm)), .val (.int (31 : Int32)), s3] [(.int (g n))])
  refine own_callS K X4 e4 (rmH l Z a0 hw (g n) h2 n0 Z2) (hw _ (List.mem_of_getElem? (i := 36) rfl)) (hw _ (List.mem_of_getElem? (i := 37) rfl)) (hw _ (List.mem_of_getElem? (i := 2) rfl)) (hw _ (List.mem_of_getElem? (i := 38) rfl)) (by decide) [(.int (g n))] [] own_pd0 rfl rfl rfl rfl d8_35 (by decide) (Nat.le_of_ble_eq_true rfl) (by decide) (by decide) ?_
  intro T6 L6 v6 X6 hQ6
  obtain ⟨rfl, Nq6, e6⟩ := hQ6
  have N6 := Fr.app N2 Nq6
  show own_Fin p e below _ T6 (mkF m 38 #[.val (.ref a1), .val (.int (Int32.ofNat mm)), .val (.int (31 : Int32)), s3] [(.int (own_hs (g n)))])
  refine own_seg (T' := T6) (g' := (mkF m 41 #[.val (.ref a1), .val (.int (Int32.ofNat mm)), .val (.int (31 : Int32)), .val (.int ((own_hs (g n)) &&& (31 : Int32)))] [])) (fun tg kt => ?_) ?_
  · show Steps p.tables e below (T6.setTop (mkF m 38 #[.val (.ref a1), .val (.int (Int32.ofNat mm)), .val (.int (31 : Int32)), s3] [(.int (own_hs (g n)))])) tg
    refine XS.iloadN X6.here hx rfl (hb hby d8_38) rfl ?_
    show Steps p.tables e below (T6.setTop (mkF m 39 #[.val (.ref a1), .val (.int (Int32.ofNat mm)), .val (.int (31 : Int32)), s3] [(.int (31 : Int32)), (.int (own_hs (g n)))])) tg
    refine XS.iand X6.here hx rfl (hb hby d8_39) rfl ?_
    show Steps p.tables e below (T6.setTop (mkF m 40 #[.val (.ref a1), .val (.int (Int32.ofNat mm)), .val (.int (31 : Int32)), s3] [(.int ((own_hs (g n)) &&& (31 : Int32)))])) tg
    refine XS.istoreN X6.here hx rfl (hb hby d8_40) rfl (l' := #[.val (.ref a1), .val (.int (Int32.ofNat mm)), .val (.int (31 : Int32)), .val (.int ((own_hs (g n)) &&& (31 : Int32)))]) (XS.store1 rfl hs3 rfl) ?_
    exact kt
  rw [own_H_eq]
  exact inn _ _ _ X6 e6 N6 Z2 (Keep.trans K0 K2 (fun x hx => Or.inl hx)) O_a1_2 O_t1_2 O_t2_2 O_t3_2
theorem lpT {p : Program} {l : Launch} {e : Env} {s : State} {m : MethodId} {args : Array Value} {below : List Frame} {meth : Method} {c : Code} {Z : State} {a0 : Array Value} {n0 : Nat} (hw : ∀ d ∈ tables_1, d.before a0 Z = true) (a1 t1 t2 t3 : Addr) (mm nn : Nat) (g : Nat → Int32) (hh : Heap) (K : own_Ctx p Z s m meth c "com/example/rhizome/rhizome/tableau/Label" prog_11_method_8_code 4 none "truncate") (hD : own_Dis a1 t1 t2 t3) (f_a1 : n0 ≤ a1) (f_t1 : n0 ≤ t1) (f_t2 : n0 ≤ t2) (f_t3 : n0 ≤ t3) (hmm : mm < 2 ^ 30) : ∀ (n : Nat) (u : Nat → Nat) (s3 : Slot) (h0 : Heap) (T0 : State) (locs : List Loc), One s3 → n ≤ nn → mm ≤ n ∨ n = nn → own_Tab u g n → n0 ≤ h0.size → Keep hh h0 [a1, t1, t2, t3] → own_Obj Z h0 a1 "com/example/rhizome/rhizome/tableau/Label" [("com/example/rhizome/rhizome/tableau/Label", "concepts", "[I", (.ref t1)), ("com/example/rhizome/rhizome/tableau/Label", "dependencies", "[Lcom/example/rhizome/rhizome/tableau/DependencySet;", (.ref t2)), ("com/example/rhizome/rhizome/tableau/Label", "slots", "[I", (.ref t3)), ("com/example/rhizome/rhizome/tableau/Label", "size", "I", (.int (Int32.ofNat n)))] → own_Arr Z h0 t1 .int (own_L 16 g) → own_RArr Z h0 t2 "com/example/rhizome/rhizome/tableau/DependencySet" 16 → own_Arr Z h0 t3 .int (own_L 32 (own_F u)) → Stand p l e ({ frames := 1, cells := 0, slots := 0, locals := 20 } : Room) s m args below meth c T0 locs 0 0 → T0.heap = h0 → Fr n0 locs →
    own_Fin p e below (own_P s ({ frames := 1, cells := 0, slots := 0, locals := 20 } : Room) (QT Z a1 t1 t2 t3 nn mm g hh n0)) T0 (mkF m 8 #[.val (.ref a1), .val (.int (Int32.ofNat mm)), .val (.int (31 : Int32)), s3] [])
  | 0, u, s3, h0, T0, locs => fun hs3 hle hor hT Z0 K0 O_a1 O_t1 O_t2 O_t3 X0 e0 N0 => sgT8 hw a1 t1 t2 t3 mm nn 0 u g hh s3 K X0 e0 N0 Z0 O_a1 O_t1 O_t2 O_t3 K0 hT (fun _ => by omega) (fun q => absurd q (own_nn (by omega)))
  | n + 1, u, s3, h0, T0, locs => fun hs3 hle hor hT Z0 K0 O_a1 O_t1 O_t2 O_t3 X0 e0 N0 => sgT8 hw a1 t1 t2 t3 mm nn (n + 1) u g hh s3 K X0 e0 N0 Z0 O_a1 O_t1 O_t2 O_t3 K0 hT
      (fun q => by have h1 := hT.1; rw [Int32.lt_iff_toInt_lt, own_of (by omega), own_of (by omega)] at q; omega)
      (fun q T1 locs1 X1 e1 N1 => by
        have h1 := hT.1
        have hq : mm < n + 1 := by rw [Int32.lt_iff_toInt_lt, own_of (by omega), own_of (by omega)] at q; omega
        have hu : ∀ k, k < 32 → u k ≤ 3 := fun k hk => Nat.le_trans (hT.2.1 k hk) hT.1
        have hk := (own_sk_spec 4 _ (own_H_lt (g n)) (own_cut_stop hT))
        have hk32 : own_sk u (n + 1) 4 (own_H (g n)) < 32 := by obtain ⟨j, -, j2, -⟩ := hk; omega
        exact sgT16 hw a1 t1 t2 t3 mm nn n u g hh s3 K X1 e1 N1 Z0 O_a1 O_t1 O_t2 O_t3 hs3 hD f_a1 f_t1 f_t2 f_t3 K0 (by omega)
          (fun T2 locs2 h2 X2 e2 N2 Z2 K2 P_a1 P_t1 P_t2 P_t3 => lpS hw a1 t1 t2 t3 mm nn n u g hh K Z2 P_a1 P_t1 P_t2 P_t3 (by omega) hu 4 _ (own_H_lt _) (own_cut_stop hT)
            (fun T3 locs3 X3 e3 N3 => sgT65 hw a1 t1 t2 t3 mm nn n u g hh _ K X3 e3 N3 Z2 P_a1 P_t1 P_t2 P_t3 hD f_a1 f_t1 f_t2 f_t3 K2 hk32 (by omega)
              (fun T4 locs4 h4 X4 e4 N4 Z4 K4 R_a1 R_t1 R_t2 R_t3 => lpT hw a1 t1 t2 t3 mm nn g hh K hD f_a1 f_t1 f_t2 f_t3 hmm n _ _ h4 T4 locs4 (One.val rfl) (by omega) (by omega) (own_Tab_cut hT) Z4 K4 R_a1 R_t1 R_t2 R_t3 X4 e4 N4)) T2 locs2 X2 e2 N2))
theorem own_pn8 : plainName "com/example/rhizome/rhizome/tableau/Label" = true := by first | (simp [plainName, overriddenIn]; done) | decide +kernel
theorem d8_0 : decode prog_11_method_8_code 0 = .ok (.aload_n 0, 1) := by decide +kernel
theorem d8_1 : decode prog_11_method_8_code 1 = .ok (.getfield 19, 3) := by decide +kernel
theorem d8_4 : decode prog_11_method_8_code 4 = .ok (.arraylength, 1) := by decide +kernel
theorem d8_5 : decode prog_11_method_8_code 5 = .ok (.iconst 1, 1) := by decide +kernel
theorem d8_6 : decode prog_11_method_8_code 6 = .ok (.isub, 1) := by decide +kernel
theorem d8_7 : decode prog_11_method_8_code 7 = .ok (.istore_n 2, 1) := by decide +kernel
set_option maxRecDepth 65536 in
set_option maxHeartbeats 40000000 in
theorem rmT (l : Launch) (Z : State) (a0 : Array Value) (hw : ∀ d ∈ tables_1, d.before a0 Z = true) (a1 t1 t2 t3 : Addr) (mm n : Nat) (u : Nat → Nat) (g : Nat → Int32) (h0 : Heap) (n0 : Nat) (Z0 : n0 ≤ h0.size) (O_a1 : own_Obj Z h0 a1 "com/example/rhizome/rhizome/tableau/Label" [("com/example/rhizome/rhizome/tableau/Label", "concepts", "[I", (.ref t1)), ("com/example/rhizome/rhizome/tableau/Label", "dependencies", "[Lcom/example/rhizome/rhizome/tableau/DependencySet;", (.ref t2)), ("com/example/rhizome/rhizome/tableau/Label", "slots", "[I", (.ref t3)), ("com/example/rhizome/rhizome/tableau/Label", "size", "I", (.int (Int32.ofNat n)))]) (O_t1 : own_Arr Z h0 t1 .int (own_L 16 g)) (O_t2 : own_RArr Z h0 t2 "com/example/rhizome/rhizome/tableau/DependencySet" 16) (O_t3 : own_Arr Z h0 t3 .int (own_L 32 (own_F u))) (hD : own_Dis a1 t1 t2 t3) (f_a1 : n0 ≤ a1) (f_t1 : n0 ≤ t1) (f_t2 : n0 ≤ t2) (f_t3 : n0 ≤ t3) (hmm : mm < 2 ^ 30) (hT : own_Tab u g n) :
    own_Met l Z (⟨"com/example/rhizome/rhizome/tableau/Label", "truncate", "(I)V"⟩ : MethodName) prog_11_method_8_code 4 none ({ frames := 1, cells := 0, slots := 0, locals := 20 } : Room) #[(.ref a1), (.int (Int32.ofNat mm))] h0 (QT Z a1 t1 t2 t3 n mm g h0 n0) := by
  refine own_enter (plainFor_of_name own_pn8) (fun m => by first | (simp [entryFrame, mkF, argsToLocals, Value.category, maxLocals]; done) | rfl) (Ls := #[.val (.ref a1), .val (.int (Int32.ofNat mm)), .unset, .unset]) ?_
  intro p e s m below meth c T0 K X0 e0
  have hx := K.1
  have hZ := K.2.1
  have hby := K.2.2.1
  have hown := K.2.2.2.2.1
  have N0 := Fr.nil n0
  show own_Fin p e below _ T0 (mkF m 0 #[.val (.ref a1), .val (.int (Int32.ofNat mm)), .unset, .unset] [])
  refine own_seg (T' := T0) (g' := (mkF m 1 #[.val (.ref a1), .val (.int (Int32.ofNat mm)), .unset, .unset] [(.ref a1)])) (fun tg kt => ?_) ?_
  · show Steps p.tables e below (T0.setTop (mkF m 0 #[.val (.ref a1), .val (.int (Int32.ofNat mm)), .unset, .unset] [])) tg
    refine XS.aloadN X0.here hx rfl (hb hby d8_0) rfl rfl ?_
    exact kt
  refine own_getF K X0 e0 (host := "") (Or.inl (hw _ (List.mem_of_getElem? (i := 16) rfl))) Via.refl (O_a1.get 2 rfl) d8_1 ?_
  intro T1 X1 e1
  show own_Fin p e below _ T1 (mkF m 4 #[.val (.ref a1), .val (.int (Int32.ofNat mm)), .unset, .unset] [(.ref t3)])
  refine own_alen K X1 e1 O_t3 (n := (32 : Int32)) (by rw [own_L_len]; rfl) d8_4 ?_
  show own_Fin p e below _ T1 (mkF m 5 #[.val (.ref a1), .val (.int (Int32.ofNat mm)), .unset, .unset] [(.int (32 : Int32))])
  refine own_seg (T' := T1) (g' := (mkF m 8 #[.val (.ref a1), .val (.int (Int32.ofNat mm)), .val (.int (31 : Int32)), .unset] [])) (fun tg kt => ?_) ?_
  · show Steps p.tables e below (T1.setTop (mkF m 5 #[.val (.ref a1), .val (.int (Int32.ofNat mm)), .unset, .unset] [(.int (32 : Int32))])) tg
    refine XS.iconst X1.here hx rfl (hb hby d8_5) ?_
    show Steps p.tables e below (T1.setTop (mkF m 6 #[.val (.ref a1), .val (.int (Int32.ofNat mm)), .unset, .unset] [(.int (1 : Int32)), (.int (32 : Int32))])) tg
    refine XS.isub X1.here hx rfl (hb hby d8_6) rfl ?_
    show Steps p.tables e below (T1.setTop (mkF m 7 #[.val (.ref a1), .val (.int (Int32.ofNat mm)), .unset, .unset] [(.int (31 : Int32))])) tg
    refine XS.istoreN X1.here hx rfl (hb hby d8_7) rfl (l' := #[.val (.ref a1), .val (.int (Int32.ofNat mm)), .val (.int (31 : Int32)), .unset]) rfl ?_
    exact kt
  exact lpT hw a1 t1 t2 t3 mm n g h0 K hD f_a1 f_t1 f_t2 f_t3 hmm n u _ h0 _ _ One.u (Nat.le_refl _) (Or.inr rfl) hT Z0 (Keep.refl _ _) O_a1 O_t1 O_t2 O_t3 X1 e1 N0
theorem own_pn10 : plainName "com/example/rhizome/rhizome/tableau/Label" = true := by first | (simp [plainName, overriddenIn]; done) | decide +kernel
theorem d10_0 : decode prog_11_method_2_code 0 = .ok (.aload_n 0, 1) := by decide +kernel
theorem d10_1 : decode prog_11_method_2_code 1 = .ok (.getfield 22, 3) := by decide +kernel
theorem d10_4 : decode prog_11_method_2_code 4 = .ok (.ireturn, 1) := by decide +kernel
set_option maxRecDepth 65536 in
set_option maxHeartbeats 40000000 in
theorem rmZ (l : Launch) (Z : State) (a0 : Array Value) (hw : ∀ d ∈ tables_1, d.before a0 Z = true) (a1 t1 t2 t3 : Addr) (n : Nat) (u : Nat → Nat) (g : Nat → Int32) (h0 : Heap) (n0 : Nat) (Z0 : n0 ≤ h0.size) (O_a1 : own_Obj Z h0 a1 "com/example/rhizome/rhizome/tableau/Label" [("com/example/rhizome/rhizome/tableau/Label", "concepts", "[I", (.ref t1)), ("com/example/rhizome/rhizome/tableau/Label", "dependencies", "[Lcom/example/rhizome/rhizome/tableau/DependencySet;", (.ref t2)), ("com/example/rhizome/rhizome/tableau/Label", "slots", "[I", (.ref t3)), ("com/example/rhizome/rhizome/tableau/Label", "size", "I", (.int (Int32.ofNat n)))]) (O_t1 : own_Arr Z h0 t1 .int (own_L 16 g)) (O_t2 : own_RArr Z h0 t2 "com/example/rhizome/rhizome/tableau/DependencySet" 16) (O_t3 : own_Arr Z h0 t3 .int (own_L 32 (own_F u))) :
    own_Met l Z (⟨"com/example/rhizome/rhizome/tableau/Label", "size", "()I"⟩ : MethodName) prog_11_method_2_code 1 (some .int) ({ frames := 0, cells := 0, slots := 0, locals := 0 } : Room) #[(.ref a1)] h0 (own_QI (Int32.ofNat n) h0 n0) := by
  refine own_enter (plainFor_of_name own_pn10) (fun m => by first | (simp [entryFrame, mkF, argsToLocals, Value.category, maxLocals]; done) | rfl) (Ls := #[.val (.ref a1)]) ?_
  intro p e s m below meth c T0 K X0 e0
  have hx := K.1
  have hZ := K.2.1
  have hby := K.2.2.1
  have hown := K.2.2.2.2.1
  have N0 := Fr.nil n0
  show own_Fin p e below _ T0 (mkF m 0 #[.val (.ref a1)] [])
  refine own_seg (T' := T0) (g' := (mkF m 1 #[.val (.ref a1)] [(.ref a1)])) (fun tg kt => ?_) ?_
  · show Steps p.tables e below (T0.setTop (mkF m 0 #[.val (.ref a1)] [])) tg
    refine XS.aloadN X0.here hx rfl (hb hby d10_0) rfl rfl ?_
    exact kt
  refine own_getF K X0 e0 (host := "") (Or.inl (hw _ (List.mem_of_getElem? (i := 40) rfl))) Via.refl (O_a1.get 3 rfl) d10_1 ?_
  intro T1 X1 e1
  show own_Fin p e below _ T1 (mkF m 4 #[.val (.ref a1)] [(.int (Int32.ofNat n))])
  exact own_retI K X1 d10_4 (⟨rfl, N0, e1⟩) (by decide) (by decide)
theorem own_idx_hit {u : Nat → Nat} {g : Nat → Int32} {n i : Nat} {q : Int32} (T : own_Tab u g n) (hi : i < n) (e : g i = q) : own_idx g n q = Int32.ofNat i := by
  subst e; rw [← own_pos_eq T]; exact own_pos_at T hi
theorem own_idx_miss {g : Nat → Int32} {n : Nat} {q : Int32} (h : ∀ i, i < n → g i ≠ q) : own_idx g n q = -1 := by
  unfold own_idx
  rw [if_neg (fun z => h 0 z.1 z.2), if_neg (fun z => h 1 z.1 z.2), if_neg (fun z => h 2 z.1 z.2)]
theorem own_ltl {e k : Nat} (he : e < 2 ^ 31) (hk : k < 2 ^ 31) : Int32.ofNat e < Int32.ofNat k ↔ e < k := by
  rw [Int32.lt_iff_toInt_lt, own_of he, own_of hk]; omega
theorem own_k5 (x : Int32) : ∃ mm : Nat, mm < 5 ∧ ((x &&& (2147483647 : Int32)) % (5 : Int32)) = Int32.ofNat mm := by
  have e := Jvm.Kit.i32_mask x 2147483647 (k := 31) (by decide) (by decide)
  have e2 : ((x &&& (2147483647 : Int32)) % (5 : Int32)).toInt = (x &&& (2147483647 : Int32)).toInt % (5 : Int32).toInt := Jvm.Kit.i32_rem_nonneg (by omega)
  have e' : (5 : Int32).toInt = 5 := by decide
  rw [e'] at e2
  generalize ((x &&& (2147483647 : Int32)) % (5 : Int32)) = y at *
  refine ⟨y.toInt.toNat, by omega, ?_⟩
  apply Int32.toInt_inj.mp
  rw [own_of (by omega)]; omega
def own_min (a b : Int32) : Int32 := if b < a then b else a
theorem d9_0 : decode jdk_29_method_69_code 0 = .ok (.iload_n 0, 1) := by decide +kernel
theorem d9_1 : decode jdk_29_method_69_code 1 = .ok (.iload_n 1, 1) := by decide +kernel
theorem d9_2 : decode jdk_29_method_69_code 2 = .ok (.if_icmp .gt 7, 3) := by decide +kernel
theorem d9_9 : decode jdk_29_method_69_code 9 = .ok (.iload_n 1, 1) := by decide +kernel
theorem d9_10 : decode jdk_29_method_69_code 10 = .ok (.ireturn, 1) := by decide +kernel
theorem d9_5 : decode jdk_29_method_69_code 5 = .ok (.iload_n 0, 1) := by decide +kernel
theorem d9_6 : decode jdk_29_method_69_code 6 = .ok (.goto 4, 3) := by decide +kernel
set_option maxRecDepth 65536 in
set_option maxHeartbeats 40000000 in
theorem rmM (l : Launch) (Z : State) (a0 : Array Value) (hw : ∀ d ∈ tables_1, d.before a0 Z = true) (p1 p2 : Int32) (h0 : Heap) (n0 : Nat) (Z0 : n0 ≤ h0.size)  :
    own_Met l Z (⟨"java/lang/Math", "min", "(II)I"⟩ : MethodName) jdk_29_method_69_code 2 (some .int) ({ frames := 0, cells := 0, slots := 0, locals := 0 } : Room) #[(.int p1), (.int p2)] h0 (own_QI (own_min p1 p2) h0 n0) := by
  refine own_enter (Jvm.Free.JP.mathPlain rfl (by decide +kernel)) (fun m => by first | (simp [entryFrame, mkF, argsToLocals, Value.category, maxLocals]; done) | rfl) (Ls := #[.val (.int p1), .val (.int p2)]) ?_
  intro p e s m below meth c T0 K X0 e0
  have hx := K.1
  have hZ := K.2.1
  have hby := K.2.2.1
  have hown := K.2.2.2.2.1
  have N0 := Fr.nil n0
  show own_Fin p e below _ T0 (mkF m 0 #[.val (.int p1), .val (.int p2)] [])
  refine own_seg (T' := T0) (g' := (mkF m 2 #[.val (.int p1), .val (.int p2)] [(.int p2), (.int p1)])) (fun tg kt => ?_) ?_
  · show Steps p.tables e below (T0.setTop (mkF m 0 #[.val (.int p1), .val (.int p2)] [])) tg
    refine XS.iloadN X0.here hx rfl (hb hby d9_0) rfl ?_
    show Steps p.tables e below (T0.setTop (mkF m 1 #[.val (.int p1), .val (.int p2)] [(.int p1)])) tg
    refine XS.iloadN X0.here hx rfl (hb hby d9_1) rfl ?_
    exact kt
  by_cases hc2 : p2 < p1
  · skip
    refine own_seg (T' := T0) (g' := (mkF m 9 #[.val (.int p1), .val (.int p2)] [])) (fun tg kt => XS.icmpYes X0.here hx rfl (pc0 := 2) (pc' := 9) rfl (hb hby d9_2) rfl (tlt hc2).2.2.1 (by decide) (by decide) kt) ?_
    refine own_seg (T' := T0) (g' := (mkF m 10 #[.val (.int p1), .val (.int p2)] [(.int p2)])) (fun tg kt => ?_) ?_
    · show Steps p.tables e below (T0.setTop (mkF m 9 #[.val (.int p1), .val (.int p2)] [])) tg
      refine XS.iloadN X0.here hx rfl (hb hby d9_9) rfl ?_
      exact kt
    exact own_retI K X0 d9_10 (⟨by rw [own_min, if_pos hc2], N0, e0⟩) (by decide) (by decide)
  · skip
    refine own_seg (T' := T0) (g' := (mkF m 5 #[.val (.int p1), .val (.int p2)] [])) (fun tg kt => XS.icmpNo X0.here hx rfl (hb hby d9_2) rfl (flt hc2).2.2.1 kt) ?_
    refine own_seg (T' := T0) (g' := (mkF m 10 #[.val (.int p1), .val (.int p2)] [(.int p1)])) (fun tg kt => ?_) ?_
    · show Steps p.tables e below (T0.setTop (mkF m 5 #[.val (.int p1), .val (.int p2)] [])) tg
      refine XS.iloadN X0.here hx rfl (hb hby d9_5) rfl ?_
      show Steps p.tables e below (T0.setTop (mkF m 6 #[.val (.int p1), .val (.int p2)] [(.int p1)])) tg
      refine XS.goto X0.here hx rfl (pc0 := 6) (pc' := 10) rfl (hb hby d9_6) (by decide) (by decide) ?_
      exact kt
    exact own_retI K X0 d9_10 (⟨by rw [own_min, if_neg hc2], N0, e0⟩) (by decide) (by decide)
theorem own_pd3 : parseMethodDescriptor "()I" = some ⟨[], some .int⟩ := by decide +kernel
set_option maxRecDepth 65536 in
set_option maxHeartbeats 40000000 in
theorem sg205 {p : Program} {l : Launch} {e : Env} {s : State} {m : MethodId} {args : Array Value} {below : List Frame} {meth : Method} {c : Code} {T0 : State} {locs : List Loc} {Z : State} {a0 : Array Value} {h0 : Heap} {n0 : Nat} (hw : ∀ d ∈ tables_1, d.before a0 Z = true) (p1 p2 p3 p4 : Int32) (b1 t1 t2 t3 d : Addr) (kk : Nat) (uk : Nat → Nat) (g : Nat → Int32) (i7 i8 i9 i10 i11 i12 i14 i15 i16 i17 : Int32)
    (K : own_Ctx p Z s m meth c "com/example/rhizome/rhizome/tableau/LabelTruncatePinLaw" code maxLocals ret "law") (X0 : Stand p l e room_1 s m args below meth c T0 locs 4 68) (e0 : T0.heap = h0) (N0 : Fr n0 locs) (Z0 : n0 ≤ h0.size) (O_b1 : own_Obj Z h0 b1 "com/example/rhizome/rhizome/tableau/Label" [("com/example/rhizome/rhizome/tableau/Label", "concepts", "[I", (.ref t1)), ("com/example/rhizome/rhizome/tableau/Label", "dependencies", "[Lcom/example/rhizome/rhizome/tableau/DependencySet;", (.ref t2)), ("com/example/rhizome/rhizome/tableau/Label", "slots", "[I", (.ref t3)), ("com/example/rhizome/rhizome/tableau/Label", "size", "I", (.int (Int32.ofNat kk)))]) (O_t1 : own_Arr Z h0 t1 .int (own_L 16 g)) (O_t2 : own_RArr Z h0 t2 "com/example/rhizome/rhizome/tableau/DependencySet" 16) (O_t3 : own_Arr Z h0 t3 .int (own_L 32 (own_F uk))) (hTk : own_Tab uk g kk) (h79 : i7 = i9) (h810 : i8 = i10) (ha : own_idx g kk p1 = i15) (hb' : own_idx g kk p2 = i16) (hc' : own_idx g kk p3 = i17) :
    own_Fin p e below (own_P s room_1 (own_Q1 n0)) T0 (mkF m 205 #[.val (.int p1), .val (.int p2), .val (.int p3), .val (.int p4), .val (.ref b1), .val (.ref d), .val (.int (1 : Int32)), .val (.int i7), .val (.int i8), .val (.int i9), .val (.int i10), .val (.int i11), .val (.int i12), .val (.int (Int32.ofNat kk)), .val (.int i14), .val (.int i15), .val (.int i16), .val (.int i17)] []) := by
  have hx := K.1
  have hZ := K.2.1
  have hby := K.2.2.1
  have hown := K.2.2.2.2.1
  refine own_seg (T' := T0) (g' := (mkF m 207 #[.val (.int p1), .val (.int p2), .val (.int p3), .val (.int p4), .val (.ref b1), .val (.ref d), .val (.int (1 : Int32)), .val (.int i7), .val (.int i8), .val (.int i9), .val (.int i10), .val (.int i11), .val (.int i12), .val (.int (Int32.ofNat kk)), .val (.int i14), .val (.int i15), .val (.int i16), .val (.int i17)] [(.int (1 : Int32))])) (fun tg kt => ?_) ?_
  · show Steps p.tables e below (T0.setTop (mkF m 205 #[.val (.int p1), .val (.int p2), .val (.int p3), .val (.int p4), .val (.ref b1), .val (.ref d), .val (.int (1 : Int32)), .val (.int i7), .val (.int i8), .val (.int i9), .val (.int i10), .val (.int i11), .val (.int i12), .val (.int (Int32.ofNat kk)), .val (.int i14), .val (.int i15), .val (.int i16), .val (.int i17)] [])) tg
    refine XS.iload X0.here hx rfl (hb hby at_205) rfl ?_
    exact kt
  have hc207 : ¬ ((1 : Int32) = (0 : Int32)) := by decide
  refine own_seg (T' := T0) (g' := (mkF m 210 #[.val (.int p1), .val (.int p2), .val (.int p3), .val (.int p4), .val (.ref b1), .val (.ref d), .val (.int (1 : Int32)), .val (.int i7), .val (.int i8), .val (.int i9), .val (.int i10), .val (.int i11), .val (.int i12), .val (.int (Int32.ofNat kk)), .val (.int i14), .val (.int i15), .val (.int i16), .val (.int i17)] [])) (fun tg kt => XS.ifNo X0.here hx rfl (hb hby at_207) rfl ((if0 _ _).trans (feq hc207).1) kt) ?_
  refine own_seg (T' := T0) (g' := (mkF m 214 #[.val (.int p1), .val (.int p2), .val (.int p3), .val (.int p4), .val (.ref b1), .val (.ref d), .val (.int (1 : Int32)), .val (.int i7), .val (.int i8), .val (.int i9), .val (.int i10), .val (.int i11), .val (.int i12), .val (.int (Int32.ofNat kk)), .val (.int i14), .val (.int i15), .val (.int i16), .val (.int i17)] [(.int i9), (.int i7)])) (fun tg kt => ?_) ?_
  · show Steps p.tables e below (T0.setTop (mkF m 210 #[.val (.int p1), .val (.int p2), .val (.int p3), .val (.int p4), .val (.ref b1), .val (.ref d), .val (.int (1 : Int32)), .val (.int i7), .val (.int i8), .val (.int i9), .val (.int i10), .val (.int i11), .val (.int i12), .val (.int (Int32.ofNat kk)), .val (.int i14), .val (.int i15), .val (.int i16), .val (.int i17)] [])) tg
    refine XS.iload X0.here hx rfl (hb hby at_210) rfl ?_
    show Steps p.tables e below (T0.setTop (mkF m 212 #[.val (.int p1), .val (.int p2), .val (.int p3), .val (.int p4), .val (.ref b1), .val (.ref d), .val (.int (1 : Int32)), .val (.int i7), .val (.int i8), .val (.int i9), .val (.int i10), .val (.int i11), .val (.int i12), .val (.int (Int32.ofNat kk)), .val (.int i14), .val (.int i15), .val (.int i16), .val (.int i17)] [(.int i7)])) tg
    refine XS.iload X0.here hx rfl (hb hby at_212) rfl ?_
    exact kt
  have hc214 : i7 = i9 := h79
  refine own_seg (T' := T0) (g' := (mkF m 217 #[.val (.int p1), .val (.int p2), .val (.int p3), .val (.int p4), .val (.ref b1), .val (.ref d), .val (.int (1 : Int32)), .val (.int i7), .val (.int i8), .val (.int i9), .val (.int i10), .val (.int i11), .val (.int i12), .val (.int (Int32.ofNat kk)), .val (.int i14), .val (.int i15), .val (.int i16), .val (.int i17)] [])) (fun tg kt => XS.icmpNo X0.here hx rfl (hb hby at_214) rfl (teq hc214).2 kt) ?_
  refine own_seg (T' := T0) (g' := (mkF m 221 #[.val (.int p1), .val (.int p2), .val (.int p3), .val (.int p4), .val (.ref b1), .val (.ref d), .val (.int (1 : Int32)), .val (.int i7), .val (.int i8), .val (.int i9), .val (.int i10), .val (.int i11), .val (.int i12), .val (.int (Int32.ofNat kk)), .val (.int i14), .val (.int i15), .val (.int i16), .val (.int i17)] [(.int i10), (.int i8)])) (fun tg kt => ?_) ?_
  · show Steps p.tables e below (T0.setTop (mkF m 217 #[.val (.int p1), .val (.int p2), .val (.int p3), .val (.int p4), .val (.ref b1), .val (.ref d), .val (.int (1 : Int32)), .val (.int i7), .val (.int i8), .val (.int i9), .val (.int i10), .val (.int i11), .val (.int i12), .val (.int (Int32.ofNat kk)), .val (.int i14), .val (.int i15), .val (.int i16), .val (.int i17)] [])) tg
    refine XS.iload X0.here hx rfl (hb hby at_217) rfl ?_
    show Steps p.tables e below (T0.setTop (mkF m 219 #[.val (.int p1), .val (.int p2), .val (.int p3), .val (.int p4), .val (.ref b1), .val (.ref d), .val (.int (1 : Int32)), .val (.int i7), .val (.int i8), .val (.int i9), .val (.int i10), .val (.int i11), .val (.int i12), .val (.int (Int32.ofNat kk)), .val (.int i14), .val (.int i15), .val (.int i16), .val (.int i17)] [(.int i8)])) tg
    refine XS.iload X0.here hx rfl (hb hby at_219) rfl ?_
    exact kt
  have hc221 : i8 = i10 := h810
  refine own_seg (T' := T0) (g' := (mkF m 224 #[.val (.int p1), .val (.int p2), .val (.int p3), .val (.int p4), .val (.ref b1), .val (.ref d), .val (.int (1 : Int32)), .val (.int i7), .val (.int i8), .val (.int i9), .val (.int i10), .val (.int i11), .val (.int i12), .val (.int (Int32.ofNat kk)), .val (.int i14), .val (.int i15), .val (.int i16), .val (.int i17)] [])) (fun tg kt => XS.icmpNo X0.here hx rfl (hb hby at_221) rfl (teq hc221).2 kt) ?_
  refine own_seg (T' := T0) (g' := (mkF m 226 #[.val (.int p1), .val (.int p2), .val (.int p3), .val (.int p4), .val (.ref b1), .val (.ref d), .val (.int (1 : Int32)), .val (.int i7), .val (.int i8), .val (.int i9), .val (.int i10), .val (.int i11), .val (.int i12), .val (.int (Int32.ofNat kk)), .val (.int i14), .val (.int i15), .val (.int i16), .val (.int i17)] [(.ref b1)])) (fun tg kt => ?_) ?_
  · show Steps p.tables e below (T0.setTop (mkF m 224 #[.val (.int p1), .val (.int p2), .val (.int p3), .val (.int p4), .val (.ref b1), .val (.ref d), .val (.int (1 : Int32)), .val (.int i7), .val (.int i8), .val (.int i9), .val (.int i10), .val (.int i11), .val (.int i12), .val (.int (Int32.ofNat kk)), .val (.int i14), .val (.int i15), .val (.int i16), .val (.int i17)] [])) tg
    refine XS.aload X0.here hx rfl (hb hby at_224) rfl rfl ?_
    exact kt
  refine own_callV K X0 e0 (rmZ l Z a0 hw b1 t1 t2 t3 kk uk g h0 n0 Z0 O_b1 O_t1 O_t2 O_t3) (hw _ (List.mem_of_getElem? (i := 57) rfl)) (hw _ (List.mem_of_getElem? (i := 58) rfl)) (fun _ q => notFace_of_selects q) (hw _ (List.mem_of_getElem? (i := 60) rfl)) (hw _ (List.mem_of_getElem? (i := 59) rfl)) (hw _ (List.mem_of_getElem? (i := 2) rfl)) (hw _ (List.mem_of_getElem? (i := 61) rfl)) (by decide) b1 O_b1.exa [] [] own_pd3 rfl rfl rfl rfl at_226 (by decide) (Nat.le_of_ble_eq_true rfl) (by decide) (by decide) ?_
  intro T1 L1 v1 X1 hQ1
  obtain ⟨rfl, Nq1, e1⟩ := hQ1
  have N1 := Fr.app N0 Nq1
  show own_Fin p e below _ T1 (mkF m 229 #[.val (.int p1), .val (.int p2), .val (.int p3), .val (.int p4), .val (.ref b1), .val (.ref d), .val (.int (1 : Int32)), .val (.int i7), .val (.int i8), .val (.int i9), .val (.int i10), .val (.int i11), .val (.int i12), .val (.int (Int32.ofNat kk)), .val (.int i14), .val (.int i15), .val (.int i16), .val (.int i17)] [(.int (Int32.ofNat kk))])
  refine own_seg (T' := T1) (g' := (mkF m 231 #[.val (.int p1), .val (.int p2), .val (.int p3), .val (.int p4), .val (.ref b1), .val (.ref d), .val (.int (1 : Int32)), .val (.int i7), .val (.int i8), .val (.int i9), .val (.int i10), .val (.int i11), .val (.int i12), .val (.int (Int32.ofNat kk)), .val (.int i14), .val (.int i15), .val (.int i16), .val (.int i17)] [(.int (Int32.ofNat kk)), (.int (Int32.ofNat kk))])) (fun tg kt => ?_) ?_
  · show Steps p.tables e below (T1.setTop (mkF m 229 #[.val (.int p1), .val (.int p2), .val (.int p3), .val (.int p4), .val (.ref b1), .val (.ref d), .val (.int (1 : Int32)), .val (.int i7), .val (.int i8), .val (.int i9), .val (.int i10), .val (.int i11), .val (.int i12), .val (.int (Int32.ofNat kk)), .val (.int i14), .val (.int i15), .val (.int i16), .val (.int i17)] [(.int (Int32.ofNat kk))])) tg
    refine XS.iload X1.here hx rfl (hb hby at_229) rfl ?_
    exact kt
  have hc231 : (Int32.ofNat kk) = (Int32.ofNat kk) := rfl
  refine own_seg (T' := T1) (g' := (mkF m 234 #[.val (.int p1), .val (.int p2), .val (.int p3), .val (.int p4), .val (.ref b1), .val (.ref d), .val (.int (1 : Int32)), .val (.int i7), .val (.int i8), .val (.int i9), .val (.int i10), .val (.int i11), .val (.int i12), .val (.int (Int32.ofNat kk)), .val (.int i14), .val (.int i15), .val (.int i16), .val (.int i17)] [])) (fun tg kt => XS.icmpNo X1.here hx rfl (hb hby at_231) rfl (teq hc231).2 kt) ?_
  refine own_seg (T' := T1) (g' := (mkF m 237 #[.val (.int p1), .val (.int p2), .val (.int p3), .val (.int p4), .val (.ref b1), .val (.ref d), .val (.int (1 : Int32)), .val (.int i7), .val (.int i8), .val (.int i9), .val (.int i10), .val (.int i11), .val (.int i12), .val (.int (Int32.ofNat kk)), .val (.int i14), .val (.int i15), .val (.int i16), .val (.int i17)] [(.int p1), (.ref b1)])) (fun tg kt => ?_) ?_
  · show Steps p.tables e below (T1.setTop (mkF m 234 #[.val (.int p1), .val (.int p2), .val (.int p3), .val (.int p4), .val (.ref b1), .val (.ref d), .val (.int (1 : Int32)), .val (.int i7), .val (.int i8), .val (.int i9), .val (.int i10), .val (.int i11), .val (.int i12), .val (.int (Int32.ofNat kk)), .val (.int i14), .val (.int i15), .val (.int i16), .val (.int i17)] [])) tg
    refine XS.aload X1.here hx rfl (hb hby at_234) rfl rfl ?_
    show Steps p.tables e below (T1.setTop (mkF m 236 #[.val (.int p1), .val (.int p2), .val (.int p3), .val (.int p4), .val (.ref b1), .val (.ref d), .val (.int (1 : Int32)), .val (.int i7), .val (.int i8), .val (.int i9), .val (.int i10), .val (.int i11), .val (.int i12), .val (.int (Int32.ofNat kk)), .val (.int i14), .val (.int i15), .val (.int i16), .val (.int i17)] [(.ref b1)])) tg
    refine XS.iloadN X1.here hx rfl (hb hby at_236) rfl ?_
    exact kt
  refine own_callV K X1 e1 (rmP l Z a0 hw b1 t1 t2 t3 p1 kk uk g h0 n0 Z0 O_b1 O_t1 O_t2 O_t3 hTk) (hw _ (List.mem_of_getElem? (i := 62) rfl)) (hw _ (List.mem_of_getElem? (i := 32) rfl)) (fun _ q => notFace_of_selects q) (hw _ (List.mem_of_getElem? (i := 34) rfl)) (hw _ (List.mem_of_getElem? (i := 33) rfl)) (hw _ (List.mem_of_getElem? (i := 2) rfl)) (hw _ (List.mem_of_getElem? (i := 35) rfl)) (by decide) b1 O_b1.exa [(.int p1)] [] own_pd0 rfl rfl rfl rfl at_237 (by decide) (Nat.le_of_ble_eq_true rfl) (by decide) (by decide) ?_
  intro T2 L2 v2 X2 hQ2
  obtain ⟨rfl, Nq2, e2⟩ := hQ2
  rw [own_pos_eq hTk]
  have N2 := Fr.app N1 Nq2
  show own_Fin p e below _ T2 (mkF m 240 #[.val (.int p1), .val (.int p2), .val (.int p3), .val (.int p4), .val (.ref b1), .val (.ref d), .val (.int (1 : Int32)), .val (.int i7), .val (.int i8), .val (.int i9), .val (.int i10), .val (.int i11), .val (.int i12), .val (.int (Int32.ofNat kk)), .val (.int i14), .val (.int i15), .val (.int i16), .val (.int i17)] [(.int (own_idx g kk p1))])
  refine own_seg (T' := T2) (g' := (mkF m 242 #[.val (.int p1), .val (.int p2), .val (.int p3), .val (.int p4), .val (.ref b1), .val (.ref d), .val (.int (1 : Int32)), .val (.int i7), .val (.int i8), .val (.int i9), .val (.int i10), .val (.int i11), .val (.int i12), .val (.int (Int32.ofNat kk)), .val (.int i14), .val (.int i15), .val (.int i16), .val (.int i17)] [(.int i15), (.int (own_idx g kk p1))])) (fun tg kt => ?_) ?_
  · show Steps p.tables e below (T2.setTop (mkF m 240 #[.val (.int p1), .val (.int p2), .val (.int p3), .val (.int p4), .val (.ref b1), .val (.ref d), .val (.int (1 : Int32)), .val (.int i7), .val (.int i8), .val (.int i9), .val (.int i10), .val (.int i11), .val (.int i12), .val (.int (Int32.ofNat kk)), .val (.int i14), .val (.int i15), .val (.int i16), .val (.int i17)] [(.int (own_idx g kk p1))])) tg
    refine XS.iload X2.here hx rfl (hb hby at_240) rfl ?_
    exact kt
  have hc242 : (own_idx g kk p1) = i15 := ha
  refine own_seg (T' := T2) (g' := (mkF m 245 #[.val (.int p1), .val (.int p2), .val (.int p3), .val (.int p4), .val (.ref b1), .val (.ref d), .val (.int (1 : Int32)), .val (.int i7), .val (.int i8), .val (.int i9), .val (.int i10), .val (.int i11), .val (.int i12), .val (.int (Int32.ofNat kk)), .val (.int i14), .val (.int i15), .val (.int i16), .val (.int i17)] [])) (fun tg kt => XS.icmpNo X2.here hx rfl (hb hby at_242) rfl (teq hc242).2 kt) ?_
  refine own_seg (T' := T2) (g' := (mkF m 248 #[.val (.int p1), .val (.int p2), .val (.int p3), .val (.int p4), .val (.ref b1), .val (.ref d), .val (.int (1 : Int32)), .val (.int i7), .val (.int i8), .val (.int i9), .val (.int i10), .val (.int i11), .val (.int i12), .val (.int (Int32.ofNat kk)), .val (.int i14), .val (.int i15), .val (.int i16), .val (.int i17)] [(.int p2), (.ref b1)])) (fun tg kt => ?_) ?_
  · show Steps p.tables e below (T2.setTop (mkF m 245 #[.val (.int p1), .val (.int p2), .val (.int p3), .val (.int p4), .val (.ref b1), .val (.ref d), .val (.int (1 : Int32)), .val (.int i7), .val (.int i8), .val (.int i9), .val (.int i10), .val (.int i11), .val (.int i12), .val (.int (Int32.ofNat kk)), .val (.int i14), .val (.int i15), .val (.int i16), .val (.int i17)] [])) tg
    refine XS.aload X2.here hx rfl (hb hby at_245) rfl rfl ?_
    show Steps p.tables e below (T2.setTop (mkF m 247 #[.val (.int p1), .val (.int p2), .val (.int p3), .val (.int p4), .val (.ref b1), .val (.ref d), .val (.int (1 : Int32)), .val (.int i7), .val (.int i8), .val (.int i9), .val (.int i10), .val (.int i11), .val (.int i12), .val (.int (Int32.ofNat kk)), .val (.int i14), .val (.int i15), .val (.int i16), .val (.int i17)] [(.ref b1)])) tg
    refine XS.iloadN X2.here hx rfl (hb hby at_247) rfl ?_
    exact kt
  refine own_callV K X2 e2 (rmP l Z a0 hw b1 t1 t2 t3 p2 kk uk g h0 n0 Z0 O_b1 O_t1 O_t2 O_t3 hTk) (hw _ (List.mem_of_getElem? (i := 62) rfl)) (hw _ (List.mem_of_getElem? (i := 32) rfl)) (fun _ q => notFace_of_selects q) (hw _ (List.mem_of_getElem? (i := 34) rfl)) (hw _ (List.mem_of_getElem? (i := 33) rfl)) (hw _ (List.mem_of_getElem? (i := 2) rfl)) (hw _ (List.mem_of_getElem? (i := 35) rfl)) (by decide) b1 O_b1.exa [(.int p2)] [] own_pd0 rfl rfl rfl rfl at_248 (by decide) (Nat.le_of_ble_eq_true rfl) (by decide) (by decide) ?_
  intro T3 L3 v3 X3 hQ3
  obtain ⟨rfl, Nq3, e3⟩ := hQ3
  rw [own_pos_eq hTk]
  have N3 := Fr.app N2 Nq3
  show own_Fin p e below _ T3 (mkF m 251 #[.val (.int p1), .val (.int p2), .val (.int p3), .val (.int p4), .val (.ref b1), .val (.ref d), .val (.int (1 : Int32)), .val (.int i7), .val (.int i8), .val (.int i9), .val (.int i10), .val (.int i11), .val (.int i12), .val (.int (Int32.ofNat kk)), .val (.int i14), .val (.int i15), .val (.int i16), .val (.int i17)] [(.int (own_idx g kk p2))])
  refine own_seg (T' := T3) (g' := (mkF m 253 #[.val (.int p1), .val (.int p2), .val (.int p3), .val (.int p4), .val (.ref b1), .val (.ref d), .val (.int (1 : Int32)), .val (.int i7), .val (.int i8), .val (.int i9), .val (.int i10), .val (.int i11), .val (.int i12), .val (.int (Int32.ofNat kk)), .val (.int i14), .val (.int i15), .val (.int i16), .val (.int i17)] [(.int i16), (.int (own_idx g kk p2))])) (fun tg kt => ?_) ?_
  · show Steps p.tables e below (T3.setTop (mkF m 251 #[.val (.int p1), .val (.int p2), .val (.int p3), .val (.int p4), .val (.ref b1), .val (.ref d), .val (.int (1 : Int32)), .val (.int i7), .val (.int i8), .val (.int i9), .val (.int i10), .val (.int i11), .val (.int i12), .val (.int (Int32.ofNat kk)), .val (.int i14), .val (.int i15), .val (.int i16), .val (.int i17)] [(.int (own_idx g kk p2))])) tg
    refine XS.iload X3.here hx rfl (hb hby at_251) rfl ?_
    exact kt
  have hc253 : (own_idx g kk p2) = i16 := hb'
  refine own_seg (T' := T3) (g' := (mkF m 256 #[.val (.int p1), .val (.int p2), .val (.int p3), .val (.int p4), .val (.ref b1), .val (.ref d), .val (.int (1 : Int32)), .val (.int i7), .val (.int i8), .val (.int i9), .val (.int i10), .val (.int i11), .val (.int i12), .val (.int (Int32.ofNat kk)), .val (.int i14), .val (.int i15), .val (.int i16), .val (.int i17)] [])) (fun tg kt => XS.icmpNo X3.here hx rfl (hb hby at_253) rfl (teq hc253).2 kt) ?_
  refine own_seg (T' := T3) (g' := (mkF m 259 #[.val (.int p1), .val (.int p2), .val (.int p3), .val (.int p4), .val (.ref b1), .val (.ref d), .val (.int (1 : Int32)), .val (.int i7), .val (.int i8), .val (.int i9), .val (.int i10), .val (.int i11), .val (.int i12), .val (.int (Int32.ofNat kk)), .val (.int i14), .val (.int i15), .val (.int i16), .val (.int i17)] [(.int p3), (.ref b1)])) (fun tg kt => ?_) ?_
  · show Steps p.tables e below (T3.setTop (mkF m 256 #[.val (.int p1), .val (.int p2), .val (.int p3), .val (.int p4), .val (.ref b1), .val (.ref d), .val (.int (1 : Int32)), .val (.int i7), .val (.int i8), .val (.int i9), .val (.int i10), .val (.int i11), .val (.int i12), .val (.int (Int32.ofNat kk)), .val (.int i14), .val (.int i15), .val (.int i16), .val (.int i17)] [])) tg
    refine XS.aload X3.here hx rfl (hb hby at_256) rfl rfl ?_
    show Steps p.tables e below (T3.setTop (mkF m 258 #[.val (.int p1), .val (.int p2), .val (.int p3), .val (.int p4), .val (.ref b1), .val (.ref d), .val (.int (1 : Int32)), .val (.int i7), .val (.int i8), .val (.int i9), .val (.int i10), .val (.int i11), .val (.int i12), .val (.int (Int32.ofNat kk)), .val (.int i14), .val (.int i15), .val (.int i16), .val (.int i17)] [(.ref b1)])) tg
    refine XS.iloadN X3.here hx rfl (hb hby at_258) rfl ?_
    exact kt
  refine own_callV K X3 e3 (rmP l Z a0 hw b1 t1 t2 t3 p3 kk uk g h0 n0 Z0 O_b1 O_t1 O_t2 O_t3 hTk) (hw _ (List.mem_of_getElem? (i := 62) rfl)) (hw _ (List.mem_of_getElem? (i := 32) rfl)) (fun _ q => notFace_of_selects q) (hw _ (List.mem_of_getElem? (i := 34) rfl)) (hw _ (List.mem_of_getElem? (i := 33) rfl)) (hw _ (List.mem_of_getElem? (i := 2) rfl)) (hw _ (List.mem_of_getElem? (i := 35) rfl)) (by decide) b1 O_b1.exa [(.int p3)] [] own_pd0 rfl rfl rfl rfl at_259 (by decide) (Nat.le_of_ble_eq_true rfl) (by decide) (by decide) ?_
  intro T4 L4 v4 X4 hQ4
  obtain ⟨rfl, Nq4, e4⟩ := hQ4
  rw [own_pos_eq hTk]
  have N4 := Fr.app N3 Nq4
  show own_Fin p e below _ T4 (mkF m 262 #[.val (.int p1), .val (.int p2), .val (.int p3), .val (.int p4), .val (.ref b1), .val (.ref d), .val (.int (1 : Int32)), .val (.int i7), .val (.int i8), .val (.int i9), .val (.int i10), .val (.int i11), .val (.int i12), .val (.int (Int32.ofNat kk)), .val (.int i14), .val (.int i15), .val (.int i16), .val (.int i17)] [(.int (own_idx g kk p3))])
  refine own_seg (T' := T4) (g' := (mkF m 264 #[.val (.int p1), .val (.int p2), .val (.int p3), .val (.int p4), .val (.ref b1), .val (.ref d), .val (.int (1 : Int32)), .val (.int i7), .val (.int i8), .val (.int i9), .val (.int i10), .val (.int i11), .val (.int i12), .val (.int (Int32.ofNat kk)), .val (.int i14), .val (.int i15), .val (.int i16), .val (.int i17)] [(.int i17), (.int (own_idx g kk p3))])) (fun tg kt => ?_) ?_
  · show Steps p.tables e below (T4.setTop (mkF m 262 #[.val (.int p1), .val (.int p2), .val (.int p3), .val (.int p4), .val (.ref b1), .val (.ref d), .val (.int (1 : Int32)), .val (.int i7), .val (.int i8), .val (.int i9), .val (.int i10), .val (.int i11), .val (.int i12), .val (.int (Int32.ofNat kk)), .val (.int i14), .val (.int i15), .val (.int i16), .val (.int i17)] [(.int (own_idx g kk p3))])) tg
    refine XS.iload X4.here hx rfl (hb hby at_262) rfl ?_
    exact kt
  have hc264 : (own_idx g kk p3) = i17 := hc'
  refine own_seg (T' := T4) (g' := (mkF m 267 #[.val (.int p1), .val (.int p2), .val (.int p3), .val (.int p4), .val (.ref b1), .val (.ref d), .val (.int (1 : Int32)), .val (.int i7), .val (.int i8), .val (.int i9), .val (.int i10), .val (.int i11), .val (.int i12), .val (.int (Int32.ofNat kk)), .val (.int i14), .val (.int i15), .val (.int i16), .val (.int i17)] [])) (fun tg kt => XS.icmpNo X4.here hx rfl (hb hby at_264) rfl (teq hc264).2 kt) ?_
  refine own_seg (T' := T4) (g' := (mkF m 272 #[.val (.int p1), .val (.int p2), .val (.int p3), .val (.int p4), .val (.ref b1), .val (.ref d), .val (.int (1 : Int32)), .val (.int i7), .val (.int i8), .val (.int i9), .val (.int i10), .val (.int i11), .val (.int i12), .val (.int (Int32.ofNat kk)), .val (.int i14), .val (.int i15), .val (.int i16), .val (.int i17)] [(.int (1 : Int32))])) (fun tg kt => ?_) ?_
  · show Steps p.tables e below (T4.setTop (mkF m 267 #[.val (.int p1), .val (.int p2), .val (.int p3), .val (.int p4), .val (.ref b1), .val (.ref d), .val (.int (1 : Int32)), .val (.int i7), .val (.int i8), .val (.int i9), .val (.int i10), .val (.int i11), .val (.int i12), .val (.int (Int32.ofNat kk)), .val (.int i14), .val (.int i15), .val (.int i16), .val (.int i17)] [])) tg
    refine XS.iconst X4.here hx rfl (hb hby at_267) ?_
    show Steps p.tables e below (T4.setTop (mkF m 268 #[.val (.int p1), .val (.int p2), .val (.int p3), .val (.int p4), .val (.ref b1), .val (.ref d), .val (.int (1 : Int32)), .val (.int i7), .val (.int i8), .val (.int i9), .val (.int i10), .val (.int i11), .val (.int i12), .val (.int (Int32.ofNat kk)), .val (.int i14), .val (.int i15), .val (.int i16), .val (.int i17)] [(.int (1 : Int32))])) tg
    refine XS.goto X4.here hx rfl (pc0 := 268) (pc' := 272) rfl (hb hby at_268) (by decide) (by decide) ?_
    exact kt
  exact own_retN K (by simp) X4 at_272 (⟨rfl, N4⟩) (by decide) (by decide)
theorem own_pn0 : plainName "com/example/rhizome/rhizome/tableau/LabelTruncatePinLaw" = true := by first | (simp [plainName, overriddenIn]; done) | decide +kernel
theorem own_pd4 : parseMethodDescriptor "()V" = some ⟨[], none⟩ := by decide +kernel
theorem own_pd5 : parseMethodDescriptor "(ILcom/example/rhizome/rhizome/tableau/DependencySet;)Z" = some ⟨[.int, (.object "com/example/rhizome/rhizome/tableau/DependencySet")], some .boolean⟩ := by decide +kernel
theorem own_pd6 : parseMethodDescriptor "(II)I" = some ⟨[.int, .int], some .int⟩ := by decide +kernel
set_option maxRecDepth 65536 in
set_option maxHeartbeats 40000000 in
theorem rm0A (l : Launch) (Z : State) (a0 : Array Value) (hw : ∀ d ∈ tables_1, d.before a0 Z = true) (p1 p2 p3 p4 : Int32) (d : Addr) (h0 : Heap) (n0 : Nat) (Z0 : n0 ≤ h0.size) (hba : p2 = p1) (hca : p3 = p1) (hOld : Old Z n0 h0) (SE : Sta Z Z.heap "com/example/rhizome/rhizome/tableau/DependencySet" "EMPTY" "Lcom/example/rhizome/rhizome/tableau/DependencySet;" (.ref d)) (XE : Exa Z Z.heap d "com/example/rhizome/rhizome/tableau/DependencySet") :
    own_Met l Z x code maxLocals ret room_1 #[(.int p1), (.int p2), (.int p3), (.int p4)] h0 (own_Q1 n0) := by
  refine own_enter (plainFor_of_name own_pn0) (fun m => by first | (simp [entryFrame, mkF, argsToLocals, Value.category, maxLocals]; done) | rfl) (Ls := #[.val (.int p1), .val (.int p2), .val (.int p3), .val (.int p4), .unset, .unset, .unset, .unset, .unset, .unset, .unset, .unset, .unset, .unset, .unset, .unset, .unset, .unset]) ?_
  intro p e s m below meth c T0 K X0 e0
  have hx := K.1
  have hZ := K.2.1
  have hby := K.2.2.1
  have hown := K.2.2.2.2.1
  have N0 := Fr.nil n0
  show own_Fin p e below _ T0 (mkF m 0 #[.val (.int p1), .val (.int p2), .val (.int p3), .val (.int p4), .unset, .unset, .unset, .unset, .unset, .unset, .unset, .unset, .unset, .unset, .unset, .unset, .unset, .unset] [])
  refine own_newO K X0 e0 (hw _ (List.mem_of_getElem? (i := 0) rfl)) (hw _ (List.mem_of_getElem? (i := 1) rfl)) (hw _ (List.mem_of_getElem? (i := 2) rfl)) at_0 (by decide) (by decide) ?_
  intro T1 h1 b1 g1 X1 e1 E1 A1 D1
  have Od1 := Old.ext hOld E1
  have f_b1 : n0 ≤ b1 := Nat.le_trans Z0 (Nat.le_of_eq g1.symm)
  have Z1 : n0 ≤ h1.size := Nat.le_trans Z0 E1.1
  have O_b1_1 : own_Obj Z h1 b1 "com/example/rhizome/rhizome/tableau/Label" [("com/example/rhizome/rhizome/tableau/Label", "concepts", "[I", .null), ("com/example/rhizome/rhizome/tableau/Label", "dependencies", "[Lcom/example/rhizome/rhizome/tableau/DependencySet;", .null), ("com/example/rhizome/rhizome/tableau/Label", "slots", "[I", .null), ("com/example/rhizome/rhizome/tableau/Label", "size", "I", (.int (0 : Int32)))] := ⟨A1, by
    intro q hq
    simp only [List.mem_cons, List.not_mem_nil, or_false] at hq
    rcases hq with rfl | rfl | rfl | rfl
    · exact D1 (Or.inl (hw _ (List.mem_of_getElem? (i := 11) rfl))) (ty := (.array .int)) (by decide)
    · exact D1 (Or.inl (hw _ (List.mem_of_getElem? (i := 15) rfl))) (ty := (.array (.object "com/example/rhizome/rhizome/tableau/DependencySet"))) (by decide)
    · exact D1 (Or.inl (hw _ (List.mem_of_getElem? (i := 17) rfl))) (ty := (.array .int)) (by decide)
    · exact D1 (Or.inl (hw _ (List.mem_of_getElem? (i := 41) rfl))) (ty := .int) (by decide)⟩
  show own_Fin p e below _ T1 (mkF m 3 #[.val (.int p1), .val (.int p2), .val (.int p3), .val (.int p4), .unset, .unset, .unset, .unset, .unset, .unset, .unset, .unset, .unset, .unset, .unset, .unset, .unset, .unset] [(.ref b1)])
  refine own_seg (T' := T1) (g' := (mkF m 4 #[.val (.int p1), .val (.int p2), .val (.int p3), .val (.int p4), .unset, .unset, .unset, .unset, .unset, .unset, .unset, .unset, .unset, .unset, .unset, .unset, .unset, .unset] [(.ref b1), (.ref b1)])) (fun tg kt => ?_) ?_
  · show Steps p.tables e below (T1.setTop (mkF m 3 #[.val (.int p1), .val (.int p2), .val (.int p3), .val (.int p4), .unset, .unset, .unset, .unset, .unset, .unset, .unset, .unset, .unset, .unset, .unset, .unset, .unset, .unset] [(.ref b1)])) tg
    refine XS.dup X1.here hx rfl (hb hby at_3) rfl rfl ?_
    exact kt
  refine own_callI K X1 e1 (rmI l Z a0 hw b1 h1 n0 Z1 f_b1 O_b1_1) rfl (hw _ (List.mem_of_getElem? (i := 3) rfl)) (hw _ (List.mem_of_getElem? (i := 4) rfl)) (hw _ (List.mem_of_getElem? (i := 2) rfl)) (hw _ (List.mem_of_getElem? (i := 5) rfl)) (by decide) b1 [] [(.ref b1)] own_pd4 rfl rfl rfl rfl at_4 (by decide) (Nat.le_of_ble_eq_true rfl) (by decide) (by decide) ?_
  intro T2 L2 v2 X2 hQ2
  obtain ⟨h2, e2⟩ : ∃ z, T2.heap = z := ⟨_, rfl⟩
  rw [e2] at hQ2
  obtain ⟨t1, t2, t3, rfl, Nq2, Kq2, hD, f_t1, f_t2, f_t3, Oq_a, Oq_1, Oq_2, Oq_3⟩ := hQ2
  have N2 := Fr.app N0 Nq2
  have Od2 := Old.keep Od1 Kq2 (allS f_b1 all0)
  have Z2 : n0 ≤ h2.size := Nat.le_trans Z1 Kq2.1
  show own_Fin p e below _ T2 (mkF m 7 #[.val (.int p1), .val (.int p2), .val (.int p3), .val (.int p4), .unset, .unset, .unset, .unset, .unset, .unset, .unset, .unset, .unset, .unset, .unset, .unset, .unset, .unset] [(.ref b1)])
  refine own_seg (T' := T2) (g' := (mkF m 9 #[.val (.int p1), .val (.int p2), .val (.int p3), .val (.int p4), .val (.ref b1), .unset, .unset, .unset, .unset, .unset, .unset, .unset, .unset, .unset, .unset, .unset, .unset, .unset] [])) (fun tg kt => ?_) ?_
  · show Steps p.tables e below (T2.setTop (mkF m 7 #[.val (.int p1), .val (.int p2), .val (.int p3), .val (.int p4), .unset, .unset, .unset, .unset, .unset, .unset, .unset, .unset, .unset, .unset, .unset, .unset, .unset, .unset] [(.ref b1)])) tg
    refine XS.astore X2.here hx rfl (hb hby at_7) rfl rfl (l' := #[.val (.int p1), .val (.int p2), .val (.int p3), .val (.int p4), .val (.ref b1), .unset, .unset, .unset, .unset, .unset, .unset, .unset, .unset, .unset, .unset, .unset, .unset, .unset]) rfl ?_
    exact kt
  refine own_getS K X2 e2 (host := "") (Or.inl (hw _ (List.mem_of_getElem? (i := 18) rfl))) Via.refl (SE.ext Od2.2) at_9 ?_
  intro T3 X3 e3
  show own_Fin p e below _ T3 (mkF m 12 #[.val (.int p1), .val (.int p2), .val (.int p3), .val (.int p4), .val (.ref b1), .unset, .unset, .unset, .unset, .unset, .unset, .unset, .unset, .unset, .unset, .unset, .unset, .unset] [(.ref d)])
  refine own_seg (T' := T3) (g' := (mkF m 19 #[.val (.int p1), .val (.int p2), .val (.int p3), .val (.int p4), .val (.ref b1), .val (.ref d), .unset, .unset, .unset, .unset, .unset, .unset, .unset, .unset, .unset, .unset, .unset, .unset] [(.ref d), (.int p1), (.ref b1)])) (fun tg kt => ?_) ?_
  · show Steps p.tables e below (T3.setTop (mkF m 12 #[.val (.int p1), .val (.int p2), .val (.int p3), .val (.int p4), .val (.ref b1), .unset, .unset, .unset, .unset, .unset, .unset, .unset, .unset, .unset, .unset, .unset, .unset, .unset] [(.ref d)])) tg
    refine XS.astore X3.here hx rfl (hb hby at_12) rfl rfl (l' := #[.val (.int p1), .val (.int p2), .val (.int p3), .val (.int p4), .val (.ref b1), .val (.ref d), .unset, .unset, .unset, .unset, .unset, .unset, .unset, .unset, .unset, .unset, .unset, .unset]) rfl ?_
    show Steps p.tables e below (T3.setTop (mkF m 14 #[.val (.int p1), .val (.int p2), .val (.int p3), .val (.int p4), .val (.ref b1), .val (.ref d), .unset, .unset, .unset, .unset, .unset, .unset, .unset, .unset, .unset, .unset, .unset, .unset] [])) tg
    refine XS.aload X3.here hx rfl (hb hby at_14) rfl rfl ?_
    show Steps p.tables e below (T3.setTop (mkF m 16 #[.val (.int p1), .val (.int p2), .val (.int p3), .val (.int p4), .val (.ref b1), .val (.ref d), .unset, .unset, .unset, .unset, .unset, .unset, .unset, .unset, .unset, .unset, .unset, .unset] [(.ref b1)])) tg
    refine XS.iloadN X3.here hx rfl (hb hby at_16) rfl ?_
    show Steps p.tables e below (T3.setTop (mkF m 17 #[.val (.int p1), .val (.int p2), .val (.int p3), .val (.int p4), .val (.ref b1), .val (.ref d), .unset, .unset, .unset, .unset, .unset, .unset, .unset, .unset, .unset, .unset, .unset, .unset] [(.int p1), (.ref b1)])) tg
    refine XS.aload X3.here hx rfl (hb hby at_17) rfl rfl ?_
    exact kt
  have hr0 : own_idx (fun _ => (0 : Int32)) 0 p1 = -1 := own_idx_miss (fun i hi e => absurd hi (Nat.not_lt_zero _))
  refine own_callV K X3 e3 (rmA1 l Z a0 hw b1 t1 t2 t3 p1 d 0 (fun _ => (0 : Nat)) (fun _ => (0 : Int32)) h2 n0 Z2 Oq_a Oq_1 Oq_2 Oq_3 (XE.ext Od2.2) (own_Tab0 _) hr0 (by decide) hD f_b1 f_t1 f_t2 f_t3) (hw _ (List.mem_of_getElem? (i := 21) rfl)) (hw _ (List.mem_of_getElem? (i := 22) rfl)) (fun _ q => notFace_of_selects q) (hw _ (List.mem_of_getElem? (i := 24) rfl)) (hw _ (List.mem_of_getElem? (i := 23) rfl)) (hw _ (List.mem_of_getElem? (i := 2) rfl)) (hw _ (List.mem_of_getElem? (i := 25) rfl)) (by decide) b1 Oq_a.exa [(.int p1), (.ref d)] [] own_pd5 rfl rfl rfl rfl at_19 (by decide) (Nat.le_of_ble_eq_true rfl) (by decide) (by decide) ?_
  intro T4 L4 v4 X4 hQ4
  obtain ⟨h4, e4⟩ : ∃ z, T4.heap = z := ⟨_, rfl⟩
  rw [e4] at hQ4
  obtain ⟨rfl, Nq4, Kq4, Oq4_b1, Oq4_t1, Oq4_t2, Oq4_t3⟩ := hQ4
  have N4 := Fr.app N2 Nq4
  have Od4 := Old.keep Od2 Kq4 (allS f_b1 (allS f_t1 (allS f_t2 (allS f_t3 all0))))
  have Z4 : n0 ≤ h4.size := Nat.le_trans Z2 Kq4.1
  have hT1 := own_Tab_add (own_Tab0 _) (by decide) (own_idx_none (by decide) hr0)
  generalize own_un (fun _ => (0 : Nat)) (own_sk (fun _ => (0 : Nat)) 0 4 (own_H p1)) (0 + 1) = u1 at hT1 Oq4_t3
  show own_Fin p e below _ T4 (mkF m 22 #[.val (.int p1), .val (.int p2), .val (.int p3), .val (.int p4), .val (.ref b1), .val (.ref d), .unset, .unset, .unset, .unset, .unset, .unset, .unset, .unset, .unset, .unset, .unset, .unset] [(.int (1 : Int32))])
  refine own_seg (T' := T4) (g' := (mkF m 29 #[.val (.int p1), .val (.int p2), .val (.int p3), .val (.int p4), .val (.ref b1), .val (.ref d), .val (.int (1 : Int32)), .unset, .unset, .unset, .unset, .unset, .unset, .unset, .unset, .unset, .unset, .unset] [(.ref d), (.int p2), (.ref b1)])) (fun tg kt => ?_) ?_
  · show Steps p.tables e below (T4.setTop (mkF m 22 #[.val (.int p1), .val (.int p2), .val (.int p3), .val (.int p4), .val (.ref b1), .val (.ref d), .unset, .unset, .unset, .unset, .unset, .unset, .unset, .unset, .unset, .unset, .unset, .unset] [(.int (1 : Int32))])) tg
    refine XS.istore X4.here hx rfl (hb hby at_22) rfl (l' := #[.val (.int p1), .val (.int p2), .val (.int p3), .val (.int p4), .val (.ref b1), .val (.ref d), .val (.int (1 : Int32)), .unset, .unset, .unset, .unset, .unset, .unset, .unset, .unset, .unset, .unset, .unset]) rfl ?_
    show Steps p.tables e below (T4.setTop (mkF m 24 #[.val (.int p1), .val (.int p2), .val (.int p3), .val (.int p4), .val (.ref b1), .val (.ref d), .val (.int (1 : Int32)), .unset, .unset, .unset, .unset, .unset, .unset, .unset, .unset, .unset, .unset, .unset] [])) tg
    refine XS.aload X4.here hx rfl (hb hby at_24) rfl rfl ?_
    show Steps p.tables e below (T4.setTop (mkF m 26 #[.val (.int p1), .val (.int p2), .val (.int p3), .val (.int p4), .val (.ref b1), .val (.ref d), .val (.int (1 : Int32)), .unset, .unset, .unset, .unset, .unset, .unset, .unset, .unset, .unset, .unset, .unset] [(.ref b1)])) tg
    refine XS.iloadN X4.here hx rfl (hb hby at_26) rfl ?_
    show Steps p.tables e below (T4.setTop (mkF m 27 #[.val (.int p1), .val (.int p2), .val (.int p3), .val (.int p4), .val (.ref b1), .val (.ref d), .val (.int (1 : Int32)), .unset, .unset, .unset, .unset, .unset, .unset, .unset, .unset, .unset, .unset, .unset] [(.int p2), (.ref b1)])) tg
    refine XS.aload X4.here hx rfl (hb hby at_27) rfl rfl ?_
    exact kt
  refine own_callV K X4 e4 (rmA0 l Z a0 hw b1 t1 t2 t3 p2 d 1 u1 (own_up (fun _ => (0 : Int32)) 0 p1) 0 h4 n0 Z4 Oq4_b1 Oq4_t1 Oq4_t2 Oq4_t3 hT1 (by simp [own_idx, own_up, hba]) (by decide)) (hw _ (List.mem_of_getElem? (i := 21) rfl)) (hw _ (List.mem_of_getElem? (i := 22) rfl)) (fun _ q => notFace_of_selects q) (hw _ (List.mem_of_getElem? (i := 24) rfl)) (hw _ (List.mem_of_getElem? (i := 23) rfl)) (hw _ (List.mem_of_getElem? (i := 2) rfl)) (hw _ (List.mem_of_getElem? (i := 25) rfl)) (by decide) b1 Oq4_b1.exa [(.int p2), (.ref d)] [] own_pd5 rfl rfl rfl rfl at_29 (by decide) (Nat.le_of_ble_eq_true rfl) (by decide) (by decide) ?_
  intro T5 L5 v5 X5 hQ5
  obtain ⟨rfl, Nq5, e5⟩ := hQ5
  have N5 := Fr.app N4 Nq5
  show own_Fin p e below _ T5 (mkF m 32 #[.val (.int p1), .val (.int p2), .val (.int p3), .val (.int p4), .val (.ref b1), .val (.ref d), .val (.int (1 : Int32)), .unset, .unset, .unset, .unset, .unset, .unset, .unset, .unset, .unset, .unset, .unset] [(.int (0 : Int32))])
  refine own_seg (T' := T5) (g' := (mkF m 39 #[.val (.int p1), .val (.int p2), .val (.int p3), .val (.int p4), .val (.ref b1), .val (.ref d), .val (.int (1 : Int32)), .val (.int (0 : Int32)), .unset, .unset, .unset, .unset, .unset, .unset, .unset, .unset, .unset, .unset] [(.ref d), (.int p3), (.ref b1)])) (fun tg kt => ?_) ?_
  · show Steps p.tables e below (T5.setTop (mkF m 32 #[.val (.int p1), .val (.int p2), .val (.int p3), .val (.int p4), .val (.ref b1), .val (.ref d), .val (.int (1 : Int32)), .unset, .unset, .unset, .unset, .unset, .unset, .unset, .unset, .unset, .unset, .unset] [(.int (0 : Int32))])) tg
    refine XS.istore X5.here hx rfl (hb hby at_32) rfl (l' := #[.val (.int p1), .val (.int p2), .val (.int p3), .val (.int p4), .val (.ref b1), .val (.ref d), .val (.int (1 : Int32)), .val (.int (0 : Int32)), .unset, .unset, .unset, .unset, .unset, .unset, .unset, .unset, .unset, .unset]) rfl ?_
    show Steps p.tables e below (T5.setTop (mkF m 34 #[.val (.int p1), .val (.int p2), .val (.int p3), .val (.int p4), .val (.ref b1), .val (.ref d), .val (.int (1 : Int32)), .val (.int (0 : Int32)), .unset, .unset, .unset, .unset, .unset, .unset, .unset, .unset, .unset, .unset] [])) tg
    refine XS.aload X5.here hx rfl (hb hby at_34) rfl rfl ?_
    show Steps p.tables e below (T5.setTop (mkF m 36 #[.val (.int p1), .val (.int p2), .val (.int p3), .val (.int p4), .val (.ref b1), .val (.ref d), .val (.int (1 : Int32)), .val (.int (0 : Int32)), .unset, .unset, .unset, .unset, .unset, .unset, .unset, .unset, .unset, .unset] [(.ref b1)])) tg
    refine XS.iloadN X5.here hx rfl (hb hby at_36) rfl ?_
    show Steps p.tables e below (T5.setTop (mkF m 37 #[.val (.int p1), .val (.int p2), .val (.int p3), .val (.int p4), .val (.ref b1), .val (.ref d), .val (.int (1 : Int32)), .val (.int (0 : Int32)), .unset, .unset, .unset, .unset, .unset, .unset, .unset, .unset, .unset, .unset] [(.int p3), (.ref b1)])) tg
    refine XS.aload X5.here hx rfl (hb hby at_37) rfl rfl ?_
    exact kt
  refine own_callV K X5 e5 (rmA0 l Z a0 hw b1 t1 t2 t3 p3 d 1 u1 (own_up (fun _ => (0 : Int32)) 0 p1) 0 h4 n0 Z4 Oq4_b1 Oq4_t1 Oq4_t2 Oq4_t3 hT1 (by simp [own_idx, own_up, hca]) (by decide)) (hw _ (List.mem_of_getElem? (i := 21) rfl)) (hw _ (List.mem_of_getElem? (i := 22) rfl)) (fun _ q => notFace_of_selects q) (hw _ (List.mem_of_getElem? (i := 24) rfl)) (hw _ (List.mem_of_getElem? (i := 23) rfl)) (hw _ (List.mem_of_getElem? (i := 2) rfl)) (hw _ (List.mem_of_getElem? (i := 25) rfl)) (by decide) b1 Oq4_b1.exa [(.int p3), (.ref d)] [] own_pd5 rfl rfl rfl rfl at_39 (by decide) (Nat.le_of_ble_eq_true rfl) (by decide) (by decide) ?_
  intro T6 L6 v6 X6 hQ6
  obtain ⟨rfl, Nq6, e6⟩ := hQ6
  have N6 := Fr.app N5 Nq6
  show own_Fin p e below _ T6 (mkF m 42 #[.val (.int p1), .val (.int p2), .val (.int p3), .val (.int p4), .val (.ref b1), .val (.ref d), .val (.int (1 : Int32)), .val (.int (0 : Int32)), .unset, .unset, .unset, .unset, .unset, .unset, .unset, .unset, .unset, .unset] [(.int (0 : Int32))])
  refine own_seg (T' := T6) (g' := (mkF m 46 #[.val (.int p1), .val (.int p2), .val (.int p3), .val (.int p4), .val (.ref b1), .val (.ref d), .val (.int (1 : Int32)), .val (.int (0 : Int32)), .val (.int (0 : Int32)), .unset, .unset, .unset, .unset, .unset, .unset, .unset, .unset, .unset] [(.int p1), (.int p2)])) (fun tg kt => ?_) ?_
  · show Steps p.tables e below (T6.setTop (mkF m 42 #[.val (.int p1), .val (.int p2), .val (.int p3), .val (.int p4), .val (.ref b1), .val (.ref d), .val (.int (1 : Int32)), .val (.int (0 : Int32)), .unset, .unset, .unset, .unset, .unset, .unset, .unset, .unset, .unset, .unset] [(.int (0 : Int32))])) tg
    refine XS.istore X6.here hx rfl (hb hby at_42) rfl (l' := #[.val (.int p1), .val (.int p2), .val (.int p3), .val (.int p4), .val (.ref b1), .val (.ref d), .val (.int (1 : Int32)), .val (.int (0 : Int32)), .val (.int (0 : Int32)), .unset, .unset, .unset, .unset, .unset, .unset, .unset, .unset, .unset]) rfl ?_
    show Steps p.tables e below (T6.setTop (mkF m 44 #[.val (.int p1), .val (.int p2), .val (.int p3), .val (.int p4), .val (.ref b1), .val (.ref d), .val (.int (1 : Int32)), .val (.int (0 : Int32)), .val (.int (0 : Int32)), .unset, .unset, .unset, .unset, .unset, .unset, .unset, .unset, .unset] [])) tg
    refine XS.iloadN X6.here hx rfl (hb hby at_44) rfl ?_
    show Steps p.tables e below (T6.setTop (mkF m 45 #[.val (.int p1), .val (.int p2), .val (.int p3), .val (.int p4), .val (.ref b1), .val (.ref d), .val (.int (1 : Int32)), .val (.int (0 : Int32)), .val (.int (0 : Int32)), .unset, .unset, .unset, .unset, .unset, .unset, .unset, .unset, .unset] [(.int p2)])) tg
    refine XS.iloadN X6.here hx rfl (hb hby at_45) rfl ?_
    exact kt
  have hc46 : p2 = p1 := hba
  refine own_seg (T' := T6) (g' := (mkF m 53 #[.val (.int p1), .val (.int p2), .val (.int p3), .val (.int p4), .val (.ref b1), .val (.ref d), .val (.int (1 : Int32)), .val (.int (0 : Int32)), .val (.int (0 : Int32)), .unset, .unset, .unset, .unset, .unset, .unset, .unset, .unset, .unset] [])) (fun tg kt => XS.icmpYes X6.here hx rfl (pc0 := 46) (pc' := 53) rfl (hb hby at_46) rfl (teq hc46).1 (by decide) (by decide) kt) ?_
  refine own_seg (T' := T6) (g' := (mkF m 58 #[.val (.int p1), .val (.int p2), .val (.int p3), .val (.int p4), .val (.ref b1), .val (.ref d), .val (.int (1 : Int32)), .val (.int (0 : Int32)), .val (.int (0 : Int32)), .val (.int (0 : Int32)), .unset, .unset, .unset, .unset, .unset, .unset, .unset, .unset] [(.int p1), (.int p3)])) (fun tg kt => ?_) ?_
  · show Steps p.tables e below (T6.setTop (mkF m 53 #[.val (.int p1), .val (.int p2), .val (.int p3), .val (.int p4), .val (.ref b1), .val (.ref d), .val (.int (1 : Int32)), .val (.int (0 : Int32)), .val (.int (0 : Int32)), .unset, .unset, .unset, .unset, .unset, .unset, .unset, .unset, .unset] [])) tg
    refine XS.iconst X6.here hx rfl (hb hby at_53) ?_
    show Steps p.tables e below (T6.setTop (mkF m 54 #[.val (.int p1), .val (.int p2), .val (.int p3), .val (.int p4), .val (.ref b1), .val (.ref d), .val (.int (1 : Int32)), .val (.int (0 : Int32)), .val (.int (0 : Int32)), .unset, .unset, .unset, .unset, .unset, .unset, .unset, .unset, .unset] [(.int (0 : Int32))])) tg
    refine XS.istore X6.here hx rfl (hb hby at_54) rfl (l' := #[.val (.int p1), .val (.int p2), .val (.int p3), .val (.int p4), .val (.ref b1), .val (.ref d), .val (.int (1 : Int32)), .val (.int (0 : Int32)), .val (.int (0 : Int32)), .val (.int (0 : Int32)), .unset, .unset, .unset, .unset, .unset, .unset, .unset, .unset]) rfl ?_
    show Steps p.tables e below (T6.setTop (mkF m 56 #[.val (.int p1), .val (.int p2), .val (.int p3), .val (.int p4), .val (.ref b1), .val (.ref d), .val (.int (1 : Int32)), .val (.int (0 : Int32)), .val (.int (0 : Int32)), .val (.int (0 : Int32)), .unset, .unset, .unset, .unset, .unset, .unset, .unset, .unset] [])) tg
    refine XS.iloadN X6.here hx rfl (hb hby at_56) rfl ?_
    show Steps p.tables e below (T6.setTop (mkF m 57 #[.val (.int p1), .val (.int p2), .val (.int p3), .val (.int p4), .val (.ref b1), .val (.ref d), .val (.int (1 : Int32)), .val (.int (0 : Int32)), .val (.int (0 : Int32)), .val (.int (0 : Int32)), .unset, .unset, .unset, .unset, .unset, .unset, .unset, .unset] [(.int p3)])) tg
    refine XS.iloadN X6.here hx rfl (hb hby at_57) rfl ?_
    exact kt
  have hc58 : p3 = p1 := hca
  refine own_seg (T' := T6) (g' := (mkF m 70 #[.val (.int p1), .val (.int p2), .val (.int p3), .val (.int p4), .val (.ref b1), .val (.ref d), .val (.int (1 : Int32)), .val (.int (0 : Int32)), .val (.int (0 : Int32)), .val (.int (0 : Int32)), .unset, .unset, .unset, .unset, .unset, .unset, .unset, .unset] [])) (fun tg kt => XS.icmpYes X6.here hx rfl (pc0 := 58) (pc' := 70) rfl (hb hby at_58) rfl (teq hc58).1 (by decide) (by decide) kt) ?_
  refine own_seg (T' := T6) (g' := (mkF m 76 #[.val (.int p1), .val (.int p2), .val (.int p3), .val (.int p4), .val (.ref b1), .val (.ref d), .val (.int (1 : Int32)), .val (.int (0 : Int32)), .val (.int (0 : Int32)), .val (.int (0 : Int32)), .val (.int (0 : Int32)), .unset, .unset, .unset, .unset, .unset, .unset, .unset] [(.int (0 : Int32)), (.int (1 : Int32))])) (fun tg kt => ?_) ?_
  · show Steps p.tables e below (T6.setTop (mkF m 70 #[.val (.int p1), .val (.int p2), .val (.int p3), .val (.int p4), .val (.ref b1), .val (.ref d), .val (.int (1 : Int32)), .val (.int (0 : Int32)), .val (.int (0 : Int32)), .val (.int (0 : Int32)), .unset, .unset, .unset, .unset, .unset, .unset, .unset, .unset] [])) tg
    refine XS.iconst X6.here hx rfl (hb hby at_70) ?_
    show Steps p.tables e below (T6.setTop (mkF m 71 #[.val (.int p1), .val (.int p2), .val (.int p3), .val (.int p4), .val (.ref b1), .val (.ref d), .val (.int (1 : Int32)), .val (.int (0 : Int32)), .val (.int (0 : Int32)), .val (.int (0 : Int32)), .unset, .unset, .unset, .unset, .unset, .unset, .unset, .unset] [(.int (0 : Int32))])) tg
    refine XS.istore X6.here hx rfl (hb hby at_71) rfl (l' := #[.val (.int p1), .val (.int p2), .val (.int p3), .val (.int p4), .val (.ref b1), .val (.ref d), .val (.int (1 : Int32)), .val (.int (0 : Int32)), .val (.int (0 : Int32)), .val (.int (0 : Int32)), .val (.int (0 : Int32)), .unset, .unset, .unset, .unset, .unset, .unset, .unset]) rfl ?_
    show Steps p.tables e below (T6.setTop (mkF m 73 #[.val (.int p1), .val (.int p2), .val (.int p3), .val (.int p4), .val (.ref b1), .val (.ref d), .val (.int (1 : Int32)), .val (.int (0 : Int32)), .val (.int (0 : Int32)), .val (.int (0 : Int32)), .val (.int (0 : Int32)), .unset, .unset, .unset, .unset, .unset, .unset, .unset] [])) tg
    refine XS.iconst X6.here hx rfl (hb hby at_73) ?_
    show Steps p.tables e below (T6.setTop (mkF m 74 #[.val (.int p1), .val (.int p2), .val (.int p3), .val (.int p4), .val (.ref b1), .val (.ref d), .val (.int (1 : Int32)), .val (.int (0 : Int32)), .val (.int (0 : Int32)), .val (.int (0 : Int32)), .val (.int (0 : Int32)), .unset, .unset, .unset, .unset, .unset, .unset, .unset] [(.int (1 : Int32))])) tg
    refine XS.iload X6.here hx rfl (hb hby at_74) rfl ?_
    exact kt
  have hc76 : (0 : Int32) = (0 : Int32) := by decide
  refine own_seg (T' := T6) (g' := (mkF m 83 #[.val (.int p1), .val (.int p2), .val (.int p3), .val (.int p4), .val (.ref b1), .val (.ref d), .val (.int (1 : Int32)), .val (.int (0 : Int32)), .val (.int (0 : Int32)), .val (.int (0 : Int32)), .val (.int (0 : Int32)), .unset, .unset, .unset, .unset, .unset, .unset, .unset] [(.int (1 : Int32))])) (fun tg kt => XS.ifYes X6.here hx rfl (pc0 := 76) (pc' := 83) rfl (hb hby at_76) rfl ((if0 _ _).trans (teq hc76).1) (by decide) (by decide) kt) ?_
  refine own_seg (T' := T6) (g' := (mkF m 87 #[.val (.int p1), .val (.int p2), .val (.int p3), .val (.int p4), .val (.ref b1), .val (.ref d), .val (.int (1 : Int32)), .val (.int (0 : Int32)), .val (.int (0 : Int32)), .val (.int (0 : Int32)), .val (.int (0 : Int32)), .unset, .unset, .unset, .unset, .unset, .unset, .unset] [(.int (0 : Int32)), (.int (1 : Int32))])) (fun tg kt => ?_) ?_
  · show Steps p.tables e below (T6.setTop (mkF m 83 #[.val (.int p1), .val (.int p2), .val (.int p3), .val (.int p4), .val (.ref b1), .val (.ref d), .val (.int (1 : Int32)), .val (.int (0 : Int32)), .val (.int (0 : Int32)), .val (.int (0 : Int32)), .val (.int (0 : Int32)), .unset, .unset, .unset, .unset, .unset, .unset, .unset] [(.int (1 : Int32))])) tg
    refine XS.iconst X6.here hx rfl (hb hby at_83) ?_
    show Steps p.tables e below (T6.setTop (mkF m 84 #[.val (.int p1), .val (.int p2), .val (.int p3), .val (.int p4), .val (.ref b1), .val (.ref d), .val (.int (1 : Int32)), .val (.int (0 : Int32)), .val (.int (0 : Int32)), .val (.int (0 : Int32)), .val (.int (0 : Int32)), .unset, .unset, .unset, .unset, .unset, .unset, .unset] [(.int (0 : Int32)), (.int (1 : Int32))])) tg
    refine XS.iadd X6.here hx rfl (hb hby at_84) rfl ?_
    show Steps p.tables e below (T6.setTop (mkF m 85 #[.val (.int p1), .val (.int p2), .val (.int p3), .val (.int p4), .val (.ref b1), .val (.ref d), .val (.int (1 : Int32)), .val (.int (0 : Int32)), .val (.int (0 : Int32)), .val (.int (0 : Int32)), .val (.int (0 : Int32)), .unset, .unset, .unset, .unset, .unset, .unset, .unset] [(.int (1 : Int32))])) tg
    refine XS.iload X6.here hx rfl (hb hby at_85) rfl ?_
    exact kt
  have hc87 : (0 : Int32) = (0 : Int32) := by decide
  refine own_seg (T' := T6) (g' := (mkF m 94 #[.val (.int p1), .val (.int p2), .val (.int p3), .val (.int p4), .val (.ref b1), .val (.ref d), .val (.int (1 : Int32)), .val (.int (0 : Int32)), .val (.int (0 : Int32)), .val (.int (0 : Int32)), .val (.int (0 : Int32)), .unset, .unset, .unset, .unset, .unset, .unset, .unset] [(.int (1 : Int32))])) (fun tg kt => XS.ifYes X6.here hx rfl (pc0 := 87) (pc' := 94) rfl (hb hby at_87) rfl ((if0 _ _).trans (teq hc87).1) (by decide) (by decide) kt) ?_
  refine own_seg (T' := T6) (g' := (mkF m 106 #[.val (.int p1), .val (.int p2), .val (.int p3), .val (.int p4), .val (.ref b1), .val (.ref d), .val (.int (1 : Int32)), .val (.int (0 : Int32)), .val (.int (0 : Int32)), .val (.int (0 : Int32)), .val (.int (0 : Int32)), .val (.int (1 : Int32)), .val (.int ((p4 &&& (2147483647 : Int32)) % (5 : Int32))), .unset, .unset, .unset, .unset, .unset] [])) (fun tg kt => ?_) ?_
  · show Steps p.tables e below (T6.setTop (mkF m 94 #[.val (.int p1), .val (.int p2), .val (.int p3), .val (.int p4), .val (.ref b1), .val (.ref d), .val (.int (1 : Int32)), .val (.int (0 : Int32)), .val (.int (0 : Int32)), .val (.int (0 : Int32)), .val (.int (0 : Int32)), .unset, .unset, .unset, .unset, .unset, .unset, .unset] [(.int (1 : Int32))])) tg
    refine XS.iconst X6.here hx rfl (hb hby at_94) ?_
    show Steps p.tables e below (T6.setTop (mkF m 95 #[.val (.int p1), .val (.int p2), .val (.int p3), .val (.int p4), .val (.ref b1), .val (.ref d), .val (.int (1 : Int32)), .val (.int (0 : Int32)), .val (.int (0 : Int32)), .val (.int (0 : Int32)), .val (.int (0 : Int32)), .unset, .unset, .unset, .unset, .unset, .unset, .unset] [(.int (0 : Int32)), (.int (1 : Int32))])) tg
    refine XS.iadd X6.here hx rfl (hb hby at_95) rfl ?_
    show Steps p.tables e below (T6.setTop (mkF m 96 #[.val (.int p1), .val (.int p2), .val (.int p3), .val (.int p4), .val (.ref b1), .val (.ref d), .val (.int (1 : Int32)), .val (.int (0 : Int32)), .val (.int (0 : Int32)), .val (.int (0 : Int32)), .val (.int (0 : Int32)), .unset, .unset, .unset, .unset, .unset, .unset, .unset] [(.int (1 : Int32))])) tg
    refine XS.istore X6.here hx rfl (hb hby at_96) rfl (l' := #[.val (.int p1), .val (.int p2), .val (.int p3), .val (.int p4), .val (.ref b1), .val (.ref d), .val (.int (1 : Int32)), .val (.int (0 : Int32)), .val (.int (0 : Int32)), .val (.int (0 : Int32)), .val (.int (0 : Int32)), .val (.int (1 : Int32)), .unset, .unset, .unset, .unset, .unset, .unset]) rfl ?_
    show Steps p.tables e below (T6.setTop (mkF m 98 #[.val (.int p1), .val (.int p2), .val (.int p3), .val (.int p4), .val (.ref b1), .val (.ref d), .val (.int (1 : Int32)), .val (.int (0 : Int32)), .val (.int (0 : Int32)), .val (.int (0 : Int32)), .val (.int (0 : Int32)), .val (.int (1 : Int32)), .unset, .unset, .unset, .unset, .unset, .unset] [])) tg
    refine XS.iloadN X6.here hx rfl (hb hby at_98) rfl ?_
    show Steps p.tables e below (T6.setTop (mkF m 99 #[.val (.int p1), .val (.int p2), .val (.int p3), .val (.int p4), .val (.ref b1), .val (.ref d), .val (.int (1 : Int32)), .val (.int (0 : Int32)), .val (.int (0 : Int32)), .val (.int (0 : Int32)), .val (.int (0 : Int32)), .val (.int (1 : Int32)), .unset, .unset, .unset, .unset, .unset, .unset] [(.int p4)])) tg
    refine X6.ldcInt hx hown (mvT hZ (hw _ (List.mem_of_getElem? (i := 47) rfl))) (g := (mkF m 99 #[.val (.int p1), .val (.int p2), .val (.int p3), .val (.int p4), .val (.ref b1), .val (.ref d), .val (.int (1 : Int32)), .val (.int (0 : Int32)), .val (.int (0 : Int32)), .val (.int (0 : Int32)), .val (.int (0 : Int32)), .val (.int (1 : Int32)), .unset, .unset, .unset, .unset, .unset, .unset] [(.int p4)])) rfl (hb hby at_99) _ ?_
    show Steps p.tables e below (T6.setTop (mkF m 101 #[.val (.int p1), .val (.int p2), .val (.int p3), .val (.int p4), .val (.ref b1), .val (.ref d), .val (.int (1 : Int32)), .val (.int (0 : Int32)), .val (.int (0 : Int32)), .val (.int (0 : Int32)), .val (.int (0 : Int32)), .val (.int (1 : Int32)), .unset, .unset, .unset, .unset, .unset, .unset] [(.int (2147483647 : Int32)), (.int p4)])) tg
    refine XS.iand X6.here hx rfl (hb hby at_101) rfl ?_
    show Steps p.tables e below (T6.setTop (mkF m 102 #[.val (.int p1), .val (.int p2), .val (.int p3), .val (.int p4), .val (.ref b1), .val (.ref d), .val (.int (1 : Int32)), .val (.int (0 : Int32)), .val (.int (0 : Int32)), .val (.int (0 : Int32)), .val (.int (0 : Int32)), .val (.int (1 : Int32)), .unset, .unset, .unset, .unset, .unset, .unset] [(.int (p4 &&& (2147483647 : Int32)))])) tg
    refine XS.iconst X6.here hx rfl (hb hby at_102) ?_
    show Steps p.tables e below (T6.setTop (mkF m 103 #[.val (.int p1), .val (.int p2), .val (.int p3), .val (.int p4), .val (.ref b1), .val (.ref d), .val (.int (1 : Int32)), .val (.int (0 : Int32)), .val (.int (0 : Int32)), .val (.int (0 : Int32)), .val (.int (0 : Int32)), .val (.int (1 : Int32)), .unset, .unset, .unset, .unset, .unset, .unset] [(.int (5 : Int32)), (.int (p4 &&& (2147483647 : Int32)))])) tg
    refine iremM X6 hx rfl (hb hby at_103) rfl (by decide) ?_
    show Steps p.tables e below (T6.setTop (mkF m 104 #[.val (.int p1), .val (.int p2), .val (.int p3), .val (.int p4), .val (.ref b1), .val (.ref d), .val (.int (1 : Int32)), .val (.int (0 : Int32)), .val (.int (0 : Int32)), .val (.int (0 : Int32)), .val (.int (0 : Int32)), .val (.int (1 : Int32)), .unset, .unset, .unset, .unset, .unset, .unset] [(.int ((p4 &&& (2147483647 : Int32)) % (5 : Int32)))])) tg
    refine XS.istore X6.here hx rfl (hb hby at_104) rfl (l' := #[.val (.int p1), .val (.int p2), .val (.int p3), .val (.int p4), .val (.ref b1), .val (.ref d), .val (.int (1 : Int32)), .val (.int (0 : Int32)), .val (.int (0 : Int32)), .val (.int (0 : Int32)), .val (.int (0 : Int32)), .val (.int (1 : Int32)), .val (.int ((p4 &&& (2147483647 : Int32)) % (5 : Int32))), .unset, .unset, .unset, .unset, .unset]) rfl ?_
    exact kt
  obtain ⟨mm, hmm4, hmm⟩ := own_k5 p4
  rw [hmm]
  refine own_seg (T' := T6) (g' := (mkF m 110 #[.val (.int p1), .val (.int p2), .val (.int p3), .val (.int p4), .val (.ref b1), .val (.ref d), .val (.int (1 : Int32)), .val (.int (0 : Int32)), .val (.int (0 : Int32)), .val (.int (0 : Int32)), .val (.int (0 : Int32)), .val (.int (1 : Int32)), .val (.int (Int32.ofNat mm)), .unset, .unset, .unset, .unset, .unset] [(.int (Int32.ofNat mm)), (.ref b1)])) (fun tg kt => ?_) ?_
  · show Steps p.tables e below (T6.setTop (mkF m 106 #[.val (.int p1), .val (.int p2), .val (.int p3), .val (.int p4), .val (.ref b1), .val (.ref d), .val (.int (1 : Int32)), .val (.int (0 : Int32)), .val (.int (0 : Int32)), .val (.int (0 : Int32)), .val (.int (0 : Int32)), .val (.int (1 : Int32)), .val (.int (Int32.ofNat mm)), .unset, .unset, .unset, .unset, .unset] [])) tg
    refine XS.aload X6.here hx rfl (hb hby at_106) rfl rfl ?_
    show Steps p.tables e below (T6.setTop (mkF m 108 #[.val (.int p1), .val (.int p2), .val (.int p3), .val (.int p4), .val (.ref b1), .val (.ref d), .val (.int (1 : Int32)), .val (.int (0 : Int32)), .val (.int (0 : Int32)), .val (.int (0 : Int32)), .val (.int (0 : Int32)), .val (.int (1 : Int32)), .val (.int (Int32.ofNat mm)), .unset, .unset, .unset, .unset, .unset] [(.ref b1)])) tg
    refine XS.iload X6.here hx rfl (hb hby at_108) rfl ?_
    exact kt
  refine own_callV K X6 e6 (rmT l Z a0 hw b1 t1 t2 t3 mm 1 u1 (own_up (fun _ => (0 : Int32)) 0 p1) h4 n0 Z4 Oq4_b1 Oq4_t1 Oq4_t2 Oq4_t3 hD f_b1 f_t1 f_t2 f_t3 (by omega) hT1) (hw _ (List.mem_of_getElem? (i := 48) rfl)) (hw _ (List.mem_of_getElem? (i := 49) rfl)) (fun _ q => notFace_of_selects q) (hw _ (List.mem_of_getElem? (i := 51) rfl)) (hw _ (List.mem_of_getElem? (i := 50) rfl)) (hw _ (List.mem_of_getElem? (i := 2) rfl)) (hw _ (List.mem_of_getElem? (i := 52) rfl)) (by decide) b1 Oq4_b1.exa [(.int (Int32.ofNat mm))] [] own_pd2 rfl rfl rfl rfl at_110 (by decide) (Nat.le_of_ble_eq_true rfl) (by decide) (by decide) ?_
  intro T7 L7 v7 X7 hQ7
  obtain ⟨h7, e7⟩ : ∃ z, T7.heap = z := ⟨_, rfl⟩
  rw [e7] at hQ7
  obtain ⟨kk, uk, rfl, Nq7, Kq7, hkk, hTk, P_a, P_1, P_2, P_3⟩ := hQ7
  have N7 := Fr.app N6 Nq7
  have Od7 := Old.keep Od4 Kq7 (allS f_b1 (allS f_t1 (allS f_t2 (allS f_t3 all0))))
  have Z7 : n0 ≤ h7.size := Nat.le_trans Z4 Kq7.1
  show own_Fin p e below _ T7 (mkF m 113 #[.val (.int p1), .val (.int p2), .val (.int p3), .val (.int p4), .val (.ref b1), .val (.ref d), .val (.int (1 : Int32)), .val (.int (0 : Int32)), .val (.int (0 : Int32)), .val (.int (0 : Int32)), .val (.int (0 : Int32)), .val (.int (1 : Int32)), .val (.int (Int32.ofNat mm)), .unset, .unset, .unset, .unset, .unset] [])
  refine own_seg (T' := T7) (g' := (mkF m 117 #[.val (.int p1), .val (.int p2), .val (.int p3), .val (.int p4), .val (.ref b1), .val (.ref d), .val (.int (1 : Int32)), .val (.int (0 : Int32)), .val (.int (0 : Int32)), .val (.int (0 : Int32)), .val (.int (0 : Int32)), .val (.int (1 : Int32)), .val (.int (Int32.ofNat mm)), .unset, .unset, .unset, .unset, .unset] [(.int (Int32.ofNat mm)), (.int (1 : Int32))])) (fun tg kt => ?_) ?_
  · show Steps p.tables e below (T7.setTop (mkF m 113 #[.val (.int p1), .val (.int p2), .val (.int p3), .val (.int p4), .val (.ref b1), .val (.ref d), .val (.int (1 : Int32)), .val (.int (0 : Int32)), .val (.int (0 : Int32)), .val (.int (0 : Int32)), .val (.int (0 : Int32)), .val (.int (1 : Int32)), .val (.int (Int32.ofNat mm)), .unset, .unset, .unset, .unset, .unset] [])) tg
    refine XS.iload X7.here hx rfl (hb hby at_113) rfl ?_
    show Steps p.tables e below (T7.setTop (mkF m 115 #[.val (.int p1), .val (.int p2), .val (.int p3), .val (.int p4), .val (.ref b1), .val (.ref d), .val (.int (1 : Int32)), .val (.int (0 : Int32)), .val (.int (0 : Int32)), .val (.int (0 : Int32)), .val (.int (0 : Int32)), .val (.int (1 : Int32)), .val (.int (Int32.ofNat mm)), .unset, .unset, .unset, .unset, .unset] [(.int (1 : Int32))])) tg
    refine XS.iload X7.here hx rfl (hb hby at_115) rfl ?_
    exact kt
  have hmn : own_min (1 : Int32) (Int32.ofNat mm) = Int32.ofNat kk := by
    rw [hkk]
    rcases (by omega : mm = 0 ∨ mm = 1 ∨ mm = 2 ∨ mm = 3 ∨ mm = 4) with rfl | rfl | rfl | rfl | rfl <;> decide
  refine own_callS K X7 e7 (rmM l Z a0 hw (1 : Int32) (Int32.ofNat mm) h7 n0 Z7) (hw _ (List.mem_of_getElem? (i := 53) rfl)) (hw _ (List.mem_of_getElem? (i := 54) rfl)) (hw _ (List.mem_of_getElem? (i := 55) rfl)) (hw _ (List.mem_of_getElem? (i := 56) rfl)) (by decide) [(.int (1 : Int32)), (.int (Int32.ofNat mm))] [] own_pd6 rfl rfl rfl rfl at_117 (by decide) (Nat.le_of_ble_eq_true rfl) (by decide) (by decide) ?_
  intro T8 L8 v8 X8 hQ8
  obtain ⟨rfl, Nq8, e8⟩ := hQ8
  rw [hmn]
  have N8 := Fr.app N7 Nq8
  show own_Fin p e below _ T8 (mkF m 120 #[.val (.int p1), .val (.int p2), .val (.int p3), .val (.int p4), .val (.ref b1), .val (.ref d), .val (.int (1 : Int32)), .val (.int (0 : Int32)), .val (.int (0 : Int32)), .val (.int (0 : Int32)), .val (.int (0 : Int32)), .val (.int (1 : Int32)), .val (.int (Int32.ofNat mm)), .unset, .unset, .unset, .unset, .unset] [(.int (Int32.ofNat kk))])
  refine own_seg (T' := T8) (g' := (mkF m 124 #[.val (.int p1), .val (.int p2), .val (.int p3), .val (.int p4), .val (.ref b1), .val (.ref d), .val (.int (1 : Int32)), .val (.int (0 : Int32)), .val (.int (0 : Int32)), .val (.int (0 : Int32)), .val (.int (0 : Int32)), .val (.int (1 : Int32)), .val (.int (Int32.ofNat mm)), .val (.int (Int32.ofNat kk)), .unset, .unset, .unset, .unset] [(.int (0 : Int32))])) (fun tg kt => ?_) ?_
  · show Steps p.tables e below (T8.setTop (mkF m 120 #[.val (.int p1), .val (.int p2), .val (.int p3), .val (.int p4), .val (.ref b1), .val (.ref d), .val (.int (1 : Int32)), .val (.int (0 : Int32)), .val (.int (0 : Int32)), .val (.int (0 : Int32)), .val (.int (0 : Int32)), .val (.int (1 : Int32)), .val (.int (Int32.ofNat mm)), .unset, .unset, .unset, .unset, .unset] [(.int (Int32.ofNat kk))])) tg
    refine XS.istore X8.here hx rfl (hb hby at_120) rfl (l' := #[.val (.int p1), .val (.int p2), .val (.int p3), .val (.int p4), .val (.ref b1), .val (.ref d), .val (.int (1 : Int32)), .val (.int (0 : Int32)), .val (.int (0 : Int32)), .val (.int (0 : Int32)), .val (.int (0 : Int32)), .val (.int (1 : Int32)), .val (.int (Int32.ofNat mm)), .val (.int (Int32.ofNat kk)), .unset, .unset, .unset, .unset]) rfl ?_
    show Steps p.tables e below (T8.setTop (mkF m 122 #[.val (.int p1), .val (.int p2), .val (.int p3), .val (.int p4), .val (.ref b1), .val (.ref d), .val (.int (1 : Int32)), .val (.int (0 : Int32)), .val (.int (0 : Int32)), .val (.int (0 : Int32)), .val (.int (0 : Int32)), .val (.int (1 : Int32)), .val (.int (Int32.ofNat mm)), .val (.int (Int32.ofNat kk)), .unset, .unset, .unset, .unset] [])) tg
    refine XS.iload X8.here hx rfl (hb hby at_122) rfl ?_
    exact kt
  have hc124 : (0 : Int32) = (0 : Int32) := by decide
  refine own_seg (T' := T8) (g' := (mkF m 131 #[.val (.int p1), .val (.int p2), .val (.int p3), .val (.int p4), .val (.ref b1), .val (.ref d), .val (.int (1 : Int32)), .val (.int (0 : Int32)), .val (.int (0 : Int32)), .val (.int (0 : Int32)), .val (.int (0 : Int32)), .val (.int (1 : Int32)), .val (.int (Int32.ofNat mm)), .val (.int (Int32.ofNat kk)), .unset, .unset, .unset, .unset] [])) (fun tg kt => XS.ifYes X8.here hx rfl (pc0 := 124) (pc' := 131) rfl (hb hby at_124) rfl ((if0 _ _).trans (teq hc124).1) (by decide) (by decide) kt) ?_
  refine own_seg (T' := T8) (g' := (mkF m 137 #[.val (.int p1), .val (.int p2), .val (.int p3), .val (.int p4), .val (.ref b1), .val (.ref d), .val (.int (1 : Int32)), .val (.int (0 : Int32)), .val (.int (0 : Int32)), .val (.int (0 : Int32)), .val (.int (0 : Int32)), .val (.int (1 : Int32)), .val (.int (Int32.ofNat mm)), .val (.int (Int32.ofNat kk)), .val (.int (1 : Int32)), .unset, .unset, .unset] [(.int (Int32.ofNat kk)), (.int (0 : Int32))])) (fun tg kt => ?_) ?_
  · show Steps p.tables e below (T8.setTop (mkF m 131 #[.val (.int p1), .val (.int p2), .val (.int p3), .val (.int p4), .val (.ref b1), .val (.ref d), .val (.int (1 : Int32)), .val (.int (0 : Int32)), .val (.int (0 : Int32)), .val (.int (0 : Int32)), .val (.int (0 : Int32)), .val (.int (1 : Int32)), .val (.int (Int32.ofNat mm)), .val (.int (Int32.ofNat kk)), .unset, .unset, .unset, .unset] [])) tg
    refine XS.iconst X8.here hx rfl (hb hby at_131) ?_
    show Steps p.tables e below (T8.setTop (mkF m 132 #[.val (.int p1), .val (.int p2), .val (.int p3), .val (.int p4), .val (.ref b1), .val (.ref d), .val (.int (1 : Int32)), .val (.int (0 : Int32)), .val (.int (0 : Int32)), .val (.int (0 : Int32)), .val (.int (0 : Int32)), .val (.int (1 : Int32)), .val (.int (Int32.ofNat mm)), .val (.int (Int32.ofNat kk)), .unset, .unset, .unset, .unset] [(.int (1 : Int32))])) tg
    refine XS.istore X8.here hx rfl (hb hby at_132) rfl (l' := #[.val (.int p1), .val (.int p2), .val (.int p3), .val (.int p4), .val (.ref b1), .val (.ref d), .val (.int (1 : Int32)), .val (.int (0 : Int32)), .val (.int (0 : Int32)), .val (.int (0 : Int32)), .val (.int (0 : Int32)), .val (.int (1 : Int32)), .val (.int (Int32.ofNat mm)), .val (.int (Int32.ofNat kk)), .val (.int (1 : Int32)), .unset, .unset, .unset]) rfl ?_
    show Steps p.tables e below (T8.setTop (mkF m 134 #[.val (.int p1), .val (.int p2), .val (.int p3), .val (.int p4), .val (.ref b1), .val (.ref d), .val (.int (1 : Int32)), .val (.int (0 : Int32)), .val (.int (0 : Int32)), .val (.int (0 : Int32)), .val (.int (0 : Int32)), .val (.int (1 : Int32)), .val (.int (Int32.ofNat mm)), .val (.int (Int32.ofNat kk)), .val (.int (1 : Int32)), .unset, .unset, .unset] [])) tg
    refine XS.iconst X8.here hx rfl (hb hby at_134) ?_
    show Steps p.tables e below (T8.setTop (mkF m 135 #[.val (.int p1), .val (.int p2), .val (.int p3), .val (.int p4), .val (.ref b1), .val (.ref d), .val (.int (1 : Int32)), .val (.int (0 : Int32)), .val (.int (0 : Int32)), .val (.int (0 : Int32)), .val (.int (0 : Int32)), .val (.int (1 : Int32)), .val (.int (Int32.ofNat mm)), .val (.int (Int32.ofNat kk)), .val (.int (1 : Int32)), .unset, .unset, .unset] [(.int (0 : Int32))])) tg
    refine XS.iload X8.here hx rfl (hb hby at_135) rfl ?_
    exact kt
  by_cases hc137 : (0 : Int32) < (Int32.ofNat kk)
  · skip
    refine own_seg (T' := T8) (g' := (mkF m 140 #[.val (.int p1), .val (.int p2), .val (.int p3), .val (.int p4), .val (.ref b1), .val (.ref d), .val (.int (1 : Int32)), .val (.int (0 : Int32)), .val (.int (0 : Int32)), .val (.int (0 : Int32)), .val (.int (0 : Int32)), .val (.int (1 : Int32)), .val (.int (Int32.ofNat mm)), .val (.int (Int32.ofNat kk)), .val (.int (1 : Int32)), .unset, .unset, .unset] [])) (fun tg kt => XS.icmpNo X8.here hx rfl (hb hby at_137) rfl (tlt hc137).2.1 kt) ?_
    refine own_seg (T' := T8) (g' := (mkF m 149 #[.val (.int p1), .val (.int p2), .val (.int p3), .val (.int p4), .val (.ref b1), .val (.ref d), .val (.int (1 : Int32)), .val (.int (0 : Int32)), .val (.int (0 : Int32)), .val (.int (0 : Int32)), .val (.int (0 : Int32)), .val (.int (1 : Int32)), .val (.int (Int32.ofNat mm)), .val (.int (Int32.ofNat kk)), .val (.int (1 : Int32)), .val (.int (0 : Int32)), .unset, .unset] [(.int (0 : Int32))])) (fun tg kt => ?_) ?_
    · show Steps p.tables e below (T8.setTop (mkF m 140 #[.val (.int p1), .val (.int p2), .val (.int p3), .val (.int p4), .val (.ref b1), .val (.ref d), .val (.int (1 : Int32)), .val (.int (0 : Int32)), .val (.int (0 : Int32)), .val (.int (0 : Int32)), .val (.int (0 : Int32)), .val (.int (1 : Int32)), .val (.int (Int32.ofNat mm)), .val (.int (Int32.ofNat kk)), .val (.int (1 : Int32)), .unset, .unset, .unset] [])) tg
      refine XS.iconst X8.here hx rfl (hb hby at_140) ?_
      show Steps p.tables e below (T8.setTop (mkF m 141 #[.val (.int p1), .val (.int p2), .val (.int p3), .val (.int p4), .val (.ref b1), .val (.ref d), .val (.int (1 : Int32)), .val (.int (0 : Int32)), .val (.int (0 : Int32)), .val (.int (0 : Int32)), .val (.int (0 : Int32)), .val (.int (1 : Int32)), .val (.int (Int32.ofNat mm)), .val (.int (Int32.ofNat kk)), .val (.int (1 : Int32)), .unset, .unset, .unset] [(.int (0 : Int32))])) tg
      refine XS.goto X8.here hx rfl (pc0 := 141) (pc' := 145) rfl (hb hby at_141) (by decide) (by decide) ?_
      show Steps p.tables e below (T8.setTop (mkF m 145 #[.val (.int p1), .val (.int p2), .val (.int p3), .val (.int p4), .val (.ref b1), .val (.ref d), .val (.int (1 : Int32)), .val (.int (0 : Int32)), .val (.int (0 : Int32)), .val (.int (0 : Int32)), .val (.int (0 : Int32)), .val (.int (1 : Int32)), .val (.int (Int32.ofNat mm)), .val (.int (Int32.ofNat kk)), .val (.int (1 : Int32)), .unset, .unset, .unset] [(.int (0 : Int32))])) tg
      refine XS.istore X8.here hx rfl (hb hby at_145) rfl (l' := #[.val (.int p1), .val (.int p2), .val (.int p3), .val (.int p4), .val (.ref b1), .val (.ref d), .val (.int (1 : Int32)), .val (.int (0 : Int32)), .val (.int (0 : Int32)), .val (.int (0 : Int32)), .val (.int (0 : Int32)), .val (.int (1 : Int32)), .val (.int (Int32.ofNat mm)), .val (.int (Int32.ofNat kk)), .val (.int (1 : Int32)), .val (.int (0 : Int32)), .unset, .unset]) rfl ?_
      show Steps p.tables e below (T8.setTop (mkF m 147 #[.val (.int p1), .val (.int p2), .val (.int p3), .val (.int p4), .val (.ref b1), .val (.ref d), .val (.int (1 : Int32)), .val (.int (0 : Int32)), .val (.int (0 : Int32)), .val (.int (0 : Int32)), .val (.int (0 : Int32)), .val (.int (1 : Int32)), .val (.int (Int32.ofNat mm)), .val (.int (Int32.ofNat kk)), .val (.int (1 : Int32)), .val (.int (0 : Int32)), .unset, .unset] [])) tg
      refine XS.iload X8.here hx rfl (hb hby at_147) rfl ?_
      exact kt
    have hc149 : (0 : Int32) = (0 : Int32) := by decide
    refine own_seg (T' := T8) (g' := (mkF m 166 #[.val (.int p1), .val (.int p2), .val (.int p3), .val (.int p4), .val (.ref b1), .val (.ref d), .val (.int (1 : Int32)), .val (.int (0 : Int32)), .val (.int (0 : Int32)), .val (.int (0 : Int32)), .val (.int (0 : Int32)), .val (.int (1 : Int32)), .val (.int (Int32.ofNat mm)), .val (.int (Int32.ofNat kk)), .val (.int (1 : Int32)), .val (.int (0 : Int32)), .unset, .unset] [])) (fun tg kt => XS.ifYes X8.here hx rfl (pc0 := 149) (pc' := 166) rfl (hb hby at_149) rfl ((if0 _ _).trans (teq hc149).1) (by decide) (by decide) kt) ?_
    refine own_seg (T' := T8) (g' := (mkF m 172 #[.val (.int p1), .val (.int p2), .val (.int p3), .val (.int p4), .val (.ref b1), .val (.ref d), .val (.int (1 : Int32)), .val (.int (0 : Int32)), .val (.int (0 : Int32)), .val (.int (0 : Int32)), .val (.int (0 : Int32)), .val (.int (1 : Int32)), .val (.int (Int32.ofNat mm)), .val (.int (Int32.ofNat kk)), .val (.int (1 : Int32)), .val (.int (0 : Int32)), .val (.int (0 : Int32)), .unset] [(.int (0 : Int32))])) (fun tg kt => ?_) ?_
    · show Steps p.tables e below (T8.setTop (mkF m 166 #[.val (.int p1), .val (.int p2), .val (.int p3), .val (.int p4), .val (.ref b1), .val (.ref d), .val (.int (1 : Int32)), .val (.int (0 : Int32)), .val (.int (0 : Int32)), .val (.int (0 : Int32)), .val (.int (0 : Int32)), .val (.int (1 : Int32)), .val (.int (Int32.ofNat mm)), .val (.int (Int32.ofNat kk)), .val (.int (1 : Int32)), .val (.int (0 : Int32)), .unset, .unset] [])) tg
      refine XS.iload X8.here hx rfl (hb hby at_166) rfl ?_
      show Steps p.tables e below (T8.setTop (mkF m 168 #[.val (.int p1), .val (.int p2), .val (.int p3), .val (.int p4), .val (.ref b1), .val (.ref d), .val (.int (1 : Int32)), .val (.int (0 : Int32)), .val (.int (0 : Int32)), .val (.int (0 : Int32)), .val (.int (0 : Int32)), .val (.int (1 : Int32)), .val (.int (Int32.ofNat mm)), .val (.int (Int32.ofNat kk)), .val (.int (1 : Int32)), .val (.int (0 : Int32)), .unset, .unset] [(.int (0 : Int32))])) tg
      refine XS.istore X8.here hx rfl (hb hby at_168) rfl (l' := #[.val (.int p1), .val (.int p2), .val (.int p3), .val (.int p4), .val (.ref b1), .val (.ref d), .val (.int (1 : Int32)), .val (.int (0 : Int32)), .val (.int (0 : Int32)), .val (.int (0 : Int32)), .val (.int (0 : Int32)), .val (.int (1 : Int32)), .val (.int (Int32.ofNat mm)), .val (.int (Int32.ofNat kk)), .val (.int (1 : Int32)), .val (.int (0 : Int32)), .val (.int (0 : Int32)), .unset]) rfl ?_
      show Steps p.tables e below (T8.setTop (mkF m 170 #[.val (.int p1), .val (.int p2), .val (.int p3), .val (.int p4), .val (.ref b1), .val (.ref d), .val (.int (1 : Int32)), .val (.int (0 : Int32)), .val (.int (0 : Int32)), .val (.int (0 : Int32)), .val (.int (0 : Int32)), .val (.int (1 : Int32)), .val (.int (Int32.ofNat mm)), .val (.int (Int32.ofNat kk)), .val (.int (1 : Int32)), .val (.int (0 : Int32)), .val (.int (0 : Int32)), .unset] [])) tg
      refine XS.iload X8.here hx rfl (hb hby at_170) rfl ?_
      exact kt
    have hc172 : (0 : Int32) = (0 : Int32) := by decide
    refine own_seg (T' := T8) (g' := (mkF m 191 #[.val (.int p1), .val (.int p2), .val (.int p3), .val (.int p4), .val (.ref b1), .val (.ref d), .val (.int (1 : Int32)), .val (.int (0 : Int32)), .val (.int (0 : Int32)), .val (.int (0 : Int32)), .val (.int (0 : Int32)), .val (.int (1 : Int32)), .val (.int (Int32.ofNat mm)), .val (.int (Int32.ofNat kk)), .val (.int (1 : Int32)), .val (.int (0 : Int32)), .val (.int (0 : Int32)), .unset] [])) (fun tg kt => XS.ifYes X8.here hx rfl (pc0 := 172) (pc' := 191) rfl (hb hby at_172) rfl ((if0 _ _).trans (teq hc172).1) (by decide) (by decide) kt) ?_
    refine own_seg (T' := T8) (g' := (mkF m 193 #[.val (.int p1), .val (.int p2), .val (.int p3), .val (.int p4), .val (.ref b1), .val (.ref d), .val (.int (1 : Int32)), .val (.int (0 : Int32)), .val (.int (0 : Int32)), .val (.int (0 : Int32)), .val (.int (0 : Int32)), .val (.int (1 : Int32)), .val (.int (Int32.ofNat mm)), .val (.int (Int32.ofNat kk)), .val (.int (1 : Int32)), .val (.int (0 : Int32)), .val (.int (0 : Int32)), .unset] [(.int p1), (.int p3)])) (fun tg kt => ?_) ?_
    · show Steps p.tables e below (T8.setTop (mkF m 191 #[.val (.int p1), .val (.int p2), .val (.int p3), .val (.int p4), .val (.ref b1), .val (.ref d), .val (.int (1 : Int32)), .val (.int (0 : Int32)), .val (.int (0 : Int32)), .val (.int (0 : Int32)), .val (.int (0 : Int32)), .val (.int (1 : Int32)), .val (.int (Int32.ofNat mm)), .val (.int (Int32.ofNat kk)), .val (.int (1 : Int32)), .val (.int (0 : Int32)), .val (.int (0 : Int32)), .unset] [])) tg
      refine XS.iloadN X8.here hx rfl (hb hby at_191) rfl ?_
      show Steps p.tables e below (T8.setTop (mkF m 192 #[.val (.int p1), .val (.int p2), .val (.int p3), .val (.int p4), .val (.ref b1), .val (.ref d), .val (.int (1 : Int32)), .val (.int (0 : Int32)), .val (.int (0 : Int32)), .val (.int (0 : Int32)), .val (.int (0 : Int32)), .val (.int (1 : Int32)), .val (.int (Int32.ofNat mm)), .val (.int (Int32.ofNat kk)), .val (.int (1 : Int32)), .val (.int (0 : Int32)), .val (.int (0 : Int32)), .unset] [(.int p3)])) tg
      refine XS.iloadN X8.here hx rfl (hb hby at_192) rfl ?_
      exact kt
    have hc193 : p3 = p1 := hca
    refine own_seg (T' := T8) (g' := (mkF m 196 #[.val (.int p1), .val (.int p2), .val (.int p3), .val (.int p4), .val (.ref b1), .val (.ref d), .val (.int (1 : Int32)), .val (.int (0 : Int32)), .val (.int (0 : Int32)), .val (.int (0 : Int32)), .val (.int (0 : Int32)), .val (.int (1 : Int32)), .val (.int (Int32.ofNat mm)), .val (.int (Int32.ofNat kk)), .val (.int (1 : Int32)), .val (.int (0 : Int32)), .val (.int (0 : Int32)), .unset] [])) (fun tg kt => XS.icmpNo X8.here hx rfl (hb hby at_193) rfl (teq hc193).2 kt) ?_
    refine own_seg (T' := T8) (g' := (mkF m 205 #[.val (.int p1), .val (.int p2), .val (.int p3), .val (.int p4), .val (.ref b1), .val (.ref d), .val (.int (1 : Int32)), .val (.int (0 : Int32)), .val (.int (0 : Int32)), .val (.int (0 : Int32)), .val (.int (0 : Int32)), .val (.int (1 : Int32)), .val (.int (Int32.ofNat mm)), .val (.int (Int32.ofNat kk)), .val (.int (1 : Int32)), .val (.int (0 : Int32)), .val (.int (0 : Int32)), .val (.int (0 : Int32))] [])) (fun tg kt => ?_) ?_
    · show Steps p.tables e below (T8.setTop (mkF m 196 #[.val (.int p1), .val (.int p2), .val (.int p3), .val (.int p4), .val (.ref b1), .val (.ref d), .val (.int (1 : Int32)), .val (.int (0 : Int32)), .val (.int (0 : Int32)), .val (.int (0 : Int32)), .val (.int (0 : Int32)), .val (.int (1 : Int32)), .val (.int (Int32.ofNat mm)), .val (.int (Int32.ofNat kk)), .val (.int (1 : Int32)), .val (.int (0 : Int32)), .val (.int (0 : Int32)), .unset] [])) tg
      refine XS.iload X8.here hx rfl (hb hby at_196) rfl ?_
      show Steps p.tables e below (T8.setTop (mkF m 198 #[.val (.int p1), .val (.int p2), .val (.int p3), .val (.int p4), .val (.ref b1), .val (.ref d), .val (.int (1 : Int32)), .val (.int (0 : Int32)), .val (.int (0 : Int32)), .val (.int (0 : Int32)), .val (.int (0 : Int32)), .val (.int (1 : Int32)), .val (.int (Int32.ofNat mm)), .val (.int (Int32.ofNat kk)), .val (.int (1 : Int32)), .val (.int (0 : Int32)), .val (.int (0 : Int32)), .unset] [(.int (0 : Int32))])) tg
      refine XS.goto X8.here hx rfl (pc0 := 198) (pc' := 203) rfl (hb hby at_198) (by decide) (by decide) ?_
      show Steps p.tables e below (T8.setTop (mkF m 203 #[.val (.int p1), .val (.int p2), .val (.int p3), .val (.int p4), .val (.ref b1), .val (.ref d), .val (.int (1 : Int32)), .val (.int (0 : Int32)), .val (.int (0 : Int32)), .val (.int (0 : Int32)), .val (.int (0 : Int32)), .val (.int (1 : Int32)), .val (.int (Int32.ofNat mm)), .val (.int (Int32.ofNat kk)), .val (.int (1 : Int32)), .val (.int (0 : Int32)), .val (.int (0 : Int32)), .unset] [(.int (0 : Int32))])) tg
      refine XS.istore X8.here hx rfl (hb hby at_203) rfl (l' := #[.val (.int p1), .val (.int p2), .val (.int p3), .val (.int p4), .val (.ref b1), .val (.ref d), .val (.int (1 : Int32)), .val (.int (0 : Int32)), .val (.int (0 : Int32)), .val (.int (0 : Int32)), .val (.int (0 : Int32)), .val (.int (1 : Int32)), .val (.int (Int32.ofNat mm)), .val (.int (Int32.ofNat kk)), .val (.int (1 : Int32)), .val (.int (0 : Int32)), .val (.int (0 : Int32)), .val (.int (0 : Int32))]) rfl ?_
      exact kt
    have kk3 : kk ≤ 3 := hTk.1
    exact sg205 hw p1 p2 p3 p4 b1 t1 t2 t3 d kk uk _ (0 : Int32) (0 : Int32) (0 : Int32) (0 : Int32) (1 : Int32) (Int32.ofNat mm) (1 : Int32) (0 : Int32) (0 : Int32) (0 : Int32) K X8 e8 N8 Z7 P_a P_1 P_2 P_3 hTk rfl rfl (own_idx_hit hTk (i := 0) ((own_ltl (e := 0) (by omega) (by omega)).mp hc137) rfl) (own_idx_hit hTk (i := 0) ((own_ltl (e := 0) (by omega) (by omega)).mp hc137) hba.symm) (own_idx_hit hTk (i := 0) ((own_ltl (e := 0) (by omega) (by omega)).mp hc137) hca.symm)
  · skip
    refine own_seg (T' := T8) (g' := (mkF m 144 #[.val (.int p1), .val (.int p2), .val (.int p3), .val (.int p4), .val (.ref b1), .val (.ref d), .val (.int (1 : Int32)), .val (.int (0 : Int32)), .val (.int (0 : Int32)), .val (.int (0 : Int32)), .val (.int (0 : Int32)), .val (.int (1 : Int32)), .val (.int (Int32.ofNat mm)), .val (.int (Int32.ofNat kk)), .val (.int (1 : Int32)), .unset, .unset, .unset] [])) (fun tg kt => XS.icmpYes X8.here hx rfl (pc0 := 137) (pc' := 144) rfl (hb hby at_137) rfl (flt hc137).2.1 (by decide) (by decide) kt) ?_
    refine own_seg (T' := T8) (g' := (mkF m 149 #[.val (.int p1), .val (.int p2), .val (.int p3), .val (.int p4), .val (.ref b1), .val (.ref d), .val (.int (1 : Int32)), .val (.int (0 : Int32)), .val (.int (0 : Int32)), .val (.int (0 : Int32)), .val (.int (0 : Int32)), .val (.int (1 : Int32)), .val (.int (Int32.ofNat mm)), .val (.int (Int32.ofNat kk)), .val (.int (1 : Int32)), .val (.int (-1 : Int32)), .unset, .unset] [(.int (0 : Int32))])) (fun tg kt => ?_) ?_
    · show Steps p.tables e below (T8.setTop (mkF m 144 #[.val (.int p1), .val (.int p2), .val (.int p3), .val (.int p4), .val (.ref b1), .val (.ref d), .val (.int (1 : Int32)), .val (.int (0 : Int32)), .val (.int (0 : Int32)), .val (.int (0 : Int32)), .val (.int (0 : Int32)), .val (.int (1 : Int32)), .val (.int (Int32.ofNat mm)), .val (.int (Int32.ofNat kk)), .val (.int (1 : Int32)), .unset, .unset, .unset] [])) tg
      refine XS.iconst X8.here hx rfl (hb hby at_144) ?_
      show Steps p.tables e below (T8.setTop (mkF m 145 #[.val (.int p1), .val (.int p2), .val (.int p3), .val (.int p4), .val (.ref b1), .val (.ref d), .val (.int (1 : Int32)), .val (.int (0 : Int32)), .val (.int (0 : Int32)), .val (.int (0 : Int32)), .val (.int (0 : Int32)), .val (.int (1 : Int32)), .val (.int (Int32.ofNat mm)), .val (.int (Int32.ofNat kk)), .val (.int (1 : Int32)), .unset, .unset, .unset] [(.int (-1 : Int32))])) tg
      refine XS.istore X8.here hx rfl (hb hby at_145) rfl (l' := #[.val (.int p1), .val (.int p2), .val (.int p3), .val (.int p4), .val (.ref b1), .val (.ref d), .val (.int (1 : Int32)), .val (.int (0 : Int32)), .val (.int (0 : Int32)), .val (.int (0 : Int32)), .val (.int (0 : Int32)), .val (.int (1 : Int32)), .val (.int (Int32.ofNat mm)), .val (.int (Int32.ofNat kk)), .val (.int (1 : Int32)), .val (.int (-1 : Int32)), .unset, .unset]) rfl ?_
      show Steps p.tables e below (T8.setTop (mkF m 147 #[.val (.int p1), .val (.int p2), .val (.int p3), .val (.int p4), .val (.ref b1), .val (.ref d), .val (.int (1 : Int32)), .val (.int (0 : Int32)), .val (.int (0 : Int32)), .val (.int (0 : Int32)), .val (.int (0 : Int32)), .val (.int (1 : Int32)), .val (.int (Int32.ofNat mm)), .val (.int (Int32.ofNat kk)), .val (.int (1 : Int32)), .val (.int (-1 : Int32)), .unset, .unset] [])) tg
      refine XS.iload X8.here hx rfl (hb hby at_147) rfl ?_
      exact kt
    have hc149 : (0 : Int32) = (0 : Int32) := by decide
    refine own_seg (T' := T8) (g' := (mkF m 166 #[.val (.int p1), .val (.int p2), .val (.int p3), .val (.int p4), .val (.ref b1), .val (.ref d), .val (.int (1 : Int32)), .val (.int (0 : Int32)), .val (.int (0 : Int32)), .val (.int (0 : Int32)), .val (.int (0 : Int32)), .val (.int (1 : Int32)), .val (.int (Int32.ofNat mm)), .val (.int (Int32.ofNat kk)), .val (.int (1 : Int32)), .val (.int (-1 : Int32)), .unset, .unset] [])) (fun tg kt => XS.ifYes X8.here hx rfl (pc0 := 149) (pc' := 166) rfl (hb hby at_149) rfl ((if0 _ _).trans (teq hc149).1) (by decide) (by decide) kt) ?_
    refine own_seg (T' := T8) (g' := (mkF m 172 #[.val (.int p1), .val (.int p2), .val (.int p3), .val (.int p4), .val (.ref b1), .val (.ref d), .val (.int (1 : Int32)), .val (.int (0 : Int32)), .val (.int (0 : Int32)), .val (.int (0 : Int32)), .val (.int (0 : Int32)), .val (.int (1 : Int32)), .val (.int (Int32.ofNat mm)), .val (.int (Int32.ofNat kk)), .val (.int (1 : Int32)), .val (.int (-1 : Int32)), .val (.int (-1 : Int32)), .unset] [(.int (0 : Int32))])) (fun tg kt => ?_) ?_
    · show Steps p.tables e below (T8.setTop (mkF m 166 #[.val (.int p1), .val (.int p2), .val (.int p3), .val (.int p4), .val (.ref b1), .val (.ref d), .val (.int (1 : Int32)), .val (.int (0 : Int32)), .val (.int (0 : Int32)), .val (.int (0 : Int32)), .val (.int (0 : Int32)), .val (.int (1 : Int32)), .val (.int (Int32.ofNat mm)), .val (.int (Int32.ofNat kk)), .val (.int (1 : Int32)), .val (.int (-1 : Int32)), .unset, .unset] [])) tg
      refine XS.iload X8.here hx rfl (hb hby at_166) rfl ?_
      show Steps p.tables e below (T8.setTop (mkF m 168 #[.val (.int p1), .val (.int p2), .val (.int p3), .val (.int p4), .val (.ref b1), .val (.ref d), .val (.int (1 : Int32)), .val (.int (0 : Int32)), .val (.int (0 : Int32)), .val (.int (0 : Int32)), .val (.int (0 : Int32)), .val (.int (1 : Int32)), .val (.int (Int32.ofNat mm)), .val (.int (Int32.ofNat kk)), .val (.int (1 : Int32)), .val (.int (-1 : Int32)), .unset, .unset] [(.int (-1 : Int32))])) tg
      refine XS.istore X8.here hx rfl (hb hby at_168) rfl (l' := #[.val (.int p1), .val (.int p2), .val (.int p3), .val (.int p4), .val (.ref b1), .val (.ref d), .val (.int (1 : Int32)), .val (.int (0 : Int32)), .val (.int (0 : Int32)), .val (.int (0 : Int32)), .val (.int (0 : Int32)), .val (.int (1 : Int32)), .val (.int (Int32.ofNat mm)), .val (.int (Int32.ofNat kk)), .val (.int (1 : Int32)), .val (.int (-1 : Int32)), .val (.int (-1 : Int32)), .unset]) rfl ?_
      show Steps p.tables e below (T8.setTop (mkF m 170 #[.val (.int p1), .val (.int p2), .val (.int p3), .val (.int p4), .val (.ref b1), .val (.ref d), .val (.int (1 : Int32)), .val (.int (0 : Int32)), .val (.int (0 : Int32)), .val (.int (0 : Int32)), .val (.int (0 : Int32)), .val (.int (1 : Int32)), .val (.int (Int32.ofNat mm)), .val (.int (Int32.ofNat kk)), .val (.int (1 : Int32)), .val (.int (-1 : Int32)), .val (.int (-1 : Int32)), .unset] [])) tg
      refine XS.iload X8.here hx rfl (hb hby at_170) rfl ?_
      exact kt
    have hc172 : (0 : Int32) = (0 : Int32) := by decide
    refine own_seg (T' := T8) (g' := (mkF m 191 #[.val (.int p1), .val (.int p2), .val (.int p3), .val (.int p4), .val (.ref b1), .val (.ref d), .val (.int (1 : Int32)), .val (.int (0 : Int32)), .val (.int (0 : Int32)), .val (.int (0 : Int32)), .val (.int (0 : Int32)), .val (.int (1 : Int32)), .val (.int (Int32.ofNat mm)), .val (.int (Int32.ofNat kk)), .val (.int (1 : Int32)), .val (.int (-1 : Int32)), .val (.int (-1 : Int32)), .unset] [])) (fun tg kt => XS.ifYes X8.here hx rfl (pc0 := 172) (pc' := 191) rfl (hb hby at_172) rfl ((if0 _ _).trans (teq hc172).1) (by decide) (by decide) kt) ?_
    refine own_seg (T' := T8) (g' := (mkF m 193 #[.val (.int p1), .val (.int p2), .val (.int p3), .val (.int p4), .val (.ref b1), .val (.ref d), .val (.int (1 : Int32)), .val (.int (0 : Int32)), .val (.int (0 : Int32)), .val (.int (0 : Int32)), .val (.int (0 : Int32)), .val (.int (1 : Int32)), .val (.int (Int32.ofNat mm)), .val (.int (Int32.ofNat kk)), .val (.int (1 : Int32)), .val (.int (-1 : Int32)), .val (.int (-1 : Int32)), .unset] [(.int p1), (.int p3)])) (fun tg kt => ?_) ?_
    · show Steps p.tables e below (T8.setTop (mkF m 191 #[.val (.int p1), .val (.int p2), .val (.int p3), .val (.int p4), .val (.ref b1), .val (.ref d), .val (.int (1 : Int32)), .val (.int (0 : Int32)), .val (.int (0 : Int32)), .val (.int (0 : Int32)), .val (.int (0 : Int32)), .val (.int (1 : Int32)), .val (.int (Int32.ofNat mm)), .val (.int (Int32.ofNat kk)), .val (.int (1 : Int32)), .val (.int (-1 : Int32)), .val (.int (-1 : Int32)), .unset] [])) tg
      refine XS.iloadN X8.here hx rfl (hb hby at_191) rfl ?_
      show Steps p.tables e below (T8.setTop (mkF m 192 #[.val (.int p1), .val (.int p2), .val (.int p3), .val (.int p4), .val (.ref b1), .val (.ref d), .val (.int (1 : Int32)), .val (.int (0 : Int32)), .val (.int (0 : Int32)), .val (.int (0 : Int32)), .val (.int (0 : Int32)), .val (.int (1 : Int32)), .val (.int (Int32.ofNat mm)), .val (.int (Int32.ofNat kk)), .val (.int (1 : Int32)), .val (.int (-1 : Int32)), .val (.int (-1 : Int32)), .unset] [(.int p3)])) tg
      refine XS.iloadN X8.here hx rfl (hb hby at_192) rfl ?_
      exact kt
    have hc193 : p3 = p1 := hca
    refine own_seg (T' := T8) (g' := (mkF m 196 #[.val (.int p1), .val (.int p2), .val (.int p3), .val (.int p4), .val (.ref b1), .val (.ref d), .val (.int (1 : Int32)), .val (.int (0 : Int32)), .val (.int (0 : Int32)), .val (.int (0 : Int32)), .val (.int (0 : Int32)), .val (.int (1 : Int32)), .val (.int (Int32.ofNat mm)), .val (.int (Int32.ofNat kk)), .val (.int (1 : Int32)), .val (.int (-1 : Int32)), .val (.int (-1 : Int32)), .unset] [])) (fun tg kt => XS.icmpNo X8.here hx rfl (hb hby at_193) rfl (teq hc193).2 kt) ?_
    refine own_seg (T' := T8) (g' := (mkF m 205 #[.val (.int p1), .val (.int p2), .val (.int p3), .val (.int p4), .val (.ref b1), .val (.ref d), .val (.int (1 : Int32)), .val (.int (0 : Int32)), .val (.int (0 : Int32)), .val (.int (0 : Int32)), .val (.int (0 : Int32)), .val (.int (1 : Int32)), .val (.int (Int32.ofNat mm)), .val (.int (Int32.ofNat kk)), .val (.int (1 : Int32)), .val (.int (-1 : Int32)), .val (.int (-1 : Int32)), .val (.int (-1 : Int32))] [])) (fun tg kt => ?_) ?_
    · show Steps p.tables e below (T8.setTop (mkF m 196 #[.val (.int p1), .val (.int p2), .val (.int p3), .val (.int p4), .val (.ref b1), .val (.ref d), .val (.int (1 : Int32)), .val (.int (0 : Int32)), .val (.int (0 : Int32)), .val (.int (0 : Int32)), .val (.int (0 : Int32)), .val (.int (1 : Int32)), .val (.int (Int32.ofNat mm)), .val (.int (Int32.ofNat kk)), .val (.int (1 : Int32)), .val (.int (-1 : Int32)), .val (.int (-1 : Int32)), .unset] [])) tg
      refine XS.iload X8.here hx rfl (hb hby at_196) rfl ?_
      show Steps p.tables e below (T8.setTop (mkF m 198 #[.val (.int p1), .val (.int p2), .val (.int p3), .val (.int p4), .val (.ref b1), .val (.ref d), .val (.int (1 : Int32)), .val (.int (0 : Int32)), .val (.int (0 : Int32)), .val (.int (0 : Int32)), .val (.int (0 : Int32)), .val (.int (1 : Int32)), .val (.int (Int32.ofNat mm)), .val (.int (Int32.ofNat kk)), .val (.int (1 : Int32)), .val (.int (-1 : Int32)), .val (.int (-1 : Int32)), .unset] [(.int (-1 : Int32))])) tg
      refine XS.goto X8.here hx rfl (pc0 := 198) (pc' := 203) rfl (hb hby at_198) (by decide) (by decide) ?_
      show Steps p.tables e below (T8.setTop (mkF m 203 #[.val (.int p1), .val (.int p2), .val (.int p3), .val (.int p4), .val (.ref b1), .val (.ref d), .val (.int (1 : Int32)), .val (.int (0 : Int32)), .val (.int (0 : Int32)), .val (.int (0 : Int32)), .val (.int (0 : Int32)), .val (.int (1 : Int32)), .val (.int (Int32.ofNat mm)), .val (.int (Int32.ofNat kk)), .val (.int (1 : Int32)), .val (.int (-1 : Int32)), .val (.int (-1 : Int32)), .unset] [(.int (-1 : Int32))])) tg
      refine XS.istore X8.here hx rfl (hb hby at_203) rfl (l' := #[.val (.int p1), .val (.int p2), .val (.int p3), .val (.int p4), .val (.ref b1), .val (.ref d), .val (.int (1 : Int32)), .val (.int (0 : Int32)), .val (.int (0 : Int32)), .val (.int (0 : Int32)), .val (.int (0 : Int32)), .val (.int (1 : Int32)), .val (.int (Int32.ofNat mm)), .val (.int (Int32.ofNat kk)), .val (.int (1 : Int32)), .val (.int (-1 : Int32)), .val (.int (-1 : Int32)), .val (.int (-1 : Int32))]) rfl ?_
      exact kt
    have kk3 : kk ≤ 3 := hTk.1
    exact sg205 hw p1 p2 p3 p4 b1 t1 t2 t3 d kk uk _ (0 : Int32) (0 : Int32) (0 : Int32) (0 : Int32) (1 : Int32) (Int32.ofNat mm) (1 : Int32) (-1 : Int32) (-1 : Int32) (-1 : Int32) K X8 e8 N8 Z7 P_a P_1 P_2 P_3 hTk rfl rfl (own_idx_miss (fun i hi e => by have z : ¬ 0 < kk := fun z => hc137 ((own_ltl (e := 0) (by omega) (by omega)).mpr z); rcases (by omega : i = 0 ∨ i = 1) with rfl | rfl <;> first | omega | exact hba e.symm | exact hca e.symm | exact hcb e.symm)) (own_idx_miss (fun i hi e => by have z : ¬ 0 < kk := fun z => hc137 ((own_ltl (e := 0) (by omega) (by omega)).mpr z); rcases (by omega : i = 0 ∨ i = 1) with rfl | rfl <;> first | omega | exact hba e.symm | exact hca e.symm | exact hcb e.symm)) (own_idx_miss (fun i hi e => by have z : ¬ 0 < kk := fun z => hc137 ((own_ltl (e := 0) (by omega) (by omega)).mpr z); rcases (by omega : i = 0 ∨ i = 1) with rfl | rfl <;> first | omega | exact hba e.symm | exact hca e.symm | exact hcb e.symm))
set_option maxRecDepth 65536 in
set_option maxHeartbeats 40000000 in
theorem rm0B (l : Launch) (Z : State) (a0 : Array Value) (hw : ∀ d ∈ tables_1, d.before a0 Z = true) (p1 p2 p3 p4 : Int32) (d : Addr) (h0 : Heap) (n0 : Nat) (Z0 : n0 ≤ h0.size) (hba : p2 = p1) (hca : ¬ p3 = p1) (hOld : Old Z n0 h0) (SE : Sta Z Z.heap "com/example/rhizome/rhizome/tableau/DependencySet" "EMPTY" "Lcom/example/rhizome/rhizome/tableau/DependencySet;" (.ref d)) (XE : Exa Z Z.heap d "com/example/rhizome/rhizome/tableau/DependencySet") :
    own_Met l Z x code maxLocals ret room_1 #[(.int p1), (.int p2), (.int p3), (.int p4)] h0 (own_Q1 n0) := by
  refine own_enter (plainFor_of_name own_pn0) (fun m => by first | (simp [entryFrame, mkF, argsToLocals, Value.category, maxLocals]; done) | rfl) (Ls := #[.val (.int p1), .val (.int p2), .val (.int p3), .val (.int p4), .unset, .unset, .unset, .unset, .unset, .unset, .unset, .unset, .unset, .unset, .unset, .unset, .unset, .unset]) ?_
  intro p e s m below meth c T0 K X0 e0
  have hx := K.1
  have hZ := K.2.1
  have hby := K.2.2.1
  have hown := K.2.2.2.2.1
  have N0 := Fr.nil n0
  show own_Fin p e below _ T0 (mkF m 0 #[.val (.int p1), .val (.int p2), .val (.int p3), .val (.int p4), .unset, .unset, .unset, .unset, .unset, .unset, .unset, .unset, .unset, .unset, .unset, .unset, .unset, .unset] [])
  refine own_newO K X0 e0 (hw _ (List.mem_of_getElem? (i := 0) rfl)) (hw _ (List.mem_of_getElem? (i := 1) rfl)) (hw _ (List.mem_of_getElem? (i := 2) rfl)) at_0 (by decide) (by decide) ?_
  intro T1 h1 b1 g1 X1 e1 E1 A1 D1
  have Od1 := Old.ext hOld E1
  have f_b1 : n0 ≤ b1 := Nat.le_trans Z0 (Nat.le_of_eq g1.symm)
  have Z1 : n0 ≤ h1.size := Nat.le_trans Z0 E1.1
  have O_b1_1 : own_Obj Z h1 b1 "com/example/rhizome/rhizome/tableau/Label" [("com/example/rhizome/rhizome/tableau/Label", "concepts", "[I", .null), ("com/example/rhizome/rhizome/tableau/Label", "dependencies", "[Lcom/example/rhizome/rhizome/tableau/DependencySet;", .null), ("com/example/rhizome/rhizome/tableau/Label", "slots", "[I", .null), ("com/example/rhizome/rhizome/tableau/Label", "size", "I", (.int (0 : Int32)))] := ⟨A1, by
    intro q hq
    simp only [List.mem_cons, List.not_mem_nil, or_false] at hq
    rcases hq with rfl | rfl | rfl | rfl
    · exact D1 (Or.inl (hw _ (List.mem_of_getElem? (i := 11) rfl))) (ty := (.array .int)) (by decide)
    · exact D1 (Or.inl (hw _ (List.mem_of_getElem? (i := 15) rfl))) (ty := (.array (.object "com/example/rhizome/rhizome/tableau/DependencySet"))) (by decide)
    · exact D1 (Or.inl (hw _ (List.mem_of_getElem? (i := 17) rfl))) (ty := (.array .int)) (by decide)
    · exact D1 (Or.inl (hw _ (List.mem_of_getElem? (i := 41) rfl))) (ty := .int) (by decide)⟩
  show own_Fin p e below _ T1 (mkF m 3 #[.val (.int p1), .val (.int p2), .val (.int p3), .val (.int p4), .unset, .unset, .unset, .unset, .unset, .unset, .unset, .unset, .unset, .unset, .unset, .unset, .unset, .unset] [(.ref b1)])
  refine own_seg (T' := T1) (g' := (mkF m 4 #[.val (.int p1), .val (.int p2), .val (.int p3), .val (.int p4), .unset, .unset, .unset, .unset, .unset, .unset, .unset, .unset, .unset, .unset, .unset, .unset, .unset, .unset] [(.ref b1), (.ref b1)])) (fun tg kt => ?_) ?_
  · show Steps p.tables e below (T1.setTop (mkF m 3 #[.val (.int p1), .val (.int p2), .val (.int p3), .val (.int p4), .unset, .unset, .unset, .unset, .unset, .unset, .unset, .unset, .unset, .unset, .unset, .unset, .unset, .unset] [(.ref b1)])) tg
    refine XS.dup X1.here hx rfl (hb hby at_3) rfl rfl ?_
    exact kt
  refine own_callI K X1 e1 (rmI l Z a0 hw b1 h1 n0 Z1 f_b1 O_b1_1) rfl (hw _ (List.mem_of_getElem? (i := 3) rfl)) (hw _ (List.mem_of_getElem? (i := 4) rfl)) (hw _ (List.mem_of_getElem? (i := 2) rfl)) (hw _ (List.mem_of_getElem? (i := 5) rfl)) (by decide) b1 [] [(.ref b1)] own_pd4 rfl rfl rfl rfl at_4 (by decide) (Nat.le_of_ble_eq_true rfl) (by decide) (by decide) ?_
  intro T2 L2 v2 X2 hQ2
  obtain ⟨h2, e2⟩ : ∃ z, T2.heap = z := ⟨_, rfl⟩
  rw [e2] at hQ2
  obtain ⟨t1, t2, t3, rfl, Nq2, Kq2, hD, f_t1, f_t2, f_t3, Oq_a, Oq_1, Oq_2, Oq_3⟩ := hQ2
  have N2 := Fr.app N0 Nq2
  have Od2 := Old.keep Od1 Kq2 (allS f_b1 all0)
  have Z2 : n0 ≤ h2.size := Nat.le_trans Z1 Kq2.1
  show own_Fin p e below _ T2 (mkF m 7 #[.val (.int p1), .val (.int p2), .val (.int p3), .val (.int p4), .unset, .unset, .unset, .unset, .unset, .unset, .unset, .unset, .unset, .unset, .unset, .unset, .unset, .unset] [(.ref b1)])
  refine own_seg (T' := T2) (g' := (mkF m 9 #[.val (.int p1), .val (.int p2), .val (.int p3), .val (.int p4), .val (.ref b1), .unset, .unset, .unset, .unset, .unset, .unset, .unset, .unset, .unset, .unset, .unset, .unset, .unset] [])) (fun tg kt => ?_) ?_
  · show Steps p.tables e below (T2.setTop (mkF m 7 #[.val (.int p1), .val (.int p2), .val (.int p3), .val (.int p4), .unset, .unset, .unset, .unset, .unset, .unset, .unset, .unset, .unset, .unset, .unset, .unset, .unset, .unset] [(.ref b1)])) tg
    refine XS.astore X2.here hx rfl (hb hby at_7) rfl rfl (l' := #[.val (.int p1), .val (.int p2), .val (.int p3), .val (.int p4), .val (.ref b1), .unset, .unset, .unset, .unset, .unset, .unset, .unset, .unset, .unset, .unset, .unset, .unset, .unset]) rfl ?_
    exact kt
  refine own_getS K X2 e2 (host := "") (Or.inl (hw _ (List.mem_of_getElem? (i := 18) rfl))) Via.refl (SE.ext Od2.2) at_9 ?_
  intro T3 X3 e3
  show own_Fin p e below _ T3 (mkF m 12 #[.val (.int p1), .val (.int p2), .val (.int p3), .val (.int p4), .val (.ref b1), .unset, .unset, .unset, .unset, .unset, .unset, .unset, .unset, .unset, .unset, .unset, .unset, .unset] [(.ref d)])
  refine own_seg (T' := T3) (g' := (mkF m 19 #[.val (.int p1), .val (.int p2), .val (.int p3), .val (.int p4), .val (.ref b1), .val (.ref d), .unset, .unset, .unset, .unset, .unset, .unset, .unset, .unset, .unset, .unset, .unset, .unset] [(.ref d), (.int p1), (.ref b1)])) (fun tg kt => ?_) ?_
  · show Steps p.tables e below (T3.setTop (mkF m 12 #[.val (.int p1), .val (.int p2), .val (.int p3), .val (.int p4), .val (.ref b1), .unset, .unset, .unset, .unset, .unset, .unset, .unset, .unset, .unset, .unset, .unset, .unset, .unset] [(.ref d)])) tg
    refine XS.astore X3.here hx rfl (hb hby at_12) rfl rfl (l' := #[.val (.int p1), .val (.int p2), .val (.int p3), .val (.int p4), .val (.ref b1), .val (.ref d), .unset, .unset, .unset, .unset, .unset, .unset, .unset, .unset, .unset, .unset, .unset, .unset]) rfl ?_
    show Steps p.tables e below (T3.setTop (mkF m 14 #[.val (.int p1), .val (.int p2), .val (.int p3), .val (.int p4), .val (.ref b1), .val (.ref d), .unset, .unset, .unset, .unset, .unset, .unset, .unset, .unset, .unset, .unset, .unset, .unset] [])) tg
    refine XS.aload X3.here hx rfl (hb hby at_14) rfl rfl ?_
    show Steps p.tables e below (T3.setTop (mkF m 16 #[.val (.int p1), .val (.int p2), .val (.int p3), .val (.int p4), .val (.ref b1), .val (.ref d), .unset, .unset, .unset, .unset, .unset, .unset, .unset, .unset, .unset, .unset, .unset, .unset] [(.ref b1)])) tg
    refine XS.iloadN X3.here hx rfl (hb hby at_16) rfl ?_
    show Steps p.tables e below (T3.setTop (mkF m 17 #[.val (.int p1), .val (.int p2), .val (.int p3), .val (.int p4), .val (.ref b1), .val (.ref d), .unset, .unset, .unset, .unset, .unset, .unset, .unset, .unset, .unset, .unset, .unset, .unset] [(.int p1), (.ref b1)])) tg
    refine XS.aload X3.here hx rfl (hb hby at_17) rfl rfl ?_
    exact kt
  have hr0 : own_idx (fun _ => (0 : Int32)) 0 p1 = -1 := own_idx_miss (fun i hi e => absurd hi (Nat.not_lt_zero _))
  refine own_callV K X3 e3 (rmA1 l Z a0 hw b1 t1 t2 t3 p1 d 0 (fun _ => (0 : Nat)) (fun _ => (0 : Int32)) h2 n0 Z2 Oq_a Oq_1 Oq_2 Oq_3 (XE.ext Od2.2) (own_Tab0 _) hr0 (by decide) hD f_b1 f_t1 f_t2 f_t3) (hw _ (List.mem_of_getElem? (i := 21) rfl)) (hw _ (List.mem_of_getElem? (i := 22) rfl)) (fun _ q => notFace_of_selects q) (hw _ (List.mem_of_getElem? (i := 24) rfl)) (hw _ (List.mem_of_getElem? (i := 23) rfl)) (hw _ (List.mem_of_getElem? (i := 2) rfl)) (hw _ (List.mem_of_getElem? (i := 25) rfl)) (by decide) b1 Oq_a.exa [(.int p1), (.ref d)] [] own_pd5 rfl rfl rfl rfl at_19 (by decide) (Nat.le_of_ble_eq_true rfl) (by decide) (by decide) ?_
  intro T4 L4 v4 X4 hQ4
  obtain ⟨h4, e4⟩ : ∃ z, T4.heap = z := ⟨_, rfl⟩
  rw [e4] at hQ4
  obtain ⟨rfl, Nq4, Kq4, Oq4_b1, Oq4_t1, Oq4_t2, Oq4_t3⟩ := hQ4
  have N4 := Fr.app N2 Nq4
  have Od4 := Old.keep Od2 Kq4 (allS f_b1 (allS f_t1 (allS f_t2 (allS f_t3 all0))))
  have Z4 : n0 ≤ h4.size := Nat.le_trans Z2 Kq4.1
  have hT1 := own_Tab_add (own_Tab0 _) (by decide) (own_idx_none (by decide) hr0)
  generalize own_un (fun _ => (0 : Nat)) (own_sk (fun _ => (0 : Nat)) 0 4 (own_H p1)) (0 + 1) = u1 at hT1 Oq4_t3
  show own_Fin p e below _ T4 (mkF m 22 #[.val (.int p1), .val (.int p2), .val (.int p3), .val (.int p4), .val (.ref b1), .val (.ref d), .unset, .unset, .unset, .unset, .unset, .unset, .unset, .unset, .unset, .unset, .unset, .unset] [(.int (1 : Int32))])
  refine own_seg (T' := T4) (g' := (mkF m 29 #[.val (.int p1), .val (.int p2), .val (.int p3), .val (.int p4), .val (.ref b1), .val (.ref d), .val (.int (1 : Int32)), .unset, .unset, .unset, .unset, .unset, .unset, .unset, .unset, .unset, .unset, .unset] [(.ref d), (.int p2), (.ref b1)])) (fun tg kt => ?_) ?_
  · show Steps p.tables e below (T4.setTop (mkF m 22 #[.val (.int p1), .val (.int p2), .val (.int p3), .val (.int p4), .val (.ref b1), .val (.ref d), .unset, .unset, .unset, .unset, .unset, .unset, .unset, .unset, .unset, .unset, .unset, .unset] [(.int (1 : Int32))])) tg
    refine XS.istore X4.here hx rfl (hb hby at_22) rfl (l' := #[.val (.int p1), .val (.int p2), .val (.int p3), .val (.int p4), .val (.ref b1), .val (.ref d), .val (.int (1 : Int32)), .unset, .unset, .unset, .unset, .unset, .unset, .unset, .unset, .unset, .unset, .unset]) rfl ?_
    show Steps p.tables e below (T4.setTop (mkF m 24 #[.val (.int p1), .val (.int p2), .val (.int p3), .val (.int p4), .val (.ref b1), .val (.ref d), .val (.int (1 : Int32)), .unset, .unset, .unset, .unset, .unset, .unset, .unset, .unset, .unset, .unset, .unset] [])) tg
    refine XS.aload X4.here hx rfl (hb hby at_24) rfl rfl ?_
    show Steps p.tables e below (T4.setTop (mkF m 26 #[.val (.int p1), .val (.int p2), .val (.int p3), .val (.int p4), .val (.ref b1), .val (.ref d), .val (.int (1 : Int32)), .unset, .unset, .unset, .unset, .unset, .unset, .unset, .unset, .unset, .unset, .unset] [(.ref b1)])) tg
    refine XS.iloadN X4.here hx rfl (hb hby at_26) rfl ?_
    show Steps p.tables e below (T4.setTop (mkF m 27 #[.val (.int p1), .val (.int p2), .val (.int p3), .val (.int p4), .val (.ref b1), .val (.ref d), .val (.int (1 : Int32)), .unset, .unset, .unset, .unset, .unset, .unset, .unset, .unset, .unset, .unset, .unset] [(.int p2), (.ref b1)])) tg
    refine XS.aload X4.here hx rfl (hb hby at_27) rfl rfl ?_
    exact kt
  refine own_callV K X4 e4 (rmA0 l Z a0 hw b1 t1 t2 t3 p2 d 1 u1 (own_up (fun _ => (0 : Int32)) 0 p1) 0 h4 n0 Z4 Oq4_b1 Oq4_t1 Oq4_t2 Oq4_t3 hT1 (by simp [own_idx, own_up, hba]) (by decide)) (hw _ (List.mem_of_getElem? (i := 21) rfl)) (hw _ (List.mem_of_getElem? (i := 22) rfl)) (fun _ q => notFace_of_selects q) (hw _ (List.mem_of_getElem? (i := 24) rfl)) (hw _ (List.mem_of_getElem? (i := 23) rfl)) (hw _ (List.mem_of_getElem? (i := 2) rfl)) (hw _ (List.mem_of_getElem? (i := 25) rfl)) (by decide) b1 Oq4_b1.exa [(.int p2), (.ref d)] [] own_pd5 rfl rfl rfl rfl at_29 (by decide) (Nat.le_of_ble_eq_true rfl) (by decide) (by decide) ?_
  intro T5 L5 v5 X5 hQ5
  obtain ⟨rfl, Nq5, e5⟩ := hQ5
  have N5 := Fr.app N4 Nq5
  show own_Fin p e below _ T5 (mkF m 32 #[.val (.int p1), .val (.int p2), .val (.int p3), .val (.int p4), .val (.ref b1), .val (.ref d), .val (.int (1 : Int32)), .unset, .unset, .unset, .unset, .unset, .unset, .unset, .unset, .unset, .unset, .unset] [(.int (0 : Int32))])
  refine own_seg (T' := T5) (g' := (mkF m 39 #[.val (.int p1), .val (.int p2), .val (.int p3), .val (.int p4), .val (.ref b1), .val (.ref d), .val (.int (1 : Int32)), .val (.int (0 : Int32)), .unset, .unset, .unset, .unset, .unset, .unset, .unset, .unset, .unset, .unset] [(.ref d), (.int p3), (.ref b1)])) (fun tg kt => ?_) ?_
  · show Steps p.tables e below (T5.setTop (mkF m 32 #[.val (.int p1), .val (.int p2), .val (.int p3), .val (.int p4), .val (.ref b1), .val (.ref d), .val (.int (1 : Int32)), .unset, .unset, .unset, .unset, .unset, .unset, .unset, .unset, .unset, .unset, .unset] [(.int (0 : Int32))])) tg
    refine XS.istore X5.here hx rfl (hb hby at_32) rfl (l' := #[.val (.int p1), .val (.int p2), .val (.int p3), .val (.int p4), .val (.ref b1), .val (.ref d), .val (.int (1 : Int32)), .val (.int (0 : Int32)), .unset, .unset, .unset, .unset, .unset, .unset, .unset, .unset, .unset, .unset]) rfl ?_
    show Steps p.tables e below (T5.setTop (mkF m 34 #[.val (.int p1), .val (.int p2), .val (.int p3), .val (.int p4), .val (.ref b1), .val (.ref d), .val (.int (1 : Int32)), .val (.int (0 : Int32)), .unset, .unset, .unset, .unset, .unset, .unset, .unset, .unset, .unset, .unset] [])) tg
    refine XS.aload X5.here hx rfl (hb hby at_34) rfl rfl ?_
    show Steps p.tables e below (T5.setTop (mkF m 36 #[.val (.int p1), .val (.int p2), .val (.int p3), .val (.int p4), .val (.ref b1), .val (.ref d), .val (.int (1 : Int32)), .val (.int (0 : Int32)), .unset, .unset, .unset, .unset, .unset, .unset, .unset, .unset, .unset, .unset] [(.ref b1)])) tg
    refine XS.iloadN X5.here hx rfl (hb hby at_36) rfl ?_
    show Steps p.tables e below (T5.setTop (mkF m 37 #[.val (.int p1), .val (.int p2), .val (.int p3), .val (.int p4), .val (.ref b1), .val (.ref d), .val (.int (1 : Int32)), .val (.int (0 : Int32)), .unset, .unset, .unset, .unset, .unset, .unset, .unset, .unset, .unset, .unset] [(.int p3), (.ref b1)])) tg
    refine XS.aload X5.here hx rfl (hb hby at_37) rfl rfl ?_
    exact kt
  have hr1 : own_idx (own_up (fun _ => (0 : Int32)) 0 p1) 1 p3 = -1 := own_idx_miss (fun i hi ee => by obtain rfl : i = 0 := (by omega); exact hca ee.symm)
  refine own_callV K X5 e5 (rmA1 l Z a0 hw b1 t1 t2 t3 p3 d 1 u1 (own_up (fun _ => (0 : Int32)) 0 p1) h4 n0 Z4 Oq4_b1 Oq4_t1 Oq4_t2 Oq4_t3 (XE.ext Od4.2) hT1 hr1 (by decide) hD f_b1 f_t1 f_t2 f_t3) (hw _ (List.mem_of_getElem? (i := 21) rfl)) (hw _ (List.mem_of_getElem? (i := 22) rfl)) (fun _ q => notFace_of_selects q) (hw _ (List.mem_of_getElem? (i := 24) rfl)) (hw _ (List.mem_of_getElem? (i := 23) rfl)) (hw _ (List.mem_of_getElem? (i := 2) rfl)) (hw _ (List.mem_of_getElem? (i := 25) rfl)) (by decide) b1 Oq4_b1.exa [(.int p3), (.ref d)] [] own_pd5 rfl rfl rfl rfl at_39 (by decide) (Nat.le_of_ble_eq_true rfl) (by decide) (by decide) ?_
  intro T6 L6 v6 X6 hQ6
  obtain ⟨h6, e6⟩ : ∃ z, T6.heap = z := ⟨_, rfl⟩
  rw [e6] at hQ6
  obtain ⟨rfl, Nq6, Kq6, Oq6_b1, Oq6_t1, Oq6_t2, Oq6_t3⟩ := hQ6
  have N6 := Fr.app N5 Nq6
  have Od6 := Old.keep Od4 Kq6 (allS f_b1 (allS f_t1 (allS f_t2 (allS f_t3 all0))))
  have Z6 : n0 ≤ h6.size := Nat.le_trans Z4 Kq6.1
  have hT2 := own_Tab_add hT1 (by decide) (own_idx_none (by decide) hr1)
  generalize own_un u1 (own_sk u1 0 4 (own_H p3)) (1 + 1) = u2 at hT2 Oq6_t3
  show own_Fin p e below _ T6 (mkF m 42 #[.val (.int p1), .val (.int p2), .val (.int p3), .val (.int p4), .val (.ref b1), .val (.ref d), .val (.int (1 : Int32)), .val (.int (0 : Int32)), .unset, .unset, .unset, .unset, .unset, .unset, .unset, .unset, .unset, .unset] [(.int (1 : Int32))])
  refine own_seg (T' := T6) (g' := (mkF m 46 #[.val (.int p1), .val (.int p2), .val (.int p3), .val (.int p4), .val (.ref b1), .val (.ref d), .val (.int (1 : Int32)), .val (.int (0 : Int32)), .val (.int (1 : Int32)), .unset, .unset, .unset, .unset, .unset, .unset, .unset, .unset, .unset] [(.int p1), (.int p2)])) (fun tg kt => ?_) ?_
  · show Steps p.tables e below (T6.setTop (mkF m 42 #[.val (.int p1), .val (.int p2), .val (.int p3), .val (.int p4), .val (.ref b1), .val (.ref d), .val (.int (1 : Int32)), .val (.int (0 : Int32)), .unset, .unset, .unset, .unset, .unset, .unset, .unset, .unset, .unset, .unset] [(.int (1 : Int32))])) tg
    refine XS.istore X6.here hx rfl (hb hby at_42) rfl (l' := #[.val (.int p1), .val (.int p2), .val (.int p3), .val (.int p4), .val (.ref b1), .val (.ref d), .val (.int (1 : Int32)), .val (.int (0 : Int32)), .val (.int (1 : Int32)), .unset, .unset, .unset, .unset, .unset, .unset, .unset, .unset, .unset]) rfl ?_
    show Steps p.tables e below (T6.setTop (mkF m 44 #[.val (.int p1), .val (.int p2), .val (.int p3), .val (.int p4), .val (.ref b1), .val (.ref d), .val (.int (1 : Int32)), .val (.int (0 : Int32)), .val (.int (1 : Int32)), .unset, .unset, .unset, .unset, .unset, .unset, .unset, .unset, .unset] [])) tg
    refine XS.iloadN X6.here hx rfl (hb hby at_44) rfl ?_
    show Steps p.tables e below (T6.setTop (mkF m 45 #[.val (.int p1), .val (.int p2), .val (.int p3), .val (.int p4), .val (.ref b1), .val (.ref d), .val (.int (1 : Int32)), .val (.int (0 : Int32)), .val (.int (1 : Int32)), .unset, .unset, .unset, .unset, .unset, .unset, .unset, .unset, .unset] [(.int p2)])) tg
    refine XS.iloadN X6.here hx rfl (hb hby at_45) rfl ?_
    exact kt
  have hc46 : p2 = p1 := hba
  refine own_seg (T' := T6) (g' := (mkF m 53 #[.val (.int p1), .val (.int p2), .val (.int p3), .val (.int p4), .val (.ref b1), .val (.ref d), .val (.int (1 : Int32)), .val (.int (0 : Int32)), .val (.int (1 : Int32)), .unset, .unset, .unset, .unset, .unset, .unset, .unset, .unset, .unset] [])) (fun tg kt => XS.icmpYes X6.here hx rfl (pc0 := 46) (pc' := 53) rfl (hb hby at_46) rfl (teq hc46).1 (by decide) (by decide) kt) ?_
  refine own_seg (T' := T6) (g' := (mkF m 58 #[.val (.int p1), .val (.int p2), .val (.int p3), .val (.int p4), .val (.ref b1), .val (.ref d), .val (.int (1 : Int32)), .val (.int (0 : Int32)), .val (.int (1 : Int32)), .val (.int (0 : Int32)), .unset, .unset, .unset, .unset, .unset, .unset, .unset, .unset] [(.int p1), (.int p3)])) (fun tg kt => ?_) ?_
  · show Steps p.tables e below (T6.setTop (mkF m 53 #[.val (.int p1), .val (.int p2), .val (.int p3), .val (.int p4), .val (.ref b1), .val (.ref d), .val (.int (1 : Int32)), .val (.int (0 : Int32)), .val (.int (1 : Int32)), .unset, .unset, .unset, .unset, .unset, .unset, .unset, .unset, .unset] [])) tg
    refine XS.iconst X6.here hx rfl (hb hby at_53) ?_
    show Steps p.tables e below (T6.setTop (mkF m 54 #[.val (.int p1), .val (.int p2), .val (.int p3), .val (.int p4), .val (.ref b1), .val (.ref d), .val (.int (1 : Int32)), .val (.int (0 : Int32)), .val (.int (1 : Int32)), .unset, .unset, .unset, .unset, .unset, .unset, .unset, .unset, .unset] [(.int (0 : Int32))])) tg
    refine XS.istore X6.here hx rfl (hb hby at_54) rfl (l' := #[.val (.int p1), .val (.int p2), .val (.int p3), .val (.int p4), .val (.ref b1), .val (.ref d), .val (.int (1 : Int32)), .val (.int (0 : Int32)), .val (.int (1 : Int32)), .val (.int (0 : Int32)), .unset, .unset, .unset, .unset, .unset, .unset, .unset, .unset]) rfl ?_
    show Steps p.tables e below (T6.setTop (mkF m 56 #[.val (.int p1), .val (.int p2), .val (.int p3), .val (.int p4), .val (.ref b1), .val (.ref d), .val (.int (1 : Int32)), .val (.int (0 : Int32)), .val (.int (1 : Int32)), .val (.int (0 : Int32)), .unset, .unset, .unset, .unset, .unset, .unset, .unset, .unset] [])) tg
    refine XS.iloadN X6.here hx rfl (hb hby at_56) rfl ?_
    show Steps p.tables e below (T6.setTop (mkF m 57 #[.val (.int p1), .val (.int p2), .val (.int p3), .val (.int p4), .val (.ref b1), .val (.ref d), .val (.int (1 : Int32)), .val (.int (0 : Int32)), .val (.int (1 : Int32)), .val (.int (0 : Int32)), .unset, .unset, .unset, .unset, .unset, .unset, .unset, .unset] [(.int p3)])) tg
    refine XS.iloadN X6.here hx rfl (hb hby at_57) rfl ?_
    exact kt
  have hc58 : ¬ (p3 = p1) := hca
  refine own_seg (T' := T6) (g' := (mkF m 61 #[.val (.int p1), .val (.int p2), .val (.int p3), .val (.int p4), .val (.ref b1), .val (.ref d), .val (.int (1 : Int32)), .val (.int (0 : Int32)), .val (.int (1 : Int32)), .val (.int (0 : Int32)), .unset, .unset, .unset, .unset, .unset, .unset, .unset, .unset] [])) (fun tg kt => XS.icmpNo X6.here hx rfl (hb hby at_58) rfl (feq hc58).1 kt) ?_
  refine own_seg (T' := T6) (g' := (mkF m 63 #[.val (.int p1), .val (.int p2), .val (.int p3), .val (.int p4), .val (.ref b1), .val (.ref d), .val (.int (1 : Int32)), .val (.int (0 : Int32)), .val (.int (1 : Int32)), .val (.int (0 : Int32)), .unset, .unset, .unset, .unset, .unset, .unset, .unset, .unset] [(.int p2), (.int p3)])) (fun tg kt => ?_) ?_
  · show Steps p.tables e below (T6.setTop (mkF m 61 #[.val (.int p1), .val (.int p2), .val (.int p3), .val (.int p4), .val (.ref b1), .val (.ref d), .val (.int (1 : Int32)), .val (.int (0 : Int32)), .val (.int (1 : Int32)), .val (.int (0 : Int32)), .unset, .unset, .unset, .unset, .unset, .unset, .unset, .unset] [])) tg
    refine XS.iloadN X6.here hx rfl (hb hby at_61) rfl ?_
    show Steps p.tables e below (T6.setTop (mkF m 62 #[.val (.int p1), .val (.int p2), .val (.int p3), .val (.int p4), .val (.ref b1), .val (.ref d), .val (.int (1 : Int32)), .val (.int (0 : Int32)), .val (.int (1 : Int32)), .val (.int (0 : Int32)), .unset, .unset, .unset, .unset, .unset, .unset, .unset, .unset] [(.int p3)])) tg
    refine XS.iloadN X6.here hx rfl (hb hby at_62) rfl ?_
    exact kt
  have hc63 : ¬ (p3 = p2) := (fun z => hca (z.trans hba))
  refine own_seg (T' := T6) (g' := (mkF m 66 #[.val (.int p1), .val (.int p2), .val (.int p3), .val (.int p4), .val (.ref b1), .val (.ref d), .val (.int (1 : Int32)), .val (.int (0 : Int32)), .val (.int (1 : Int32)), .val (.int (0 : Int32)), .unset, .unset, .unset, .unset, .unset, .unset, .unset, .unset] [])) (fun tg kt => XS.icmpNo X6.here hx rfl (hb hby at_63) rfl (feq hc63).1 kt) ?_
  refine own_seg (T' := T6) (g' := (mkF m 76 #[.val (.int p1), .val (.int p2), .val (.int p3), .val (.int p4), .val (.ref b1), .val (.ref d), .val (.int (1 : Int32)), .val (.int (0 : Int32)), .val (.int (1 : Int32)), .val (.int (0 : Int32)), .val (.int (1 : Int32)), .unset, .unset, .unset, .unset, .unset, .unset, .unset] [(.int (0 : Int32)), (.int (1 : Int32))])) (fun tg kt => ?_) ?_
  · show Steps p.tables e below (T6.setTop (mkF m 66 #[.val (.int p1), .val (.int p2), .val (.int p3), .val (.int p4), .val (.ref b1), .val (.ref d), .val (.int (1 : Int32)), .val (.int (0 : Int32)), .val (.int (1 : Int32)), .val (.int (0 : Int32)), .unset, .unset, .unset, .unset, .unset, .unset, .unset, .unset] [])) tg
    refine XS.iconst X6.here hx rfl (hb hby at_66) ?_
    show Steps p.tables e below (T6.setTop (mkF m 67 #[.val (.int p1), .val (.int p2), .val (.int p3), .val (.int p4), .val (.ref b1), .val (.ref d), .val (.int (1 : Int32)), .val (.int (0 : Int32)), .val (.int (1 : Int32)), .val (.int (0 : Int32)), .unset, .unset, .unset, .unset, .unset, .unset, .unset, .unset] [(.int (1 : Int32))])) tg
    refine XS.goto X6.here hx rfl (pc0 := 67) (pc' := 71) rfl (hb hby at_67) (by decide) (by decide) ?_
    show Steps p.tables e below (T6.setTop (mkF m 71 #[.val (.int p1), .val (.int p2), .val (.int p3), .val (.int p4), .val (.ref b1), .val (.ref d), .val (.int (1 : Int32)), .val (.int (0 : Int32)), .val (.int (1 : Int32)), .val (.int (0 : Int32)), .unset, .unset, .unset, .unset, .unset, .unset, .unset, .unset] [(.int (1 : Int32))])) tg
    refine XS.istore X6.here hx rfl (hb hby at_71) rfl (l' := #[.val (.int p1), .val (.int p2), .val (.int p3), .val (.int p4), .val (.ref b1), .val (.ref d), .val (.int (1 : Int32)), .val (.int (0 : Int32)), .val (.int (1 : Int32)), .val (.int (0 : Int32)), .val (.int (1 : Int32)), .unset, .unset, .unset, .unset, .unset, .unset, .unset]) rfl ?_
    show Steps p.tables e below (T6.setTop (mkF m 73 #[.val (.int p1), .val (.int p2), .val (.int p3), .val (.int p4), .val (.ref b1), .val (.ref d), .val (.int (1 : Int32)), .val (.int (0 : Int32)), .val (.int (1 : Int32)), .val (.int (0 : Int32)), .val (.int (1 : Int32)), .unset, .unset, .unset, .unset, .unset, .unset, .unset] [])) tg
    refine XS.iconst X6.here hx rfl (hb hby at_73) ?_
    show Steps p.tables e below (T6.setTop (mkF m 74 #[.val (.int p1), .val (.int p2), .val (.int p3), .val (.int p4), .val (.ref b1), .val (.ref d), .val (.int (1 : Int32)), .val (.int (0 : Int32)), .val (.int (1 : Int32)), .val (.int (0 : Int32)), .val (.int (1 : Int32)), .unset, .unset, .unset, .unset, .unset, .unset, .unset] [(.int (1 : Int32))])) tg
    refine XS.iload X6.here hx rfl (hb hby at_74) rfl ?_
    exact kt
  have hc76 : (0 : Int32) = (0 : Int32) := by decide
  refine own_seg (T' := T6) (g' := (mkF m 83 #[.val (.int p1), .val (.int p2), .val (.int p3), .val (.int p4), .val (.ref b1), .val (.ref d), .val (.int (1 : Int32)), .val (.int (0 : Int32)), .val (.int (1 : Int32)), .val (.int (0 : Int32)), .val (.int (1 : Int32)), .unset, .unset, .unset, .unset, .unset, .unset, .unset] [(.int (1 : Int32))])) (fun tg kt => XS.ifYes X6.here hx rfl (pc0 := 76) (pc' := 83) rfl (hb hby at_76) rfl ((if0 _ _).trans (teq hc76).1) (by decide) (by decide) kt) ?_
  refine own_seg (T' := T6) (g' := (mkF m 87 #[.val (.int p1), .val (.int p2), .val (.int p3), .val (.int p4), .val (.ref b1), .val (.ref d), .val (.int (1 : Int32)), .val (.int (0 : Int32)), .val (.int (1 : Int32)), .val (.int (0 : Int32)), .val (.int (1 : Int32)), .unset, .unset, .unset, .unset, .unset, .unset, .unset] [(.int (1 : Int32)), (.int (1 : Int32))])) (fun tg kt => ?_) ?_
  · show Steps p.tables e below (T6.setTop (mkF m 83 #[.val (.int p1), .val (.int p2), .val (.int p3), .val (.int p4), .val (.ref b1), .val (.ref d), .val (.int (1 : Int32)), .val (.int (0 : Int32)), .val (.int (1 : Int32)), .val (.int (0 : Int32)), .val (.int (1 : Int32)), .unset, .unset, .unset, .unset, .unset, .unset, .unset] [(.int (1 : Int32))])) tg
    refine XS.iconst X6.here hx rfl (hb hby at_83) ?_
    show Steps p.tables e below (T6.setTop (mkF m 84 #[.val (.int p1), .val (.int p2), .val (.int p3), .val (.int p4), .val (.ref b1), .val (.ref d), .val (.int (1 : Int32)), .val (.int (0 : Int32)), .val (.int (1 : Int32)), .val (.int (0 : Int32)), .val (.int (1 : Int32)), .unset, .unset, .unset, .unset, .unset, .unset, .unset] [(.int (0 : Int32)), (.int (1 : Int32))])) tg
    refine XS.iadd X6.here hx rfl (hb hby at_84) rfl ?_
    show Steps p.tables e below (T6.setTop (mkF m 85 #[.val (.int p1), .val (.int p2), .val (.int p3), .val (.int p4), .val (.ref b1), .val (.ref d), .val (.int (1 : Int32)), .val (.int (0 : Int32)), .val (.int (1 : Int32)), .val (.int (0 : Int32)), .val (.int (1 : Int32)), .unset, .unset, .unset, .unset, .unset, .unset, .unset] [(.int (1 : Int32))])) tg
    refine XS.iload X6.here hx rfl (hb hby at_85) rfl ?_
    exact kt
  have hc87 : ¬ ((1 : Int32) = (0 : Int32)) := by decide
  refine own_seg (T' := T6) (g' := (mkF m 90 #[.val (.int p1), .val (.int p2), .val (.int p3), .val (.int p4), .val (.ref b1), .val (.ref d), .val (.int (1 : Int32)), .val (.int (0 : Int32)), .val (.int (1 : Int32)), .val (.int (0 : Int32)), .val (.int (1 : Int32)), .unset, .unset, .unset, .unset, .unset, .unset, .unset] [(.int (1 : Int32))])) (fun tg kt => XS.ifNo X6.here hx rfl (hb hby at_87) rfl ((if0 _ _).trans (feq hc87).1) kt) ?_
  refine own_seg (T' := T6) (g' := (mkF m 106 #[.val (.int p1), .val (.int p2), .val (.int p3), .val (.int p4), .val (.ref b1), .val (.ref d), .val (.int (1 : Int32)), .val (.int (0 : Int32)), .val (.int (1 : Int32)), .val (.int (0 : Int32)), .val (.int (1 : Int32)), .val (.int (2 : Int32)), .val (.int ((p4 &&& (2147483647 : Int32)) % (5 : Int32))), .unset, .unset, .unset, .unset, .unset] [])) (fun tg kt => ?_) ?_
  · show Steps p.tables e below (T6.setTop (mkF m 90 #[.val (.int p1), .val (.int p2), .val (.int p3), .val (.int p4), .val (.ref b1), .val (.ref d), .val (.int (1 : Int32)), .val (.int (0 : Int32)), .val (.int (1 : Int32)), .val (.int (0 : Int32)), .val (.int (1 : Int32)), .unset, .unset, .unset, .unset, .unset, .unset, .unset] [(.int (1 : Int32))])) tg
    refine XS.iconst X6.here hx rfl (hb hby at_90) ?_
    show Steps p.tables e below (T6.setTop (mkF m 91 #[.val (.int p1), .val (.int p2), .val (.int p3), .val (.int p4), .val (.ref b1), .val (.ref d), .val (.int (1 : Int32)), .val (.int (0 : Int32)), .val (.int (1 : Int32)), .val (.int (0 : Int32)), .val (.int (1 : Int32)), .unset, .unset, .unset, .unset, .unset, .unset, .unset] [(.int (1 : Int32)), (.int (1 : Int32))])) tg
    refine XS.goto X6.here hx rfl (pc0 := 91) (pc' := 95) rfl (hb hby at_91) (by decide) (by decide) ?_
    show Steps p.tables e below (T6.setTop (mkF m 95 #[.val (.int p1), .val (.int p2), .val (.int p3), .val (.int p4), .val (.ref b1), .val (.ref d), .val (.int (1 : Int32)), .val (.int (0 : Int32)), .val (.int (1 : Int32)), .val (.int (0 : Int32)), .val (.int (1 : Int32)), .unset, .unset, .unset, .unset, .unset, .unset, .unset] [(.int (1 : Int32)), (.int (1 : Int32))])) tg
    refine XS.iadd X6.here hx rfl (hb hby at_95) rfl ?_
    show Steps p.tables e below (T6.setTop (mkF m 96 #[.val (.int p1), .val (.int p2), .val (.int p3), .val (.int p4), .val (.ref b1), .val (.ref d), .val (.int (1 : Int32)), .val (.int (0 : Int32)), .val (.int (1 : Int32)), .val (.int (0 : Int32)), .val (.int (1 : Int32)), .unset, .unset, .unset, .unset, .unset, .unset, .unset] [(.int (2 : Int32))])) tg
    refine XS.istore X6.here hx rfl (hb hby at_96) rfl (l' := #[.val (.int p1), .val (.int p2), .val (.int p3), .val (.int p4), .val (.ref b1), .val (.ref d), .val (.int (1 : Int32)), .val (.int (0 : Int32)), .val (.int (1 : Int32)), .val (.int (0 : Int32)), .val (.int (1 : Int32)), .val (.int (2 : Int32)), .unset, .unset, .unset, .unset, .unset, .unset]) rfl ?_
    show Steps p.tables e below (T6.setTop (mkF m 98 #[.val (.int p1), .val (.int p2), .val (.int p3), .val (.int p4), .val (.ref b1), .val (.ref d), .val (.int (1 : Int32)), .val (.int (0 : Int32)), .val (.int (1 : Int32)), .val (.int (0 : Int32)), .val (.int (1 : Int32)), .val (.int (2 : Int32)), .unset, .unset, .unset, .unset, .unset, .unset] [])) tg
    refine XS.iloadN X6.here hx rfl (hb hby at_98) rfl ?_
    show Steps p.tables e below (T6.setTop (mkF m 99 #[.val (.int p1), .val (.int p2), .val (.int p3), .val (.int p4), .val (.ref b1), .val (.ref d), .val (.int (1 : Int32)), .val (.int (0 : Int32)), .val (.int (1 : Int32)), .val (.int (0 : Int32)), .val (.int (1 : Int32)), .val (.int (2 : Int32)), .unset, .unset, .unset, .unset, .unset, .unset] [(.int p4)])) tg
    refine X6.ldcInt hx hown (mvT hZ (hw _ (List.mem_of_getElem? (i := 47) rfl))) (g := (mkF m 99 #[.val (.int p1), .val (.int p2), .val (.int p3), .val (.int p4), .val (.ref b1), .val (.ref d), .val (.int (1 : Int32)), .val (.int (0 : Int32)), .val (.int (1 : Int32)), .val (.int (0 : Int32)), .val (.int (1 : Int32)), .val (.int (2 : Int32)), .unset, .unset, .unset, .unset, .unset, .unset] [(.int p4)])) rfl (hb hby at_99) _ ?_
    show Steps p.tables e below (T6.setTop (mkF m 101 #[.val (.int p1), .val (.int p2), .val (.int p3), .val (.int p4), .val (.ref b1), .val (.ref d), .val (.int (1 : Int32)), .val (.int (0 : Int32)), .val (.int (1 : Int32)), .val (.int (0 : Int32)), .val (.int (1 : Int32)), .val (.int (2 : Int32)), .unset, .unset, .unset, .unset, .unset, .unset] [(.int (2147483647 : Int32)), (.int p4)])) tg
    refine XS.iand X6.here hx rfl (hb hby at_101) rfl ?_
    show Steps p.tables e below (T6.setTop (mkF m 102 #[.val (.int p1), .val (.int p2), .val (.int p3), .val (.int p4), .val (.ref b1), .val (.ref d), .val (.int (1 : Int32)), .val (.int (0 : Int32)), .val (.int (1 : Int32)), .val (.int (0 : Int32)), .val (.int (1 : Int32)), .val (.int (2 : Int32)), .unset, .unset, .unset, .unset, .unset, .unset] [(.int (p4 &&& (2147483647 : Int32)))])) tg
    refine XS.iconst X6.here hx rfl (hb hby at_102) ?_
    show Steps p.tables e below (T6.setTop (mkF m 103 #[.val (.int p1), .val (.int p2), .val (.int p3), .val (.int p4), .val (.ref b1), .val (.ref d), .val (.int (1 : Int32)), .val (.int (0 : Int32)), .val (.int (1 : Int32)), .val (.int (0 : Int32)), .val (.int (1 : Int32)), .val (.int (2 : Int32)), .unset, .unset, .unset, .unset, .unset, .unset] [(.int (5 : Int32)), (.int (p4 &&& (2147483647 : Int32)))])) tg
    refine iremM X6 hx rfl (hb hby at_103) rfl (by decide) ?_
    show Steps p.tables e below (T6.setTop (mkF m 104 #[.val (.int p1), .val (.int p2), .val (.int p3), .val (.int p4), .val (.ref b1), .val (.ref d), .val (.int (1 : Int32)), .val (.int (0 : Int32)), .val (.int (1 : Int32)), .val (.int (0 : Int32)), .val (.int (1 : Int32)), .val (.int (2 : Int32)), .unset, .unset, .unset, .unset, .unset, .unset] [(.int ((p4 &&& (2147483647 : Int32)) % (5 : Int32)))])) tg
    refine XS.istore X6.here hx rfl (hb hby at_104) rfl (l' := #[.val (.int p1), .val (.int p2), .val (.int p3), .val (.int p4), .val (.ref b1), .val (.ref d), .val (.int (1 : Int32)), .val (.int (0 : Int32)), .val (.int (1 : Int32)), .val (.int (0 : Int32)), .val (.int (1 : Int32)), .val (.int (2 : Int32)), .val (.int ((p4 &&& (2147483647 : Int32)) % (5 : Int32))), .unset, .unset, .unset, .unset, .unset]) rfl ?_
    exact kt
  obtain ⟨mm, hmm4, hmm⟩ := own_k5 p4
  rw [hmm]
  refine own_seg (T' := T6) (g' := (mkF m 110 #[.val (.int p1), .val (.int p2), .val (.int p3), .val (.int p4), .val (.ref b1), .val (.ref d), .val (.int (1 : Int32)), .val (.int (0 : Int32)), .val (.int (1 : Int32)), .val (.int (0 : Int32)), .val (.int (1 : Int32)), .val (.int (2 : Int32)), .val (.int (Int32.ofNat mm)), .unset, .unset, .unset, .unset, .unset] [(.int (Int32.ofNat mm)), (.ref b1)])) (fun tg kt => ?_) ?_
  · show Steps p.tables e below (T6.setTop (mkF m 106 #[.val (.int p1), .val (.int p2), .val (.int p3), .val (.int p4), .val (.ref b1), .val (.ref d), .val (.int (1 : Int32)), .val (.int (0 : Int32)), .val (.int (1 : Int32)), .val (.int (0 : Int32)), .val (.int (1 : Int32)), .val (.int (2 : Int32)), .val (.int (Int32.ofNat mm)), .unset, .unset, .unset, .unset, .unset] [])) tg
    refine XS.aload X6.here hx rfl (hb hby at_106) rfl rfl ?_
    show Steps p.tables e below (T6.setTop (mkF m 108 #[.val (.int p1), .val (.int p2), .val (.int p3), .val (.int p4), .val (.ref b1), .val (.ref d), .val (.int (1 : Int32)), .val (.int (0 : Int32)), .val (.int (1 : Int32)), .val (.int (0 : Int32)), .val (.int (1 : Int32)), .val (.int (2 : Int32)), .val (.int (Int32.ofNat mm)), .unset, .unset, .unset, .unset, .unset] [(.ref b1)])) tg
    refine XS.iload X6.here hx rfl (hb hby at_108) rfl ?_
    exact kt
  refine own_callV K X6 e6 (rmT l Z a0 hw b1 t1 t2 t3 mm 2 u2 (own_up (own_up (fun _ => (0 : Int32)) 0 p1) 1 p3) h6 n0 Z6 Oq6_b1 Oq6_t1 Oq6_t2 Oq6_t3 hD f_b1 f_t1 f_t2 f_t3 (by omega) hT2) (hw _ (List.mem_of_getElem? (i := 48) rfl)) (hw _ (List.mem_of_getElem? (i := 49) rfl)) (fun _ q => notFace_of_selects q) (hw _ (List.mem_of_getElem? (i := 51) rfl)) (hw _ (List.mem_of_getElem? (i := 50) rfl)) (hw _ (List.mem_of_getElem? (i := 2) rfl)) (hw _ (List.mem_of_getElem? (i := 52) rfl)) (by decide) b1 Oq6_b1.exa [(.int (Int32.ofNat mm))] [] own_pd2 rfl rfl rfl rfl at_110 (by decide) (Nat.le_of_ble_eq_true rfl) (by decide) (by decide) ?_
  intro T7 L7 v7 X7 hQ7
  obtain ⟨h7, e7⟩ : ∃ z, T7.heap = z := ⟨_, rfl⟩
  rw [e7] at hQ7
  obtain ⟨kk, uk, rfl, Nq7, Kq7, hkk, hTk, P_a, P_1, P_2, P_3⟩ := hQ7
  have N7 := Fr.app N6 Nq7
  have Od7 := Old.keep Od6 Kq7 (allS f_b1 (allS f_t1 (allS f_t2 (allS f_t3 all0))))
  have Z7 : n0 ≤ h7.size := Nat.le_trans Z6 Kq7.1
  show own_Fin p e below _ T7 (mkF m 113 #[.val (.int p1), .val (.int p2), .val (.int p3), .val (.int p4), .val (.ref b1), .val (.ref d), .val (.int (1 : Int32)), .val (.int (0 : Int32)), .val (.int (1 : Int32)), .val (.int (0 : Int32)), .val (.int (1 : Int32)), .val (.int (2 : Int32)), .val (.int (Int32.ofNat mm)), .unset, .unset, .unset, .unset, .unset] [])
  refine own_seg (T' := T7) (g' := (mkF m 117 #[.val (.int p1), .val (.int p2), .val (.int p3), .val (.int p4), .val (.ref b1), .val (.ref d), .val (.int (1 : Int32)), .val (.int (0 : Int32)), .val (.int (1 : Int32)), .val (.int (0 : Int32)), .val (.int (1 : Int32)), .val (.int (2 : Int32)), .val (.int (Int32.ofNat mm)), .unset, .unset, .unset, .unset, .unset] [(.int (Int32.ofNat mm)), (.int (2 : Int32))])) (fun tg kt => ?_) ?_
  · show Steps p.tables e below (T7.setTop (mkF m 113 #[.val (.int p1), .val (.int p2), .val (.int p3), .val (.int p4), .val (.ref b1), .val (.ref d), .val (.int (1 : Int32)), .val (.int (0 : Int32)), .val (.int (1 : Int32)), .val (.int (0 : Int32)), .val (.int (1 : Int32)), .val (.int (2 : Int32)), .val (.int (Int32.ofNat mm)), .unset, .unset, .unset, .unset, .unset] [])) tg
    refine XS.iload X7.here hx rfl (hb hby at_113) rfl ?_
    show Steps p.tables e below (T7.setTop (mkF m 115 #[.val (.int p1), .val (.int p2), .val (.int p3), .val (.int p4), .val (.ref b1), .val (.ref d), .val (.int (1 : Int32)), .val (.int (0 : Int32)), .val (.int (1 : Int32)), .val (.int (0 : Int32)), .val (.int (1 : Int32)), .val (.int (2 : Int32)), .val (.int (Int32.ofNat mm)), .unset, .unset, .unset, .unset, .unset] [(.int (2 : Int32))])) tg
    refine XS.iload X7.here hx rfl (hb hby at_115) rfl ?_
    exact kt
  have hmn : own_min (2 : Int32) (Int32.ofNat mm) = Int32.ofNat kk := by
    rw [hkk]
    rcases (by omega : mm = 0 ∨ mm = 1 ∨ mm = 2 ∨ mm = 3 ∨ mm = 4) with rfl | rfl | rfl | rfl | rfl <;> decide
  refine own_callS K X7 e7 (rmM l Z a0 hw (2 : Int32) (Int32.ofNat mm) h7 n0 Z7) (hw _ (List.mem_of_getElem? (i := 53) rfl)) (hw _ (List.mem_of_getElem? (i := 54) rfl)) (hw _ (List.mem_of_getElem? (i := 55) rfl)) (hw _ (List.mem_of_getElem? (i := 56) rfl)) (by decide) [(.int (2 : Int32)), (.int (Int32.ofNat mm))] [] own_pd6 rfl rfl rfl rfl at_117 (by decide) (Nat.le_of_ble_eq_true rfl) (by decide) (by decide) ?_
  intro T8 L8 v8 X8 hQ8
  obtain ⟨rfl, Nq8, e8⟩ := hQ8
  rw [hmn]
  have N8 := Fr.app N7 Nq8
  show own_Fin p e below _ T8 (mkF m 120 #[.val (.int p1), .val (.int p2), .val (.int p3), .val (.int p4), .val (.ref b1), .val (.ref d), .val (.int (1 : Int32)), .val (.int (0 : Int32)), .val (.int (1 : Int32)), .val (.int (0 : Int32)), .val (.int (1 : Int32)), .val (.int (2 : Int32)), .val (.int (Int32.ofNat mm)), .unset, .unset, .unset, .unset, .unset] [(.int (Int32.ofNat kk))])
  refine own_seg (T' := T8) (g' := (mkF m 124 #[.val (.int p1), .val (.int p2), .val (.int p3), .val (.int p4), .val (.ref b1), .val (.ref d), .val (.int (1 : Int32)), .val (.int (0 : Int32)), .val (.int (1 : Int32)), .val (.int (0 : Int32)), .val (.int (1 : Int32)), .val (.int (2 : Int32)), .val (.int (Int32.ofNat mm)), .val (.int (Int32.ofNat kk)), .unset, .unset, .unset, .unset] [(.int (0 : Int32))])) (fun tg kt => ?_) ?_
  · show Steps p.tables e below (T8.setTop (mkF m 120 #[.val (.int p1), .val (.int p2), .val (.int p3), .val (.int p4), .val (.ref b1), .val (.ref d), .val (.int (1 : Int32)), .val (.int (0 : Int32)), .val (.int (1 : Int32)), .val (.int (0 : Int32)), .val (.int (1 : Int32)), .val (.int (2 : Int32)), .val (.int (Int32.ofNat mm)), .unset, .unset, .unset, .unset, .unset] [(.int (Int32.ofNat kk))])) tg
    refine XS.istore X8.here hx rfl (hb hby at_120) rfl (l' := #[.val (.int p1), .val (.int p2), .val (.int p3), .val (.int p4), .val (.ref b1), .val (.ref d), .val (.int (1 : Int32)), .val (.int (0 : Int32)), .val (.int (1 : Int32)), .val (.int (0 : Int32)), .val (.int (1 : Int32)), .val (.int (2 : Int32)), .val (.int (Int32.ofNat mm)), .val (.int (Int32.ofNat kk)), .unset, .unset, .unset, .unset]) rfl ?_
    show Steps p.tables e below (T8.setTop (mkF m 122 #[.val (.int p1), .val (.int p2), .val (.int p3), .val (.int p4), .val (.ref b1), .val (.ref d), .val (.int (1 : Int32)), .val (.int (0 : Int32)), .val (.int (1 : Int32)), .val (.int (0 : Int32)), .val (.int (1 : Int32)), .val (.int (2 : Int32)), .val (.int (Int32.ofNat mm)), .val (.int (Int32.ofNat kk)), .unset, .unset, .unset, .unset] [])) tg
    refine XS.iload X8.here hx rfl (hb hby at_122) rfl ?_
    exact kt
  have hc124 : (0 : Int32) = (0 : Int32) := by decide
  refine own_seg (T' := T8) (g' := (mkF m 131 #[.val (.int p1), .val (.int p2), .val (.int p3), .val (.int p4), .val (.ref b1), .val (.ref d), .val (.int (1 : Int32)), .val (.int (0 : Int32)), .val (.int (1 : Int32)), .val (.int (0 : Int32)), .val (.int (1 : Int32)), .val (.int (2 : Int32)), .val (.int (Int32.ofNat mm)), .val (.int (Int32.ofNat kk)), .unset, .unset, .unset, .unset] [])) (fun tg kt => XS.ifYes X8.here hx rfl (pc0 := 124) (pc' := 131) rfl (hb hby at_124) rfl ((if0 _ _).trans (teq hc124).1) (by decide) (by decide) kt) ?_
  refine own_seg (T' := T8) (g' := (mkF m 137 #[.val (.int p1), .val (.int p2), .val (.int p3), .val (.int p4), .val (.ref b1), .val (.ref d), .val (.int (1 : Int32)), .val (.int (0 : Int32)), .val (.int (1 : Int32)), .val (.int (0 : Int32)), .val (.int (1 : Int32)), .val (.int (2 : Int32)), .val (.int (Int32.ofNat mm)), .val (.int (Int32.ofNat kk)), .val (.int (1 : Int32)), .unset, .unset, .unset] [(.int (Int32.ofNat kk)), (.int (0 : Int32))])) (fun tg kt => ?_) ?_
  · show Steps p.tables e below (T8.setTop (mkF m 131 #[.val (.int p1), .val (.int p2), .val (.int p3), .val (.int p4), .val (.ref b1), .val (.ref d), .val (.int (1 : Int32)), .val (.int (0 : Int32)), .val (.int (1 : Int32)), .val (.int (0 : Int32)), .val (.int (1 : Int32)), .val (.int (2 : Int32)), .val (.int (Int32.ofNat mm)), .val (.int (Int32.ofNat kk)), .unset, .unset, .unset, .unset] [])) tg
    refine XS.iconst X8.here hx rfl (hb hby at_131) ?_
    show Steps p.tables e below (T8.setTop (mkF m 132 #[.val (.int p1), .val (.int p2), .val (.int p3), .val (.int p4), .val (.ref b1), .val (.ref d), .val (.int (1 : Int32)), .val (.int (0 : Int32)), .val (.int (1 : Int32)), .val (.int (0 : Int32)), .val (.int (1 : Int32)), .val (.int (2 : Int32)), .val (.int (Int32.ofNat mm)), .val (.int (Int32.ofNat kk)), .unset, .unset, .unset, .unset] [(.int (1 : Int32))])) tg
    refine XS.istore X8.here hx rfl (hb hby at_132) rfl (l' := #[.val (.int p1), .val (.int p2), .val (.int p3), .val (.int p4), .val (.ref b1), .val (.ref d), .val (.int (1 : Int32)), .val (.int (0 : Int32)), .val (.int (1 : Int32)), .val (.int (0 : Int32)), .val (.int (1 : Int32)), .val (.int (2 : Int32)), .val (.int (Int32.ofNat mm)), .val (.int (Int32.ofNat kk)), .val (.int (1 : Int32)), .unset, .unset, .unset]) rfl ?_
    show Steps p.tables e below (T8.setTop (mkF m 134 #[.val (.int p1), .val (.int p2), .val (.int p3), .val (.int p4), .val (.ref b1), .val (.ref d), .val (.int (1 : Int32)), .val (.int (0 : Int32)), .val (.int (1 : Int32)), .val (.int (0 : Int32)), .val (.int (1 : Int32)), .val (.int (2 : Int32)), .val (.int (Int32.ofNat mm)), .val (.int (Int32.ofNat kk)), .val (.int (1 : Int32)), .unset, .unset, .unset] [])) tg
    refine XS.iconst X8.here hx rfl (hb hby at_134) ?_
    show Steps p.tables e below (T8.setTop (mkF m 135 #[.val (.int p1), .val (.int p2), .val (.int p3), .val (.int p4), .val (.ref b1), .val (.ref d), .val (.int (1 : Int32)), .val (.int (0 : Int32)), .val (.int (1 : Int32)), .val (.int (0 : Int32)), .val (.int (1 : Int32)), .val (.int (2 : Int32)), .val (.int (Int32.ofNat mm)), .val (.int (Int32.ofNat kk)), .val (.int (1 : Int32)), .unset, .unset, .unset] [(.int (0 : Int32))])) tg
    refine XS.iload X8.here hx rfl (hb hby at_135) rfl ?_
    exact kt
  by_cases hc137 : (0 : Int32) < (Int32.ofNat kk)
  · skip
    refine own_seg (T' := T8) (g' := (mkF m 140 #[.val (.int p1), .val (.int p2), .val (.int p3), .val (.int p4), .val (.ref b1), .val (.ref d), .val (.int (1 : Int32)), .val (.int (0 : Int32)), .val (.int (1 : Int32)), .val (.int (0 : Int32)), .val (.int (1 : Int32)), .val (.int (2 : Int32)), .val (.int (Int32.ofNat mm)), .val (.int (Int32.ofNat kk)), .val (.int (1 : Int32)), .unset, .unset, .unset] [])) (fun tg kt => XS.icmpNo X8.here hx rfl (hb hby at_137) rfl (tlt hc137).2.1 kt) ?_
    refine own_seg (T' := T8) (g' := (mkF m 149 #[.val (.int p1), .val (.int p2), .val (.int p3), .val (.int p4), .val (.ref b1), .val (.ref d), .val (.int (1 : Int32)), .val (.int (0 : Int32)), .val (.int (1 : Int32)), .val (.int (0 : Int32)), .val (.int (1 : Int32)), .val (.int (2 : Int32)), .val (.int (Int32.ofNat mm)), .val (.int (Int32.ofNat kk)), .val (.int (1 : Int32)), .val (.int (0 : Int32)), .unset, .unset] [(.int (0 : Int32))])) (fun tg kt => ?_) ?_
    · show Steps p.tables e below (T8.setTop (mkF m 140 #[.val (.int p1), .val (.int p2), .val (.int p3), .val (.int p4), .val (.ref b1), .val (.ref d), .val (.int (1 : Int32)), .val (.int (0 : Int32)), .val (.int (1 : Int32)), .val (.int (0 : Int32)), .val (.int (1 : Int32)), .val (.int (2 : Int32)), .val (.int (Int32.ofNat mm)), .val (.int (Int32.ofNat kk)), .val (.int (1 : Int32)), .unset, .unset, .unset] [])) tg
      refine XS.iconst X8.here hx rfl (hb hby at_140) ?_
      show Steps p.tables e below (T8.setTop (mkF m 141 #[.val (.int p1), .val (.int p2), .val (.int p3), .val (.int p4), .val (.ref b1), .val (.ref d), .val (.int (1 : Int32)), .val (.int (0 : Int32)), .val (.int (1 : Int32)), .val (.int (0 : Int32)), .val (.int (1 : Int32)), .val (.int (2 : Int32)), .val (.int (Int32.ofNat mm)), .val (.int (Int32.ofNat kk)), .val (.int (1 : Int32)), .unset, .unset, .unset] [(.int (0 : Int32))])) tg
      refine XS.goto X8.here hx rfl (pc0 := 141) (pc' := 145) rfl (hb hby at_141) (by decide) (by decide) ?_
      show Steps p.tables e below (T8.setTop (mkF m 145 #[.val (.int p1), .val (.int p2), .val (.int p3), .val (.int p4), .val (.ref b1), .val (.ref d), .val (.int (1 : Int32)), .val (.int (0 : Int32)), .val (.int (1 : Int32)), .val (.int (0 : Int32)), .val (.int (1 : Int32)), .val (.int (2 : Int32)), .val (.int (Int32.ofNat mm)), .val (.int (Int32.ofNat kk)), .val (.int (1 : Int32)), .unset, .unset, .unset] [(.int (0 : Int32))])) tg
      refine XS.istore X8.here hx rfl (hb hby at_145) rfl (l' := #[.val (.int p1), .val (.int p2), .val (.int p3), .val (.int p4), .val (.ref b1), .val (.ref d), .val (.int (1 : Int32)), .val (.int (0 : Int32)), .val (.int (1 : Int32)), .val (.int (0 : Int32)), .val (.int (1 : Int32)), .val (.int (2 : Int32)), .val (.int (Int32.ofNat mm)), .val (.int (Int32.ofNat kk)), .val (.int (1 : Int32)), .val (.int (0 : Int32)), .unset, .unset]) rfl ?_
      show Steps p.tables e below (T8.setTop (mkF m 147 #[.val (.int p1), .val (.int p2), .val (.int p3), .val (.int p4), .val (.ref b1), .val (.ref d), .val (.int (1 : Int32)), .val (.int (0 : Int32)), .val (.int (1 : Int32)), .val (.int (0 : Int32)), .val (.int (1 : Int32)), .val (.int (2 : Int32)), .val (.int (Int32.ofNat mm)), .val (.int (Int32.ofNat kk)), .val (.int (1 : Int32)), .val (.int (0 : Int32)), .unset, .unset] [])) tg
      refine XS.iload X8.here hx rfl (hb hby at_147) rfl ?_
      exact kt
    have hc149 : (0 : Int32) = (0 : Int32) := by decide
    refine own_seg (T' := T8) (g' := (mkF m 166 #[.val (.int p1), .val (.int p2), .val (.int p3), .val (.int p4), .val (.ref b1), .val (.ref d), .val (.int (1 : Int32)), .val (.int (0 : Int32)), .val (.int (1 : Int32)), .val (.int (0 : Int32)), .val (.int (1 : Int32)), .val (.int (2 : Int32)), .val (.int (Int32.ofNat mm)), .val (.int (Int32.ofNat kk)), .val (.int (1 : Int32)), .val (.int (0 : Int32)), .unset, .unset] [])) (fun tg kt => XS.ifYes X8.here hx rfl (pc0 := 149) (pc' := 166) rfl (hb hby at_149) rfl ((if0 _ _).trans (teq hc149).1) (by decide) (by decide) kt) ?_
    refine own_seg (T' := T8) (g' := (mkF m 172 #[.val (.int p1), .val (.int p2), .val (.int p3), .val (.int p4), .val (.ref b1), .val (.ref d), .val (.int (1 : Int32)), .val (.int (0 : Int32)), .val (.int (1 : Int32)), .val (.int (0 : Int32)), .val (.int (1 : Int32)), .val (.int (2 : Int32)), .val (.int (Int32.ofNat mm)), .val (.int (Int32.ofNat kk)), .val (.int (1 : Int32)), .val (.int (0 : Int32)), .val (.int (0 : Int32)), .unset] [(.int (1 : Int32))])) (fun tg kt => ?_) ?_
    · show Steps p.tables e below (T8.setTop (mkF m 166 #[.val (.int p1), .val (.int p2), .val (.int p3), .val (.int p4), .val (.ref b1), .val (.ref d), .val (.int (1 : Int32)), .val (.int (0 : Int32)), .val (.int (1 : Int32)), .val (.int (0 : Int32)), .val (.int (1 : Int32)), .val (.int (2 : Int32)), .val (.int (Int32.ofNat mm)), .val (.int (Int32.ofNat kk)), .val (.int (1 : Int32)), .val (.int (0 : Int32)), .unset, .unset] [])) tg
      refine XS.iload X8.here hx rfl (hb hby at_166) rfl ?_
      show Steps p.tables e below (T8.setTop (mkF m 168 #[.val (.int p1), .val (.int p2), .val (.int p3), .val (.int p4), .val (.ref b1), .val (.ref d), .val (.int (1 : Int32)), .val (.int (0 : Int32)), .val (.int (1 : Int32)), .val (.int (0 : Int32)), .val (.int (1 : Int32)), .val (.int (2 : Int32)), .val (.int (Int32.ofNat mm)), .val (.int (Int32.ofNat kk)), .val (.int (1 : Int32)), .val (.int (0 : Int32)), .unset, .unset] [(.int (0 : Int32))])) tg
      refine XS.istore X8.here hx rfl (hb hby at_168) rfl (l' := #[.val (.int p1), .val (.int p2), .val (.int p3), .val (.int p4), .val (.ref b1), .val (.ref d), .val (.int (1 : Int32)), .val (.int (0 : Int32)), .val (.int (1 : Int32)), .val (.int (0 : Int32)), .val (.int (1 : Int32)), .val (.int (2 : Int32)), .val (.int (Int32.ofNat mm)), .val (.int (Int32.ofNat kk)), .val (.int (1 : Int32)), .val (.int (0 : Int32)), .val (.int (0 : Int32)), .unset]) rfl ?_
      show Steps p.tables e below (T8.setTop (mkF m 170 #[.val (.int p1), .val (.int p2), .val (.int p3), .val (.int p4), .val (.ref b1), .val (.ref d), .val (.int (1 : Int32)), .val (.int (0 : Int32)), .val (.int (1 : Int32)), .val (.int (0 : Int32)), .val (.int (1 : Int32)), .val (.int (2 : Int32)), .val (.int (Int32.ofNat mm)), .val (.int (Int32.ofNat kk)), .val (.int (1 : Int32)), .val (.int (0 : Int32)), .val (.int (0 : Int32)), .unset] [])) tg
      refine XS.iload X8.here hx rfl (hb hby at_170) rfl ?_
      exact kt
    have hc172 : ¬ ((1 : Int32) = (0 : Int32)) := by decide
    refine own_seg (T' := T8) (g' := (mkF m 175 #[.val (.int p1), .val (.int p2), .val (.int p3), .val (.int p4), .val (.ref b1), .val (.ref d), .val (.int (1 : Int32)), .val (.int (0 : Int32)), .val (.int (1 : Int32)), .val (.int (0 : Int32)), .val (.int (1 : Int32)), .val (.int (2 : Int32)), .val (.int (Int32.ofNat mm)), .val (.int (Int32.ofNat kk)), .val (.int (1 : Int32)), .val (.int (0 : Int32)), .val (.int (0 : Int32)), .unset] [])) (fun tg kt => XS.ifNo X8.here hx rfl (hb hby at_172) rfl ((if0 _ _).trans (feq hc172).1) kt) ?_
    refine own_seg (T' := T8) (g' := (mkF m 179 #[.val (.int p1), .val (.int p2), .val (.int p3), .val (.int p4), .val (.ref b1), .val (.ref d), .val (.int (1 : Int32)), .val (.int (0 : Int32)), .val (.int (1 : Int32)), .val (.int (0 : Int32)), .val (.int (1 : Int32)), .val (.int (2 : Int32)), .val (.int (Int32.ofNat mm)), .val (.int (Int32.ofNat kk)), .val (.int (1 : Int32)), .val (.int (0 : Int32)), .val (.int (0 : Int32)), .unset] [(.int (Int32.ofNat kk)), (.int (1 : Int32))])) (fun tg kt => ?_) ?_
    · show Steps p.tables e below (T8.setTop (mkF m 175 #[.val (.int p1), .val (.int p2), .val (.int p3), .val (.int p4), .val (.ref b1), .val (.ref d), .val (.int (1 : Int32)), .val (.int (0 : Int32)), .val (.int (1 : Int32)), .val (.int (0 : Int32)), .val (.int (1 : Int32)), .val (.int (2 : Int32)), .val (.int (Int32.ofNat mm)), .val (.int (Int32.ofNat kk)), .val (.int (1 : Int32)), .val (.int (0 : Int32)), .val (.int (0 : Int32)), .unset] [])) tg
      refine XS.iload X8.here hx rfl (hb hby at_175) rfl ?_
      show Steps p.tables e below (T8.setTop (mkF m 177 #[.val (.int p1), .val (.int p2), .val (.int p3), .val (.int p4), .val (.ref b1), .val (.ref d), .val (.int (1 : Int32)), .val (.int (0 : Int32)), .val (.int (1 : Int32)), .val (.int (0 : Int32)), .val (.int (1 : Int32)), .val (.int (2 : Int32)), .val (.int (Int32.ofNat mm)), .val (.int (Int32.ofNat kk)), .val (.int (1 : Int32)), .val (.int (0 : Int32)), .val (.int (0 : Int32)), .unset] [(.int (1 : Int32))])) tg
      refine XS.iload X8.here hx rfl (hb hby at_177) rfl ?_
      exact kt
    by_cases hc179 : (1 : Int32) < (Int32.ofNat kk)
    · skip
      refine own_seg (T' := T8) (g' := (mkF m 182 #[.val (.int p1), .val (.int p2), .val (.int p3), .val (.int p4), .val (.ref b1), .val (.ref d), .val (.int (1 : Int32)), .val (.int (0 : Int32)), .val (.int (1 : Int32)), .val (.int (0 : Int32)), .val (.int (1 : Int32)), .val (.int (2 : Int32)), .val (.int (Int32.ofNat mm)), .val (.int (Int32.ofNat kk)), .val (.int (1 : Int32)), .val (.int (0 : Int32)), .val (.int (0 : Int32)), .unset] [])) (fun tg kt => XS.icmpNo X8.here hx rfl (hb hby at_179) rfl (tlt hc179).2.1 kt) ?_
      refine own_seg (T' := T8) (g' := (mkF m 205 #[.val (.int p1), .val (.int p2), .val (.int p3), .val (.int p4), .val (.ref b1), .val (.ref d), .val (.int (1 : Int32)), .val (.int (0 : Int32)), .val (.int (1 : Int32)), .val (.int (0 : Int32)), .val (.int (1 : Int32)), .val (.int (2 : Int32)), .val (.int (Int32.ofNat mm)), .val (.int (Int32.ofNat kk)), .val (.int (1 : Int32)), .val (.int (0 : Int32)), .val (.int (0 : Int32)), .val (.int (1 : Int32))] [])) (fun tg kt => ?_) ?_
      · show Steps p.tables e below (T8.setTop (mkF m 182 #[.val (.int p1), .val (.int p2), .val (.int p3), .val (.int p4), .val (.ref b1), .val (.ref d), .val (.int (1 : Int32)), .val (.int (0 : Int32)), .val (.int (1 : Int32)), .val (.int (0 : Int32)), .val (.int (1 : Int32)), .val (.int (2 : Int32)), .val (.int (Int32.ofNat mm)), .val (.int (Int32.ofNat kk)), .val (.int (1 : Int32)), .val (.int (0 : Int32)), .val (.int (0 : Int32)), .unset] [])) tg
        refine XS.iload X8.here hx rfl (hb hby at_182) rfl ?_
        show Steps p.tables e below (T8.setTop (mkF m 184 #[.val (.int p1), .val (.int p2), .val (.int p3), .val (.int p4), .val (.ref b1), .val (.ref d), .val (.int (1 : Int32)), .val (.int (0 : Int32)), .val (.int (1 : Int32)), .val (.int (0 : Int32)), .val (.int (1 : Int32)), .val (.int (2 : Int32)), .val (.int (Int32.ofNat mm)), .val (.int (Int32.ofNat kk)), .val (.int (1 : Int32)), .val (.int (0 : Int32)), .val (.int (0 : Int32)), .unset] [(.int (1 : Int32))])) tg
        refine XS.goto X8.here hx rfl (pc0 := 184) (pc' := 203) rfl (hb hby at_184) (by decide) (by decide) ?_
        show Steps p.tables e below (T8.setTop (mkF m 203 #[.val (.int p1), .val (.int p2), .val (.int p3), .val (.int p4), .val (.ref b1), .val (.ref d), .val (.int (1 : Int32)), .val (.int (0 : Int32)), .val (.int (1 : Int32)), .val (.int (0 : Int32)), .val (.int (1 : Int32)), .val (.int (2 : Int32)), .val (.int (Int32.ofNat mm)), .val (.int (Int32.ofNat kk)), .val (.int (1 : Int32)), .val (.int (0 : Int32)), .val (.int (0 : Int32)), .unset] [(.int (1 : Int32))])) tg
        refine XS.istore X8.here hx rfl (hb hby at_203) rfl (l' := #[.val (.int p1), .val (.int p2), .val (.int p3), .val (.int p4), .val (.ref b1), .val (.ref d), .val (.int (1 : Int32)), .val (.int (0 : Int32)), .val (.int (1 : Int32)), .val (.int (0 : Int32)), .val (.int (1 : Int32)), .val (.int (2 : Int32)), .val (.int (Int32.ofNat mm)), .val (.int (Int32.ofNat kk)), .val (.int (1 : Int32)), .val (.int (0 : Int32)), .val (.int (0 : Int32)), .val (.int (1 : Int32))]) rfl ?_
        exact kt
      have kk3 : kk ≤ 3 := hTk.1
      exact sg205 hw p1 p2 p3 p4 b1 t1 t2 t3 d kk uk _ (0 : Int32) (1 : Int32) (0 : Int32) (1 : Int32) (2 : Int32) (Int32.ofNat mm) (1 : Int32) (0 : Int32) (0 : Int32) (1 : Int32) K X8 e8 N8 Z7 P_a P_1 P_2 P_3 hTk rfl rfl (own_idx_hit hTk (i := 0) ((own_ltl (e := 0) (by omega) (by omega)).mp hc137) rfl) (own_idx_hit hTk (i := 0) ((own_ltl (e := 0) (by omega) (by omega)).mp hc137) hba.symm) (own_idx_hit hTk (i := 1) ((own_ltl (e := 1) (by omega) (by omega)).mp hc179) rfl)
    · skip
      refine own_seg (T' := T8) (g' := (mkF m 187 #[.val (.int p1), .val (.int p2), .val (.int p3), .val (.int p4), .val (.ref b1), .val (.ref d), .val (.int (1 : Int32)), .val (.int (0 : Int32)), .val (.int (1 : Int32)), .val (.int (0 : Int32)), .val (.int (1 : Int32)), .val (.int (2 : Int32)), .val (.int (Int32.ofNat mm)), .val (.int (Int32.ofNat kk)), .val (.int (1 : Int32)), .val (.int (0 : Int32)), .val (.int (0 : Int32)), .unset] [])) (fun tg kt => XS.icmpYes X8.here hx rfl (pc0 := 179) (pc' := 187) rfl (hb hby at_179) rfl (flt hc179).2.1 (by decide) (by decide) kt) ?_
      refine own_seg (T' := T8) (g' := (mkF m 205 #[.val (.int p1), .val (.int p2), .val (.int p3), .val (.int p4), .val (.ref b1), .val (.ref d), .val (.int (1 : Int32)), .val (.int (0 : Int32)), .val (.int (1 : Int32)), .val (.int (0 : Int32)), .val (.int (1 : Int32)), .val (.int (2 : Int32)), .val (.int (Int32.ofNat mm)), .val (.int (Int32.ofNat kk)), .val (.int (1 : Int32)), .val (.int (0 : Int32)), .val (.int (0 : Int32)), .val (.int (-1 : Int32))] [])) (fun tg kt => ?_) ?_
      · show Steps p.tables e below (T8.setTop (mkF m 187 #[.val (.int p1), .val (.int p2), .val (.int p3), .val (.int p4), .val (.ref b1), .val (.ref d), .val (.int (1 : Int32)), .val (.int (0 : Int32)), .val (.int (1 : Int32)), .val (.int (0 : Int32)), .val (.int (1 : Int32)), .val (.int (2 : Int32)), .val (.int (Int32.ofNat mm)), .val (.int (Int32.ofNat kk)), .val (.int (1 : Int32)), .val (.int (0 : Int32)), .val (.int (0 : Int32)), .unset] [])) tg
        refine XS.iconst X8.here hx rfl (hb hby at_187) ?_
        show Steps p.tables e below (T8.setTop (mkF m 188 #[.val (.int p1), .val (.int p2), .val (.int p3), .val (.int p4), .val (.ref b1), .val (.ref d), .val (.int (1 : Int32)), .val (.int (0 : Int32)), .val (.int (1 : Int32)), .val (.int (0 : Int32)), .val (.int (1 : Int32)), .val (.int (2 : Int32)), .val (.int (Int32.ofNat mm)), .val (.int (Int32.ofNat kk)), .val (.int (1 : Int32)), .val (.int (0 : Int32)), .val (.int (0 : Int32)), .unset] [(.int (-1 : Int32))])) tg
        refine XS.goto X8.here hx rfl (pc0 := 188) (pc' := 203) rfl (hb hby at_188) (by decide) (by decide) ?_
        show Steps p.tables e below (T8.setTop (mkF m 203 #[.val (.int p1), .val (.int p2), .val (.int p3), .val (.int p4), .val (.ref b1), .val (.ref d), .val (.int (1 : Int32)), .val (.int (0 : Int32)), .val (.int (1 : Int32)), .val (.int (0 : Int32)), .val (.int (1 : Int32)), .val (.int (2 : Int32)), .val (.int (Int32.ofNat mm)), .val (.int (Int32.ofNat kk)), .val (.int (1 : Int32)), .val (.int (0 : Int32)), .val (.int (0 : Int32)), .unset] [(.int (-1 : Int32))])) tg
        refine XS.istore X8.here hx rfl (hb hby at_203) rfl (l' := #[.val (.int p1), .val (.int p2), .val (.int p3), .val (.int p4), .val (.ref b1), .val (.ref d), .val (.int (1 : Int32)), .val (.int (0 : Int32)), .val (.int (1 : Int32)), .val (.int (0 : Int32)), .val (.int (1 : Int32)), .val (.int (2 : Int32)), .val (.int (Int32.ofNat mm)), .val (.int (Int32.ofNat kk)), .val (.int (1 : Int32)), .val (.int (0 : Int32)), .val (.int (0 : Int32)), .val (.int (-1 : Int32))]) rfl ?_
        exact kt
      have kk3 : kk ≤ 3 := hTk.1
      exact sg205 hw p1 p2 p3 p4 b1 t1 t2 t3 d kk uk _ (0 : Int32) (1 : Int32) (0 : Int32) (1 : Int32) (2 : Int32) (Int32.ofNat mm) (1 : Int32) (0 : Int32) (0 : Int32) (-1 : Int32) K X8 e8 N8 Z7 P_a P_1 P_2 P_3 hTk rfl rfl (own_idx_hit hTk (i := 0) ((own_ltl (e := 0) (by omega) (by omega)).mp hc137) rfl) (own_idx_hit hTk (i := 0) ((own_ltl (e := 0) (by omega) (by omega)).mp hc137) hba.symm) (own_idx_miss (fun i hi e => by have z : ¬ 1 < kk := fun z => hc179 ((own_ltl (e := 1) (by omega) (by omega)).mpr z); rcases (by omega : i = 0 ∨ i = 1) with rfl | rfl <;> first | omega | exact hba e.symm | exact hca e.symm | exact hcb e.symm))
  · skip
    refine own_seg (T' := T8) (g' := (mkF m 144 #[.val (.int p1), .val (.int p2), .val (.int p3), .val (.int p4), .val (.ref b1), .val (.ref d), .val (.int (1 : Int32)), .val (.int (0 : Int32)), .val (.int (1 : Int32)), .val (.int (0 : Int32)), .val (.int (1 : Int32)), .val (.int (2 : Int32)), .val (.int (Int32.ofNat mm)), .val (.int (Int32.ofNat kk)), .val (.int (1 : Int32)), .unset, .unset, .unset] [])) (fun tg kt => XS.icmpYes X8.here hx rfl (pc0 := 137) (pc' := 144) rfl (hb hby at_137) rfl (flt hc137).2.1 (by decide) (by decide) kt) ?_
    refine own_seg (T' := T8) (g' := (mkF m 149 #[.val (.int p1), .val (.int p2), .val (.int p3), .val (.int p4), .val (.ref b1), .val (.ref d), .val (.int (1 : Int32)), .val (.int (0 : Int32)), .val (.int (1 : Int32)), .val (.int (0 : Int32)), .val (.int (1 : Int32)), .val (.int (2 : Int32)), .val (.int (Int32.ofNat mm)), .val (.int (Int32.ofNat kk)), .val (.int (1 : Int32)), .val (.int (-1 : Int32)), .unset, .unset] [(.int (0 : Int32))])) (fun tg kt => ?_) ?_
    · show Steps p.tables e below (T8.setTop (mkF m 144 #[.val (.int p1), .val (.int p2), .val (.int p3), .val (.int p4), .val (.ref b1), .val (.ref d), .val (.int (1 : Int32)), .val (.int (0 : Int32)), .val (.int (1 : Int32)), .val (.int (0 : Int32)), .val (.int (1 : Int32)), .val (.int (2 : Int32)), .val (.int (Int32.ofNat mm)), .val (.int (Int32.ofNat kk)), .val (.int (1 : Int32)), .unset, .unset, .unset] [])) tg
      refine XS.iconst X8.here hx rfl (hb hby at_144) ?_
      show Steps p.tables e below (T8.setTop (mkF m 145 #[.val (.int p1), .val (.int p2), .val (.int p3), .val (.int p4), .val (.ref b1), .val (.ref d), .val (.int (1 : Int32)), .val (.int (0 : Int32)), .val (.int (1 : Int32)), .val (.int (0 : Int32)), .val (.int (1 : Int32)), .val (.int (2 : Int32)), .val (.int (Int32.ofNat mm)), .val (.int (Int32.ofNat kk)), .val (.int (1 : Int32)), .unset, .unset, .unset] [(.int (-1 : Int32))])) tg
      refine XS.istore X8.here hx rfl (hb hby at_145) rfl (l' := #[.val (.int p1), .val (.int p2), .val (.int p3), .val (.int p4), .val (.ref b1), .val (.ref d), .val (.int (1 : Int32)), .val (.int (0 : Int32)), .val (.int (1 : Int32)), .val (.int (0 : Int32)), .val (.int (1 : Int32)), .val (.int (2 : Int32)), .val (.int (Int32.ofNat mm)), .val (.int (Int32.ofNat kk)), .val (.int (1 : Int32)), .val (.int (-1 : Int32)), .unset, .unset]) rfl ?_
      show Steps p.tables e below (T8.setTop (mkF m 147 #[.val (.int p1), .val (.int p2), .val (.int p3), .val (.int p4), .val (.ref b1), .val (.ref d), .val (.int (1 : Int32)), .val (.int (0 : Int32)), .val (.int (1 : Int32)), .val (.int (0 : Int32)), .val (.int (1 : Int32)), .val (.int (2 : Int32)), .val (.int (Int32.ofNat mm)), .val (.int (Int32.ofNat kk)), .val (.int (1 : Int32)), .val (.int (-1 : Int32)), .unset, .unset] [])) tg
      refine XS.iload X8.here hx rfl (hb hby at_147) rfl ?_
      exact kt
    have hc149 : (0 : Int32) = (0 : Int32) := by decide
    refine own_seg (T' := T8) (g' := (mkF m 166 #[.val (.int p1), .val (.int p2), .val (.int p3), .val (.int p4), .val (.ref b1), .val (.ref d), .val (.int (1 : Int32)), .val (.int (0 : Int32)), .val (.int (1 : Int32)), .val (.int (0 : Int32)), .val (.int (1 : Int32)), .val (.int (2 : Int32)), .val (.int (Int32.ofNat mm)), .val (.int (Int32.ofNat kk)), .val (.int (1 : Int32)), .val (.int (-1 : Int32)), .unset, .unset] [])) (fun tg kt => XS.ifYes X8.here hx rfl (pc0 := 149) (pc' := 166) rfl (hb hby at_149) rfl ((if0 _ _).trans (teq hc149).1) (by decide) (by decide) kt) ?_
    refine own_seg (T' := T8) (g' := (mkF m 172 #[.val (.int p1), .val (.int p2), .val (.int p3), .val (.int p4), .val (.ref b1), .val (.ref d), .val (.int (1 : Int32)), .val (.int (0 : Int32)), .val (.int (1 : Int32)), .val (.int (0 : Int32)), .val (.int (1 : Int32)), .val (.int (2 : Int32)), .val (.int (Int32.ofNat mm)), .val (.int (Int32.ofNat kk)), .val (.int (1 : Int32)), .val (.int (-1 : Int32)), .val (.int (-1 : Int32)), .unset] [(.int (1 : Int32))])) (fun tg kt => ?_) ?_
    · show Steps p.tables e below (T8.setTop (mkF m 166 #[.val (.int p1), .val (.int p2), .val (.int p3), .val (.int p4), .val (.ref b1), .val (.ref d), .val (.int (1 : Int32)), .val (.int (0 : Int32)), .val (.int (1 : Int32)), .val (.int (0 : Int32)), .val (.int (1 : Int32)), .val (.int (2 : Int32)), .val (.int (Int32.ofNat mm)), .val (.int (Int32.ofNat kk)), .val (.int (1 : Int32)), .val (.int (-1 : Int32)), .unset, .unset] [])) tg
      refine XS.iload X8.here hx rfl (hb hby at_166) rfl ?_
      show Steps p.tables e below (T8.setTop (mkF m 168 #[.val (.int p1), .val (.int p2), .val (.int p3), .val (.int p4), .val (.ref b1), .val (.ref d), .val (.int (1 : Int32)), .val (.int (0 : Int32)), .val (.int (1 : Int32)), .val (.int (0 : Int32)), .val (.int (1 : Int32)), .val (.int (2 : Int32)), .val (.int (Int32.ofNat mm)), .val (.int (Int32.ofNat kk)), .val (.int (1 : Int32)), .val (.int (-1 : Int32)), .unset, .unset] [(.int (-1 : Int32))])) tg
      refine XS.istore X8.here hx rfl (hb hby at_168) rfl (l' := #[.val (.int p1), .val (.int p2), .val (.int p3), .val (.int p4), .val (.ref b1), .val (.ref d), .val (.int (1 : Int32)), .val (.int (0 : Int32)), .val (.int (1 : Int32)), .val (.int (0 : Int32)), .val (.int (1 : Int32)), .val (.int (2 : Int32)), .val (.int (Int32.ofNat mm)), .val (.int (Int32.ofNat kk)), .val (.int (1 : Int32)), .val (.int (-1 : Int32)), .val (.int (-1 : Int32)), .unset]) rfl ?_
      show Steps p.tables e below (T8.setTop (mkF m 170 #[.val (.int p1), .val (.int p2), .val (.int p3), .val (.int p4), .val (.ref b1), .val (.ref d), .val (.int (1 : Int32)), .val (.int (0 : Int32)), .val (.int (1 : Int32)), .val (.int (0 : Int32)), .val (.int (1 : Int32)), .val (.int (2 : Int32)), .val (.int (Int32.ofNat mm)), .val (.int (Int32.ofNat kk)), .val (.int (1 : Int32)), .val (.int (-1 : Int32)), .val (.int (-1 : Int32)), .unset] [])) tg
      refine XS.iload X8.here hx rfl (hb hby at_170) rfl ?_
      exact kt
    have hc172 : ¬ ((1 : Int32) = (0 : Int32)) := by decide
    refine own_seg (T' := T8) (g' := (mkF m 175 #[.val (.int p1), .val (.int p2), .val (.int p3), .val (.int p4), .val (.ref b1), .val (.ref d), .val (.int (1 : Int32)), .val (.int (0 : Int32)), .val (.int (1 : Int32)), .val (.int (0 : Int32)), .val (.int (1 : Int32)), .val (.int (2 : Int32)), .val (.int (Int32.ofNat mm)), .val (.int (Int32.ofNat kk)), .val (.int (1 : Int32)), .val (.int (-1 : Int32)), .val (.int (-1 : Int32)), .unset] [])) (fun tg kt => XS.ifNo X8.here hx rfl (hb hby at_172) rfl ((if0 _ _).trans (feq hc172).1) kt) ?_
    refine own_seg (T' := T8) (g' := (mkF m 179 #[.val (.int p1), .val (.int p2), .val (.int p3), .val (.int p4), .val (.ref b1), .val (.ref d), .val (.int (1 : Int32)), .val (.int (0 : Int32)), .val (.int (1 : Int32)), .val (.int (0 : Int32)), .val (.int (1 : Int32)), .val (.int (2 : Int32)), .val (.int (Int32.ofNat mm)), .val (.int (Int32.ofNat kk)), .val (.int (1 : Int32)), .val (.int (-1 : Int32)), .val (.int (-1 : Int32)), .unset] [(.int (Int32.ofNat kk)), (.int (1 : Int32))])) (fun tg kt => ?_) ?_
    · show Steps p.tables e below (T8.setTop (mkF m 175 #[.val (.int p1), .val (.int p2), .val (.int p3), .val (.int p4), .val (.ref b1), .val (.ref d), .val (.int (1 : Int32)), .val (.int (0 : Int32)), .val (.int (1 : Int32)), .val (.int (0 : Int32)), .val (.int (1 : Int32)), .val (.int (2 : Int32)), .val (.int (Int32.ofNat mm)), .val (.int (Int32.ofNat kk)), .val (.int (1 : Int32)), .val (.int (-1 : Int32)), .val (.int (-1 : Int32)), .unset] [])) tg
      refine XS.iload X8.here hx rfl (hb hby at_175) rfl ?_
      show Steps p.tables e below (T8.setTop (mkF m 177 #[.val (.int p1), .val (.int p2), .val (.int p3), .val (.int p4), .val (.ref b1), .val (.ref d), .val (.int (1 : Int32)), .val (.int (0 : Int32)), .val (.int (1 : Int32)), .val (.int (0 : Int32)), .val (.int (1 : Int32)), .val (.int (2 : Int32)), .val (.int (Int32.ofNat mm)), .val (.int (Int32.ofNat kk)), .val (.int (1 : Int32)), .val (.int (-1 : Int32)), .val (.int (-1 : Int32)), .unset] [(.int (1 : Int32))])) tg
      refine XS.iload X8.here hx rfl (hb hby at_177) rfl ?_
      exact kt
    by_cases hc179 : (1 : Int32) < (Int32.ofNat kk)
    · skip
      refine own_seg (T' := T8) (g' := (mkF m 182 #[.val (.int p1), .val (.int p2), .val (.int p3), .val (.int p4), .val (.ref b1), .val (.ref d), .val (.int (1 : Int32)), .val (.int (0 : Int32)), .val (.int (1 : Int32)), .val (.int (0 : Int32)), .val (.int (1 : Int32)), .val (.int (2 : Int32)), .val (.int (Int32.ofNat mm)), .val (.int (Int32.ofNat kk)), .val (.int (1 : Int32)), .val (.int (-1 : Int32)), .val (.int (-1 : Int32)), .unset] [])) (fun tg kt => XS.icmpNo X8.here hx rfl (hb hby at_179) rfl (tlt hc179).2.1 kt) ?_
      refine own_seg (T' := T8) (g' := (mkF m 205 #[.val (.int p1), .val (.int p2), .val (.int p3), .val (.int p4), .val (.ref b1), .val (.ref d), .val (.int (1 : Int32)), .val (.int (0 : Int32)), .val (.int (1 : Int32)), .val (.int (0 : Int32)), .val (.int (1 : Int32)), .val (.int (2 : Int32)), .val (.int (Int32.ofNat mm)), .val (.int (Int32.ofNat kk)), .val (.int (1 : Int32)), .val (.int (-1 : Int32)), .val (.int (-1 : Int32)), .val (.int (1 : Int32))] [])) (fun tg kt => ?_) ?_
      · show Steps p.tables e below (T8.setTop (mkF m 182 #[.val (.int p1), .val (.int p2), .val (.int p3), .val (.int p4), .val (.ref b1), .val (.ref d), .val (.int (1 : Int32)), .val (.int (0 : Int32)), .val (.int (1 : Int32)), .val (.int (0 : Int32)), .val (.int (1 : Int32)), .val (.int (2 : Int32)), .val (.int (Int32.ofNat mm)), .val (.int (Int32.ofNat kk)), .val (.int (1 : Int32)), .val (.int (-1 : Int32)), .val (.int (-1 : Int32)), .unset] [])) tg
        refine XS.iload X8.here hx rfl (hb hby at_182) rfl ?_
        show Steps p.tables e below (T8.setTop (mkF m 184 #[.val (.int p1), .val (.int p2), .val (.int p3), .val (.int p4), .val (.ref b1), .val (.ref d), .val (.int (1 : Int32)), .val (.int (0 : Int32)), .val (.int (1 : Int32)), .val (.int (0 : Int32)), .val (.int (1 : Int32)), .val (.int (2 : Int32)), .val (.int (Int32.ofNat mm)), .val (.int (Int32.ofNat kk)), .val (.int (1 : Int32)), .val (.int (-1 : Int32)), .val (.int (-1 : Int32)), .unset] [(.int (1 : Int32))])) tg
        refine XS.goto X8.here hx rfl (pc0 := 184) (pc' := 203) rfl (hb hby at_184) (by decide) (by decide) ?_
        show Steps p.tables e below (T8.setTop (mkF m 203 #[.val (.int p1), .val (.int p2), .val (.int p3), .val (.int p4), .val (.ref b1), .val (.ref d), .val (.int (1 : Int32)), .val (.int (0 : Int32)), .val (.int (1 : Int32)), .val (.int (0 : Int32)), .val (.int (1 : Int32)), .val (.int (2 : Int32)), .val (.int (Int32.ofNat mm)), .val (.int (Int32.ofNat kk)), .val (.int (1 : Int32)), .val (.int (-1 : Int32)), .val (.int (-1 : Int32)), .unset] [(.int (1 : Int32))])) tg
        refine XS.istore X8.here hx rfl (hb hby at_203) rfl (l' := #[.val (.int p1), .val (.int p2), .val (.int p3), .val (.int p4), .val (.ref b1), .val (.ref d), .val (.int (1 : Int32)), .val (.int (0 : Int32)), .val (.int (1 : Int32)), .val (.int (0 : Int32)), .val (.int (1 : Int32)), .val (.int (2 : Int32)), .val (.int (Int32.ofNat mm)), .val (.int (Int32.ofNat kk)), .val (.int (1 : Int32)), .val (.int (-1 : Int32)), .val (.int (-1 : Int32)), .val (.int (1 : Int32))]) rfl ?_
        exact kt
      have kk3 : kk ≤ 3 := hTk.1
      exact sg205 hw p1 p2 p3 p4 b1 t1 t2 t3 d kk uk _ (0 : Int32) (1 : Int32) (0 : Int32) (1 : Int32) (2 : Int32) (Int32.ofNat mm) (1 : Int32) (-1 : Int32) (-1 : Int32) (1 : Int32) K X8 e8 N8 Z7 P_a P_1 P_2 P_3 hTk rfl rfl (own_idx_miss (fun i hi e => by have z : ¬ 0 < kk := fun z => hc137 ((own_ltl (e := 0) (by omega) (by omega)).mpr z); rcases (by omega : i = 0 ∨ i = 1) with rfl | rfl <;> first | omega | exact hba e.symm | exact hca e.symm | exact hcb e.symm)) (own_idx_miss (fun i hi e => by have z : ¬ 0 < kk := fun z => hc137 ((own_ltl (e := 0) (by omega) (by omega)).mpr z); rcases (by omega : i = 0 ∨ i = 1) with rfl | rfl <;> first | omega | exact hba e.symm | exact hca e.symm | exact hcb e.symm)) (own_idx_hit hTk (i := 1) ((own_ltl (e := 1) (by omega) (by omega)).mp hc179) rfl)
    · skip
      refine own_seg (T' := T8) (g' := (mkF m 187 #[.val (.int p1), .val (.int p2), .val (.int p3), .val (.int p4), .val (.ref b1), .val (.ref d), .val (.int (1 : Int32)), .val (.int (0 : Int32)), .val (.int (1 : Int32)), .val (.int (0 : Int32)), .val (.int (1 : Int32)), .val (.int (2 : Int32)), .val (.int (Int32.ofNat mm)), .val (.int (Int32.ofNat kk)), .val (.int (1 : Int32)), .val (.int (-1 : Int32)), .val (.int (-1 : Int32)), .unset] [])) (fun tg kt => XS.icmpYes X8.here hx rfl (pc0 := 179) (pc' := 187) rfl (hb hby at_179) rfl (flt hc179).2.1 (by decide) (by decide) kt) ?_
      refine own_seg (T' := T8) (g' := (mkF m 205 #[.val (.int p1), .val (.int p2), .val (.int p3), .val (.int p4), .val (.ref b1), .val (.ref d), .val (.int (1 : Int32)), .val (.int (0 : Int32)), .val (.int (1 : Int32)), .val (.int (0 : Int32)), .val (.int (1 : Int32)), .val (.int (2 : Int32)), .val (.int (Int32.ofNat mm)), .val (.int (Int32.ofNat kk)), .val (.int (1 : Int32)), .val (.int (-1 : Int32)), .val (.int (-1 : Int32)), .val (.int (-1 : Int32))] [])) (fun tg kt => ?_) ?_
      · show Steps p.tables e below (T8.setTop (mkF m 187 #[.val (.int p1), .val (.int p2), .val (.int p3), .val (.int p4), .val (.ref b1), .val (.ref d), .val (.int (1 : Int32)), .val (.int (0 : Int32)), .val (.int (1 : Int32)), .val (.int (0 : Int32)), .val (.int (1 : Int32)), .val (.int (2 : Int32)), .val (.int (Int32.ofNat mm)), .val (.int (Int32.ofNat kk)), .val (.int (1 : Int32)), .val (.int (-1 : Int32)), .val (.int (-1 : Int32)), .unset] [])) tg
        refine XS.iconst X8.here hx rfl (hb hby at_187) ?_
        show Steps p.tables e below (T8.setTop (mkF m 188 #[.val (.int p1), .val (.int p2), .val (.int p3), .val (.int p4), .val (.ref b1), .val (.ref d), .val (.int (1 : Int32)), .val (.int (0 : Int32)), .val (.int (1 : Int32)), .val (.int (0 : Int32)), .val (.int (1 : Int32)), .val (.int (2 : Int32)), .val (.int (Int32.ofNat mm)), .val (.int (Int32.ofNat kk)), .val (.int (1 : Int32)), .val (.int (-1 : Int32)), .val (.int (-1 : Int32)), .unset] [(.int (-1 : Int32))])) tg
        refine XS.goto X8.here hx rfl (pc0 := 188) (pc' := 203) rfl (hb hby at_188) (by decide) (by decide) ?_
        show Steps p.tables e below (T8.setTop (mkF m 203 #[.val (.int p1), .val (.int p2), .val (.int p3), .val (.int p4), .val (.ref b1), .val (.ref d), .val (.int (1 : Int32)), .val (.int (0 : Int32)), .val (.int (1 : Int32)), .val (.int (0 : Int32)), .val (.int (1 : Int32)), .val (.int (2 : Int32)), .val (.int (Int32.ofNat mm)), .val (.int (Int32.ofNat kk)), .val (.int (1 : Int32)), .val (.int (-1 : Int32)), .val (.int (-1 : Int32)), .unset] [(.int (-1 : Int32))])) tg
        refine XS.istore X8.here hx rfl (hb hby at_203) rfl (l' := #[.val (.int p1), .val (.int p2), .val (.int p3), .val (.int p4), .val (.ref b1), .val (.ref d), .val (.int (1 : Int32)), .val (.int (0 : Int32)), .val (.int (1 : Int32)), .val (.int (0 : Int32)), .val (.int (1 : Int32)), .val (.int (2 : Int32)), .val (.int (Int32.ofNat mm)), .val (.int (Int32.ofNat kk)), .val (.int (1 : Int32)), .val (.int (-1 : Int32)), .val (.int (-1 : Int32)), .val (.int (-1 : Int32))]) rfl ?_
        exact kt
      have kk3 : kk ≤ 3 := hTk.1
      exact sg205 hw p1 p2 p3 p4 b1 t1 t2 t3 d kk uk _ (0 : Int32) (1 : Int32) (0 : Int32) (1 : Int32) (2 : Int32) (Int32.ofNat mm) (1 : Int32) (-1 : Int32) (-1 : Int32) (-1 : Int32) K X8 e8 N8 Z7 P_a P_1 P_2 P_3 hTk rfl rfl (own_idx_miss (fun i hi e => by have z : ¬ 0 < kk := fun z => hc137 ((own_ltl (e := 0) (by omega) (by omega)).mpr z); rcases (by omega : i = 0 ∨ i = 1) with rfl | rfl <;> first | omega | exact hba e.symm | exact hca e.symm | exact hcb e.symm)) (own_idx_miss (fun i hi e => by have z : ¬ 0 < kk := fun z => hc137 ((own_ltl (e := 0) (by omega) (by omega)).mpr z); rcases (by omega : i = 0 ∨ i = 1) with rfl | rfl <;> first | omega | exact hba e.symm | exact hca e.symm | exact hcb e.symm)) (own_idx_miss (fun i hi e => by have z : ¬ 1 < kk := fun z => hc179 ((own_ltl (e := 1) (by omega) (by omega)).mpr z); rcases (by omega : i = 0 ∨ i = 1) with rfl | rfl <;> first | omega | exact hba e.symm | exact hca e.symm | exact hcb e.symm))
set_option maxRecDepth 65536 in
set_option maxHeartbeats 40000000 in
theorem rm0C (l : Launch) (Z : State) (a0 : Array Value) (hw : ∀ d ∈ tables_1, d.before a0 Z = true) (p1 p2 p3 p4 : Int32) (d : Addr) (h0 : Heap) (n0 : Nat) (Z0 : n0 ≤ h0.size) (hba : ¬ p2 = p1) (hca : p3 = p1) (hOld : Old Z n0 h0) (SE : Sta Z Z.heap "com/example/rhizome/rhizome/tableau/DependencySet" "EMPTY" "Lcom/example/rhizome/rhizome/tableau/DependencySet;" (.ref d)) (XE : Exa Z Z.heap d "com/example/rhizome/rhizome/tableau/DependencySet") :
    own_Met l Z x code maxLocals ret room_1 #[(.int p1), (.int p2), (.int p3), (.int p4)] h0 (own_Q1 n0) := by
  refine own_enter (plainFor_of_name own_pn0) (fun m => by first | (simp [entryFrame, mkF, argsToLocals, Value.category, maxLocals]; done) | rfl) (Ls := #[.val (.int p1), .val (.int p2), .val (.int p3), .val (.int p4), .unset, .unset, .unset, .unset, .unset, .unset, .unset, .unset, .unset, .unset, .unset, .unset, .unset, .unset]) ?_
  intro p e s m below meth c T0 K X0 e0
  have hx := K.1
  have hZ := K.2.1
  have hby := K.2.2.1
  have hown := K.2.2.2.2.1
  have N0 := Fr.nil n0
  show own_Fin p e below _ T0 (mkF m 0 #[.val (.int p1), .val (.int p2), .val (.int p3), .val (.int p4), .unset, .unset, .unset, .unset, .unset, .unset, .unset, .unset, .unset, .unset, .unset, .unset, .unset, .unset] [])
  refine own_newO K X0 e0 (hw _ (List.mem_of_getElem? (i := 0) rfl)) (hw _ (List.mem_of_getElem? (i := 1) rfl)) (hw _ (List.mem_of_getElem? (i := 2) rfl)) at_0 (by decide) (by decide) ?_
  intro T1 h1 b1 g1 X1 e1 E1 A1 D1
  have Od1 := Old.ext hOld E1
  have f_b1 : n0 ≤ b1 := Nat.le_trans Z0 (Nat.le_of_eq g1.symm)
  have Z1 : n0 ≤ h1.size := Nat.le_trans Z0 E1.1
  have O_b1_1 : own_Obj Z h1 b1 "com/example/rhizome/rhizome/tableau/Label" [("com/example/rhizome/rhizome/tableau/Label", "concepts", "[I", .null), ("com/example/rhizome/rhizome/tableau/Label", "dependencies", "[Lcom/example/rhizome/rhizome/tableau/DependencySet;", .null), ("com/example/rhizome/rhizome/tableau/Label", "slots", "[I", .null), ("com/example/rhizome/rhizome/tableau/Label", "size", "I", (.int (0 : Int32)))] := ⟨A1, by
    intro q hq
    simp only [List.mem_cons, List.not_mem_nil, or_false] at hq
    rcases hq with rfl | rfl | rfl | rfl
    · exact D1 (Or.inl (hw _ (List.mem_of_getElem? (i := 11) rfl))) (ty := (.array .int)) (by decide)
    · exact D1 (Or.inl (hw _ (List.mem_of_getElem? (i := 15) rfl))) (ty := (.array (.object "com/example/rhizome/rhizome/tableau/DependencySet"))) (by decide)
    · exact D1 (Or.inl (hw _ (List.mem_of_getElem? (i := 17) rfl))) (ty := (.array .int)) (by decide)
    · exact D1 (Or.inl (hw _ (List.mem_of_getElem? (i := 41) rfl))) (ty := .int) (by decide)⟩
  show own_Fin p e below _ T1 (mkF m 3 #[.val (.int p1), .val (.int p2), .val (.int p3), .val (.int p4), .unset, .unset, .unset, .unset, .unset, .unset, .unset, .unset, .unset, .unset, .unset, .unset, .unset, .unset] [(.ref b1)])
  refine own_seg (T' := T1) (g' := (mkF m 4 #[.val (.int p1), .val (.int p2), .val (.int p3), .val (.int p4), .unset, .unset, .unset, .unset, .unset, .unset, .unset, .unset, .unset, .unset, .unset, .unset, .unset, .unset] [(.ref b1), (.ref b1)])) (fun tg kt => ?_) ?_
  · show Steps p.tables e below (T1.setTop (mkF m 3 #[.val (.int p1), .val (.int p2), .val (.int p3), .val (.int p4), .unset, .unset, .unset, .unset, .unset, .unset, .unset, .unset, .unset, .unset, .unset, .unset, .unset, .unset] [(.ref b1)])) tg
    refine XS.dup X1.here hx rfl (hb hby at_3) rfl rfl ?_
    exact kt
  refine own_callI K X1 e1 (rmI l Z a0 hw b1 h1 n0 Z1 f_b1 O_b1_1) rfl (hw _ (List.mem_of_getElem? (i := 3) rfl)) (hw _ (List.mem_of_getElem? (i := 4) rfl)) (hw _ (List.mem_of_getElem? (i := 2) rfl)) (hw _ (List.mem_of_getElem? (i := 5) rfl)) (by decide) b1 [] [(.ref b1)] own_pd4 rfl rfl rfl rfl at_4 (by decide) (Nat.le_of_ble_eq_true rfl) (by decide) (by decide) ?_
  intro T2 L2 v2 X2 hQ2
  obtain ⟨h2, e2⟩ : ∃ z, T2.heap = z := ⟨_, rfl⟩
  rw [e2] at hQ2
  obtain ⟨t1, t2, t3, rfl, Nq2, Kq2, hD, f_t1, f_t2, f_t3, Oq_a, Oq_1, Oq_2, Oq_3⟩ := hQ2
  have N2 := Fr.app N0 Nq2
  have Od2 := Old.keep Od1 Kq2 (allS f_b1 all0)
  have Z2 : n0 ≤ h2.size := Nat.le_trans Z1 Kq2.1
  show own_Fin p e below _ T2 (mkF m 7 #[.val (.int p1), .val (.int p2), .val (.int p3), .val (.int p4), .unset, .unset, .unset, .unset, .unset, .unset, .unset, .unset, .unset, .unset, .unset, .unset, .unset, .unset] [(.ref b1)])
  refine own_seg (T' := T2) (g' := (mkF m 9 #[.val (.int p1), .val (.int p2), .val (.int p3), .val (.int p4), .val (.ref b1), .unset, .unset, .unset, .unset, .unset, .unset, .unset, .unset, .unset, .unset, .unset, .unset, .unset] [])) (fun tg kt => ?_) ?_
  · show Steps p.tables e below (T2.setTop (mkF m 7 #[.val (.int p1), .val (.int p2), .val (.int p3), .val (.int p4), .unset, .unset, .unset, .unset, .unset, .unset, .unset, .unset, .unset, .unset, .unset, .unset, .unset, .unset] [(.ref b1)])) tg
    refine XS.astore X2.here hx rfl (hb hby at_7) rfl rfl (l' := #[.val (.int p1), .val (.int p2), .val (.int p3), .val (.int p4), .val (.ref b1), .unset, .unset, .unset, .unset, .unset, .unset, .unset, .unset, .unset, .unset, .unset, .unset, .unset]) rfl ?_
    exact kt
  refine own_getS K X2 e2 (host := "") (Or.inl (hw _ (List.mem_of_getElem? (i := 18) rfl))) Via.refl (SE.ext Od2.2) at_9 ?_
  intro T3 X3 e3
  show own_Fin p e below _ T3 (mkF m 12 #[.val (.int p1), .val (.int p2), .val (.int p3), .val (.int p4), .val (.ref b1), .unset, .unset, .unset, .unset, .unset, .unset, .unset, .unset, .unset, .unset, .unset, .unset, .unset] [(.ref d)])
  refine own_seg (T' := T3) (g' := (mkF m 19 #[.val (.int p1), .val (.int p2), .val (.int p3), .val (.int p4), .val (.ref b1), .val (.ref d), .unset, .unset, .unset, .unset, .unset, .unset, .unset, .unset, .unset, .unset, .unset, .unset] [(.ref d), (.int p1), (.ref b1)])) (fun tg kt => ?_) ?_
  · show Steps p.tables e below (T3.setTop (mkF m 12 #[.val (.int p1), .val (.int p2), .val (.int p3), .val (.int p4), .val (.ref b1), .unset, .unset, .unset, .unset, .unset, .unset, .unset, .unset, .unset, .unset, .unset, .unset, .unset] [(.ref d)])) tg
    refine XS.astore X3.here hx rfl (hb hby at_12) rfl rfl (l' := #[.val (.int p1), .val (.int p2), .val (.int p3), .val (.int p4), .val (.ref b1), .val (.ref d), .unset, .unset, .unset, .unset, .unset, .unset, .unset, .unset, .unset, .unset, .unset, .unset]) rfl ?_
    show Steps p.tables e below (T3.setTop (mkF m 14 #[.val (.int p1), .val (.int p2), .val (.int p3), .val (.int p4), .val (.ref b1), .val (.ref d), .unset, .unset, .unset, .unset, .unset, .unset, .unset, .unset, .unset, .unset, .unset, .unset] [])) tg
    refine XS.aload X3.here hx rfl (hb hby at_14) rfl rfl ?_
    show Steps p.tables e below (T3.setTop (mkF m 16 #[.val (.int p1), .val (.int p2), .val (.int p3), .val (.int p4), .val (.ref b1), .val (.ref d), .unset, .unset, .unset, .unset, .unset, .unset, .unset, .unset, .unset, .unset, .unset, .unset] [(.ref b1)])) tg
    refine XS.iloadN X3.here hx rfl (hb hby at_16) rfl ?_
    show Steps p.tables e below (T3.setTop (mkF m 17 #[.val (.int p1), .val (.int p2), .val (.int p3), .val (.int p4), .val (.ref b1), .val (.ref d), .unset, .unset, .unset, .unset, .unset, .unset, .unset, .unset, .unset, .unset, .unset, .unset] [(.int p1), (.ref b1)])) tg
    refine XS.aload X3.here hx rfl (hb hby at_17) rfl rfl ?_
    exact kt
  have hr0 : own_idx (fun _ => (0 : Int32)) 0 p1 = -1 := own_idx_miss (fun i hi e => absurd hi (Nat.not_lt_zero _))
  refine own_callV K X3 e3 (rmA1 l Z a0 hw b1 t1 t2 t3 p1 d 0 (fun _ => (0 : Nat)) (fun _ => (0 : Int32)) h2 n0 Z2 Oq_a Oq_1 Oq_2 Oq_3 (XE.ext Od2.2) (own_Tab0 _) hr0 (by decide) hD f_b1 f_t1 f_t2 f_t3) (hw _ (List.mem_of_getElem? (i := 21) rfl)) (hw _ (List.mem_of_getElem? (i := 22) rfl)) (fun _ q => notFace_of_selects q) (hw _ (List.mem_of_getElem? (i := 24) rfl)) (hw _ (List.mem_of_getElem? (i := 23) rfl)) (hw _ (List.mem_of_getElem? (i := 2) rfl)) (hw _ (List.mem_of_getElem? (i := 25) rfl)) (by decide) b1 Oq_a.exa [(.int p1), (.ref d)] [] own_pd5 rfl rfl rfl rfl at_19 (by decide) (Nat.le_of_ble_eq_true rfl) (by decide) (by decide) ?_
  intro T4 L4 v4 X4 hQ4
  obtain ⟨h4, e4⟩ : ∃ z, T4.heap = z := ⟨_, rfl⟩
  rw [e4] at hQ4
  obtain ⟨rfl, Nq4, Kq4, Oq4_b1, Oq4_t1, Oq4_t2, Oq4_t3⟩ := hQ4
  have N4 := Fr.app N2 Nq4
  have Od4 := Old.keep Od2 Kq4 (allS f_b1 (allS f_t1 (allS f_t2 (allS f_t3 all0))))
  have Z4 : n0 ≤ h4.size := Nat.le_trans Z2 Kq4.1
  have hT1 := own_Tab_add (own_Tab0 _) (by decide) (own_idx_none (by decide) hr0)
  generalize own_un (fun _ => (0 : Nat)) (own_sk (fun _ => (0 : Nat)) 0 4 (own_H p1)) (0 + 1) = u1 at hT1 Oq4_t3
  show own_Fin p e below _ T4 (mkF m 22 #[.val (.int p1), .val (.int p2), .val (.int p3), .val (.int p4), .val (.ref b1), .val (.ref d), .unset, .unset, .unset, .unset, .unset, .unset, .unset, .unset, .unset, .unset, .unset, .unset] [(.int (1 : Int32))])
  refine own_seg (T' := T4) (g' := (mkF m 29 #[.val (.int p1), .val (.int p2), .val (.int p3), .val (.int p4), .val (.ref b1), .val (.ref d), .val (.int (1 : Int32)), .unset, .unset, .unset, .unset, .unset, .unset, .unset, .unset, .unset, .unset, .unset] [(.ref d), (.int p2), (.ref b1)])) (fun tg kt => ?_) ?_
  · show Steps p.tables e below (T4.setTop (mkF m 22 #[.val (.int p1), .val (.int p2), .val (.int p3), .val (.int p4), .val (.ref b1), .val (.ref d), .unset, .unset, .unset, .unset, .unset, .unset, .unset, .unset, .unset, .unset, .unset, .unset] [(.int (1 : Int32))])) tg
    refine XS.istore X4.here hx rfl (hb hby at_22) rfl (l' := #[.val (.int p1), .val (.int p2), .val (.int p3), .val (.int p4), .val (.ref b1), .val (.ref d), .val (.int (1 : Int32)), .unset, .unset, .unset, .unset, .unset, .unset, .unset, .unset, .unset, .unset, .unset]) rfl ?_
    show Steps p.tables e below (T4.setTop (mkF m 24 #[.val (.int p1), .val (.int p2), .val (.int p3), .val (.int p4), .val (.ref b1), .val (.ref d), .val (.int (1 : Int32)), .unset, .unset, .unset, .unset, .unset, .unset, .unset, .unset, .unset, .unset, .unset] [])) tg
    refine XS.aload X4.here hx rfl (hb hby at_24) rfl rfl ?_
    show Steps p.tables e below (T4.setTop (mkF m 26 #[.val (.int p1), .val (.int p2), .val (.int p3), .val (.int p4), .val (.ref b1), .val (.ref d), .val (.int (1 : Int32)), .unset, .unset, .unset, .unset, .unset, .unset, .unset, .unset, .unset, .unset, .unset] [(.ref b1)])) tg
    refine XS.iloadN X4.here hx rfl (hb hby at_26) rfl ?_
    show Steps p.tables e below (T4.setTop (mkF m 27 #[.val (.int p1), .val (.int p2), .val (.int p3), .val (.int p4), .val (.ref b1), .val (.ref d), .val (.int (1 : Int32)), .unset, .unset, .unset, .unset, .unset, .unset, .unset, .unset, .unset, .unset, .unset] [(.int p2), (.ref b1)])) tg
    refine XS.aload X4.here hx rfl (hb hby at_27) rfl rfl ?_
    exact kt
  have hr1 : own_idx (own_up (fun _ => (0 : Int32)) 0 p1) 1 p2 = -1 := own_idx_miss (fun i hi ee => by obtain rfl : i = 0 := (by omega); exact hba ee.symm)
  refine own_callV K X4 e4 (rmA1 l Z a0 hw b1 t1 t2 t3 p2 d 1 u1 (own_up (fun _ => (0 : Int32)) 0 p1) h4 n0 Z4 Oq4_b1 Oq4_t1 Oq4_t2 Oq4_t3 (XE.ext Od4.2) hT1 hr1 (by decide) hD f_b1 f_t1 f_t2 f_t3) (hw _ (List.mem_of_getElem? (i := 21) rfl)) (hw _ (List.mem_of_getElem? (i := 22) rfl)) (fun _ q => notFace_of_selects q) (hw _ (List.mem_of_getElem? (i := 24) rfl)) (hw _ (List.mem_of_getElem? (i := 23) rfl)) (hw _ (List.mem_of_getElem? (i := 2) rfl)) (hw _ (List.mem_of_getElem? (i := 25) rfl)) (by decide) b1 Oq4_b1.exa [(.int p2), (.ref d)] [] own_pd5 rfl rfl rfl rfl at_29 (by decide) (Nat.le_of_ble_eq_true rfl) (by decide) (by decide) ?_
  intro T5 L5 v5 X5 hQ5
  obtain ⟨h5, e5⟩ : ∃ z, T5.heap = z := ⟨_, rfl⟩
  rw [e5] at hQ5
  obtain ⟨rfl, Nq5, Kq5, Oq5_b1, Oq5_t1, Oq5_t2, Oq5_t3⟩ := hQ5
  have N5 := Fr.app N4 Nq5
  have Od5 := Old.keep Od4 Kq5 (allS f_b1 (allS f_t1 (allS f_t2 (allS f_t3 all0))))
  have Z5 : n0 ≤ h5.size := Nat.le_trans Z4 Kq5.1
  have hT2 := own_Tab_add hT1 (by decide) (own_idx_none (by decide) hr1)
  generalize own_un u1 (own_sk u1 0 4 (own_H p2)) (1 + 1) = u2 at hT2 Oq5_t3
  show own_Fin p e below _ T5 (mkF m 32 #[.val (.int p1), .val (.int p2), .val (.int p3), .val (.int p4), .val (.ref b1), .val (.ref d), .val (.int (1 : Int32)), .unset, .unset, .unset, .unset, .unset, .unset, .unset, .unset, .unset, .unset, .unset] [(.int (1 : Int32))])
  refine own_seg (T' := T5) (g' := (mkF m 39 #[.val (.int p1), .val (.int p2), .val (.int p3), .val (.int p4), .val (.ref b1), .val (.ref d), .val (.int (1 : Int32)), .val (.int (1 : Int32)), .unset, .unset, .unset, .unset, .unset, .unset, .unset, .unset, .unset, .unset] [(.ref d), (.int p3), (.ref b1)])) (fun tg kt => ?_) ?_
  · show Steps p.tables e below (T5.setTop (mkF m 32 #[.val (.int p1), .val (.int p2), .val (.int p3), .val (.int p4), .val (.ref b1), .val (.ref d), .val (.int (1 : Int32)), .unset, .unset, .unset, .unset, .unset, .unset, .unset, .unset, .unset, .unset, .unset] [(.int (1 : Int32))])) tg
    refine XS.istore X5.here hx rfl (hb hby at_32) rfl (l' := #[.val (.int p1), .val (.int p2), .val (.int p3), .val (.int p4), .val (.ref b1), .val (.ref d), .val (.int (1 : Int32)), .val (.int (1 : Int32)), .unset, .unset, .unset, .unset, .unset, .unset, .unset, .unset, .unset, .unset]) rfl ?_
    show Steps p.tables e below (T5.setTop (mkF m 34 #[.val (.int p1), .val (.int p2), .val (.int p3), .val (.int p4), .val (.ref b1), .val (.ref d), .val (.int (1 : Int32)), .val (.int (1 : Int32)), .unset, .unset, .unset, .unset, .unset, .unset, .unset, .unset, .unset, .unset] [])) tg
    refine XS.aload X5.here hx rfl (hb hby at_34) rfl rfl ?_
    show Steps p.tables e below (T5.setTop (mkF m 36 #[.val (.int p1), .val (.int p2), .val (.int p3), .val (.int p4), .val (.ref b1), .val (.ref d), .val (.int (1 : Int32)), .val (.int (1 : Int32)), .unset, .unset, .unset, .unset, .unset, .unset, .unset, .unset, .unset, .unset] [(.ref b1)])) tg
    refine XS.iloadN X5.here hx rfl (hb hby at_36) rfl ?_
    show Steps p.tables e below (T5.setTop (mkF m 37 #[.val (.int p1), .val (.int p2), .val (.int p3), .val (.int p4), .val (.ref b1), .val (.ref d), .val (.int (1 : Int32)), .val (.int (1 : Int32)), .unset, .unset, .unset, .unset, .unset, .unset, .unset, .unset, .unset, .unset] [(.int p3), (.ref b1)])) tg
    refine XS.aload X5.here hx rfl (hb hby at_37) rfl rfl ?_
    exact kt
  refine own_callV K X5 e5 (rmA0 l Z a0 hw b1 t1 t2 t3 p3 d 2 u2 (own_up (own_up (fun _ => (0 : Int32)) 0 p1) 1 p2) 0 h5 n0 Z5 Oq5_b1 Oq5_t1 Oq5_t2 Oq5_t3 hT2 (by simp [own_idx, own_up, hca]) (by decide)) (hw _ (List.mem_of_getElem? (i := 21) rfl)) (hw _ (List.mem_of_getElem? (i := 22) rfl)) (fun _ q => notFace_of_selects q) (hw _ (List.mem_of_getElem? (i := 24) rfl)) (hw _ (List.mem_of_getElem? (i := 23) rfl)) (hw _ (List.mem_of_getElem? (i := 2) rfl)) (hw _ (List.mem_of_getElem? (i := 25) rfl)) (by decide) b1 Oq5_b1.exa [(.int p3), (.ref d)] [] own_pd5 rfl rfl rfl rfl at_39 (by decide) (Nat.le_of_ble_eq_true rfl) (by decide) (by decide) ?_
  intro T6 L6 v6 X6 hQ6
  obtain ⟨rfl, Nq6, e6⟩ := hQ6
  have N6 := Fr.app N5 Nq6
  show own_Fin p e below _ T6 (mkF m 42 #[.val (.int p1), .val (.int p2), .val (.int p3), .val (.int p4), .val (.ref b1), .val (.ref d), .val (.int (1 : Int32)), .val (.int (1 : Int32)), .unset, .unset, .unset, .unset, .unset, .unset, .unset, .unset, .unset, .unset] [(.int (0 : Int32))])
  refine own_seg (T' := T6) (g' := (mkF m 46 #[.val (.int p1), .val (.int p2), .val (.int p3), .val (.int p4), .val (.ref b1), .val (.ref d), .val (.int (1 : Int32)), .val (.int (1 : Int32)), .val (.int (0 : Int32)), .unset, .unset, .unset, .unset, .unset, .unset, .unset, .unset, .unset] [(.int p1), (.int p2)])) (fun tg kt => ?_) ?_
  · show Steps p.tables e below (T6.setTop (mkF m 42 #[.val (.int p1), .val (.int p2), .val (.int p3), .val (.int p4), .val (.ref b1), .val (.ref d), .val (.int (1 : Int32)), .val (.int (1 : Int32)), .unset, .unset, .unset, .unset, .unset, .unset, .unset, .unset, .unset, .unset] [(.int (0 : Int32))])) tg
    refine XS.istore X6.here hx rfl (hb hby at_42) rfl (l' := #[.val (.int p1), .val (.int p2), .val (.int p3), .val (.int p4), .val (.ref b1), .val (.ref d), .val (.int (1 : Int32)), .val (.int (1 : Int32)), .val (.int (0 : Int32)), .unset, .unset, .unset, .unset, .unset, .unset, .unset, .unset, .unset]) rfl ?_
    show Steps p.tables e below (T6.setTop (mkF m 44 #[.val (.int p1), .val (.int p2), .val (.int p3), .val (.int p4), .val (.ref b1), .val (.ref d), .val (.int (1 : Int32)), .val (.int (1 : Int32)), .val (.int (0 : Int32)), .unset, .unset, .unset, .unset, .unset, .unset, .unset, .unset, .unset] [])) tg
    refine XS.iloadN X6.here hx rfl (hb hby at_44) rfl ?_
    show Steps p.tables e below (T6.setTop (mkF m 45 #[.val (.int p1), .val (.int p2), .val (.int p3), .val (.int p4), .val (.ref b1), .val (.ref d), .val (.int (1 : Int32)), .val (.int (1 : Int32)), .val (.int (0 : Int32)), .unset, .unset, .unset, .unset, .unset, .unset, .unset, .unset, .unset] [(.int p2)])) tg
    refine XS.iloadN X6.here hx rfl (hb hby at_45) rfl ?_
    exact kt
  have hc46 : ¬ (p2 = p1) := hba
  refine own_seg (T' := T6) (g' := (mkF m 49 #[.val (.int p1), .val (.int p2), .val (.int p3), .val (.int p4), .val (.ref b1), .val (.ref d), .val (.int (1 : Int32)), .val (.int (1 : Int32)), .val (.int (0 : Int32)), .unset, .unset, .unset, .unset, .unset, .unset, .unset, .unset, .unset] [])) (fun tg kt => XS.icmpNo X6.here hx rfl (hb hby at_46) rfl (feq hc46).1 kt) ?_
  refine own_seg (T' := T6) (g' := (mkF m 58 #[.val (.int p1), .val (.int p2), .val (.int p3), .val (.int p4), .val (.ref b1), .val (.ref d), .val (.int (1 : Int32)), .val (.int (1 : Int32)), .val (.int (0 : Int32)), .val (.int (1 : Int32)), .unset, .unset, .unset, .unset, .unset, .unset, .unset, .unset] [(.int p1), (.int p3)])) (fun tg kt => ?_) ?_
  · show Steps p.tables e below (T6.setTop (mkF m 49 #[.val (.int p1), .val (.int p2), .val (.int p3), .val (.int p4), .val (.ref b1), .val (.ref d), .val (.int (1 : Int32)), .val (.int (1 : Int32)), .val (.int (0 : Int32)), .unset, .unset, .unset, .unset, .unset, .unset, .unset, .unset, .unset] [])) tg
    refine XS.iconst X6.here hx rfl (hb hby at_49) ?_
    show Steps p.tables e below (T6.setTop (mkF m 50 #[.val (.int p1), .val (.int p2), .val (.int p3), .val (.int p4), .val (.ref b1), .val (.ref d), .val (.int (1 : Int32)), .val (.int (1 : Int32)), .val (.int (0 : Int32)), .unset, .unset, .unset, .unset, .unset, .unset, .unset, .unset, .unset] [(.int (1 : Int32))])) tg
    refine XS.goto X6.here hx rfl (pc0 := 50) (pc' := 54) rfl (hb hby at_50) (by decide) (by decide) ?_
    show Steps p.tables e below (T6.setTop (mkF m 54 #[.val (.int p1), .val (.int p2), .val (.int p3), .val (.int p4), .val (.ref b1), .val (.ref d), .val (.int (1 : Int32)), .val (.int (1 : Int32)), .val (.int (0 : Int32)), .unset, .unset, .unset, .unset, .unset, .unset, .unset, .unset, .unset] [(.int (1 : Int32))])) tg
    refine XS.istore X6.here hx rfl (hb hby at_54) rfl (l' := #[.val (.int p1), .val (.int p2), .val (.int p3), .val (.int p4), .val (.ref b1), .val (.ref d), .val (.int (1 : Int32)), .val (.int (1 : Int32)), .val (.int (0 : Int32)), .val (.int (1 : Int32)), .unset, .unset, .unset, .unset, .unset, .unset, .unset, .unset]) rfl ?_
    show Steps p.tables e below (T6.setTop (mkF m 56 #[.val (.int p1), .val (.int p2), .val (.int p3), .val (.int p4), .val (.ref b1), .val (.ref d), .val (.int (1 : Int32)), .val (.int (1 : Int32)), .val (.int (0 : Int32)), .val (.int (1 : Int32)), .unset, .unset, .unset, .unset, .unset, .unset, .unset, .unset] [])) tg
    refine XS.iloadN X6.here hx rfl (hb hby at_56) rfl ?_
    show Steps p.tables e below (T6.setTop (mkF m 57 #[.val (.int p1), .val (.int p2), .val (.int p3), .val (.int p4), .val (.ref b1), .val (.ref d), .val (.int (1 : Int32)), .val (.int (1 : Int32)), .val (.int (0 : Int32)), .val (.int (1 : Int32)), .unset, .unset, .unset, .unset, .unset, .unset, .unset, .unset] [(.int p3)])) tg
    refine XS.iloadN X6.here hx rfl (hb hby at_57) rfl ?_
    exact kt
  have hc58 : p3 = p1 := hca
  refine own_seg (T' := T6) (g' := (mkF m 70 #[.val (.int p1), .val (.int p2), .val (.int p3), .val (.int p4), .val (.ref b1), .val (.ref d), .val (.int (1 : Int32)), .val (.int (1 : Int32)), .val (.int (0 : Int32)), .val (.int (1 : Int32)), .unset, .unset, .unset, .unset, .unset, .unset, .unset, .unset] [])) (fun tg kt => XS.icmpYes X6.here hx rfl (pc0 := 58) (pc' := 70) rfl (hb hby at_58) rfl (teq hc58).1 (by decide) (by decide) kt) ?_
  refine own_seg (T' := T6) (g' := (mkF m 76 #[.val (.int p1), .val (.int p2), .val (.int p3), .val (.int p4), .val (.ref b1), .val (.ref d), .val (.int (1 : Int32)), .val (.int (1 : Int32)), .val (.int (0 : Int32)), .val (.int (1 : Int32)), .val (.int (0 : Int32)), .unset, .unset, .unset, .unset, .unset, .unset, .unset] [(.int (1 : Int32)), (.int (1 : Int32))])) (fun tg kt => ?_) ?_
  · show Steps p.tables e below (T6.setTop (mkF m 70 #[.val (.int p1), .val (.int p2), .val (.int p3), .val (.int p4), .val (.ref b1), .val (.ref d), .val (.int (1 : Int32)), .val (.int (1 : Int32)), .val (.int (0 : Int32)), .val (.int (1 : Int32)), .unset, .unset, .unset, .unset, .unset, .unset, .unset, .unset] [])) tg
    refine XS.iconst X6.here hx rfl (hb hby at_70) ?_
    show Steps p.tables e below (T6.setTop (mkF m 71 #[.val (.int p1), .val (.int p2), .val (.int p3), .val (.int p4), .val (.ref b1), .val (.ref d), .val (.int (1 : Int32)), .val (.int (1 : Int32)), .val (.int (0 : Int32)), .val (.int (1 : Int32)), .unset, .unset, .unset, .unset, .unset, .unset, .unset, .unset] [(.int (0 : Int32))])) tg
    refine XS.istore X6.here hx rfl (hb hby at_71) rfl (l' := #[.val (.int p1), .val (.int p2), .val (.int p3), .val (.int p4), .val (.ref b1), .val (.ref d), .val (.int (1 : Int32)), .val (.int (1 : Int32)), .val (.int (0 : Int32)), .val (.int (1 : Int32)), .val (.int (0 : Int32)), .unset, .unset, .unset, .unset, .unset, .unset, .unset]) rfl ?_
    show Steps p.tables e below (T6.setTop (mkF m 73 #[.val (.int p1), .val (.int p2), .val (.int p3), .val (.int p4), .val (.ref b1), .val (.ref d), .val (.int (1 : Int32)), .val (.int (1 : Int32)), .val (.int (0 : Int32)), .val (.int (1 : Int32)), .val (.int (0 : Int32)), .unset, .unset, .unset, .unset, .unset, .unset, .unset] [])) tg
    refine XS.iconst X6.here hx rfl (hb hby at_73) ?_
    show Steps p.tables e below (T6.setTop (mkF m 74 #[.val (.int p1), .val (.int p2), .val (.int p3), .val (.int p4), .val (.ref b1), .val (.ref d), .val (.int (1 : Int32)), .val (.int (1 : Int32)), .val (.int (0 : Int32)), .val (.int (1 : Int32)), .val (.int (0 : Int32)), .unset, .unset, .unset, .unset, .unset, .unset, .unset] [(.int (1 : Int32))])) tg
    refine XS.iload X6.here hx rfl (hb hby at_74) rfl ?_
    exact kt
  have hc76 : ¬ ((1 : Int32) = (0 : Int32)) := by decide
  refine own_seg (T' := T6) (g' := (mkF m 79 #[.val (.int p1), .val (.int p2), .val (.int p3), .val (.int p4), .val (.ref b1), .val (.ref d), .val (.int (1 : Int32)), .val (.int (1 : Int32)), .val (.int (0 : Int32)), .val (.int (1 : Int32)), .val (.int (0 : Int32)), .unset, .unset, .unset, .unset, .unset, .unset, .unset] [(.int (1 : Int32))])) (fun tg kt => XS.ifNo X6.here hx rfl (hb hby at_76) rfl ((if0 _ _).trans (feq hc76).1) kt) ?_
  refine own_seg (T' := T6) (g' := (mkF m 87 #[.val (.int p1), .val (.int p2), .val (.int p3), .val (.int p4), .val (.ref b1), .val (.ref d), .val (.int (1 : Int32)), .val (.int (1 : Int32)), .val (.int (0 : Int32)), .val (.int (1 : Int32)), .val (.int (0 : Int32)), .unset, .unset, .unset, .unset, .unset, .unset, .unset] [(.int (0 : Int32)), (.int (2 : Int32))])) (fun tg kt => ?_) ?_
  · show Steps p.tables e below (T6.setTop (mkF m 79 #[.val (.int p1), .val (.int p2), .val (.int p3), .val (.int p4), .val (.ref b1), .val (.ref d), .val (.int (1 : Int32)), .val (.int (1 : Int32)), .val (.int (0 : Int32)), .val (.int (1 : Int32)), .val (.int (0 : Int32)), .unset, .unset, .unset, .unset, .unset, .unset, .unset] [(.int (1 : Int32))])) tg
    refine XS.iconst X6.here hx rfl (hb hby at_79) ?_
    show Steps p.tables e below (T6.setTop (mkF m 80 #[.val (.int p1), .val (.int p2), .val (.int p3), .val (.int p4), .val (.ref b1), .val (.ref d), .val (.int (1 : Int32)), .val (.int (1 : Int32)), .val (.int (0 : Int32)), .val (.int (1 : Int32)), .val (.int (0 : Int32)), .unset, .unset, .unset, .unset, .unset, .unset, .unset] [(.int (1 : Int32)), (.int (1 : Int32))])) tg
    refine XS.goto X6.here hx rfl (pc0 := 80) (pc' := 84) rfl (hb hby at_80) (by decide) (by decide) ?_
    show Steps p.tables e below (T6.setTop (mkF m 84 #[.val (.int p1), .val (.int p2), .val (.int p3), .val (.int p4), .val (.ref b1), .val (.ref d), .val (.int (1 : Int32)), .val (.int (1 : Int32)), .val (.int (0 : Int32)), .val (.int (1 : Int32)), .val (.int (0 : Int32)), .unset, .unset, .unset, .unset, .unset, .unset, .unset] [(.int (1 : Int32)), (.int (1 : Int32))])) tg
    refine XS.iadd X6.here hx rfl (hb hby at_84) rfl ?_
    show Steps p.tables e below (T6.setTop (mkF m 85 #[.val (.int p1), .val (.int p2), .val (.int p3), .val (.int p4), .val (.ref b1), .val (.ref d), .val (.int (1 : Int32)), .val (.int (1 : Int32)), .val (.int (0 : Int32)), .val (.int (1 : Int32)), .val (.int (0 : Int32)), .unset, .unset, .unset, .unset, .unset, .unset, .unset] [(.int (2 : Int32))])) tg
    refine XS.iload X6.here hx rfl (hb hby at_85) rfl ?_
    exact kt
  have hc87 : (0 : Int32) = (0 : Int32) := by decide
  refine own_seg (T' := T6) (g' := (mkF m 94 #[.val (.int p1), .val (.int p2), .val (.int p3), .val (.int p4), .val (.ref b1), .val (.ref d), .val (.int (1 : Int32)), .val (.int (1 : Int32)), .val (.int (0 : Int32)), .val (.int (1 : Int32)), .val (.int (0 : Int32)), .unset, .unset, .unset, .unset, .unset, .unset, .unset] [(.int (2 : Int32))])) (fun tg kt => XS.ifYes X6.here hx rfl (pc0 := 87) (pc' := 94) rfl (hb hby at_87) rfl ((if0 _ _).trans (teq hc87).1) (by decide) (by decide) kt) ?_
  refine own_seg (T' := T6) (g' := (mkF m 106 #[.val (.int p1), .val (.int p2), .val (.int p3), .val (.int p4), .val (.ref b1), .val (.ref d), .val (.int (1 : Int32)), .val (.int (1 : Int32)), .val (.int (0 : Int32)), .val (.int (1 : Int32)), .val (.int (0 : Int32)), .val (.int (2 : Int32)), .val (.int ((p4 &&& (2147483647 : Int32)) % (5 : Int32))), .unset, .unset, .unset, .unset, .unset] [])) (fun tg kt => ?_) ?_
  · show Steps p.tables e below (T6.setTop (mkF m 94 #[.val (.int p1), .val (.int p2), .val (.int p3), .val (.int p4), .val (.ref b1), .val (.ref d), .val (.int (1 : Int32)), .val (.int (1 : Int32)), .val (.int (0 : Int32)), .val (.int (1 : Int32)), .val (.int (0 : Int32)), .unset, .unset, .unset, .unset, .unset, .unset, .unset] [(.int (2 : Int32))])) tg
    refine XS.iconst X6.here hx rfl (hb hby at_94) ?_
    show Steps p.tables e below (T6.setTop (mkF m 95 #[.val (.int p1), .val (.int p2), .val (.int p3), .val (.int p4), .val (.ref b1), .val (.ref d), .val (.int (1 : Int32)), .val (.int (1 : Int32)), .val (.int (0 : Int32)), .val (.int (1 : Int32)), .val (.int (0 : Int32)), .unset, .unset, .unset, .unset, .unset, .unset, .unset] [(.int (0 : Int32)), (.int (2 : Int32))])) tg
    refine XS.iadd X6.here hx rfl (hb hby at_95) rfl ?_
    show Steps p.tables e below (T6.setTop (mkF m 96 #[.val (.int p1), .val (.int p2), .val (.int p3), .val (.int p4), .val (.ref b1), .val (.ref d), .val (.int (1 : Int32)), .val (.int (1 : Int32)), .val (.int (0 : Int32)), .val (.int (1 : Int32)), .val (.int (0 : Int32)), .unset, .unset, .unset, .unset, .unset, .unset, .unset] [(.int (2 : Int32))])) tg
    refine XS.istore X6.here hx rfl (hb hby at_96) rfl (l' := #[.val (.int p1), .val (.int p2), .val (.int p3), .val (.int p4), .val (.ref b1), .val (.ref d), .val (.int (1 : Int32)), .val (.int (1 : Int32)), .val (.int (0 : Int32)), .val (.int (1 : Int32)), .val (.int (0 : Int32)), .val (.int (2 : Int32)), .unset, .unset, .unset, .unset, .unset, .unset]) rfl ?_
    show Steps p.tables e below (T6.setTop (mkF m 98 #[.val (.int p1), .val (.int p2), .val (.int p3), .val (.int p4), .val (.ref b1), .val (.ref d), .val (.int (1 : Int32)), .val (.int (1 : Int32)), .val (.int (0 : Int32)), .val (.int (1 : Int32)), .val (.int (0 : Int32)), .val (.int (2 : Int32)), .unset, .unset, .unset, .unset, .unset, .unset] [])) tg
    refine XS.iloadN X6.here hx rfl (hb hby at_98) rfl ?_
    show Steps p.tables e below (T6.setTop (mkF m 99 #[.val (.int p1), .val (.int p2), .val (.int p3), .val (.int p4), .val (.ref b1), .val (.ref d), .val (.int (1 : Int32)), .val (.int (1 : Int32)), .val (.int (0 : Int32)), .val (.int (1 : Int32)), .val (.int (0 : Int32)), .val (.int (2 : Int32)), .unset, .unset, .unset, .unset, .unset, .unset] [(.int p4)])) tg
    refine X6.ldcInt hx hown (mvT hZ (hw _ (List.mem_of_getElem? (i := 47) rfl))) (g := (mkF m 99 #[.val (.int p1), .val (.int p2), .val (.int p3), .val (.int p4), .val (.ref b1), .val (.ref d), .val (.int (1 : Int32)), .val (.int (1 : Int32)), .val (.int (0 : Int32)), .val (.int (1 : Int32)), .val (.int (0 : Int32)), .val (.int (2 : Int32)), .unset, .unset, .unset, .unset, .unset, .unset] [(.int p4)])) rfl (hb hby at_99) _ ?_
    show Steps p.tables e below (T6.setTop (mkF m 101 #[.val (.int p1), .val (.int p2), .val (.int p3), .val (.int p4), .val (.ref b1), .val (.ref d), .val (.int (1 : Int32)), .val (.int (1 : Int32)), .val (.int (0 : Int32)), .val (.int (1 : Int32)), .val (.int (0 : Int32)), .val (.int (2 : Int32)), .unset, .unset, .unset, .unset, .unset, .unset] [(.int (2147483647 : Int32)), (.int p4)])) tg
    refine XS.iand X6.here hx rfl (hb hby at_101) rfl ?_
    show Steps p.tables e below (T6.setTop (mkF m 102 #[.val (.int p1), .val (.int p2), .val (.int p3), .val (.int p4), .val (.ref b1), .val (.ref d), .val (.int (1 : Int32)), .val (.int (1 : Int32)), .val (.int (0 : Int32)), .val (.int (1 : Int32)), .val (.int (0 : Int32)), .val (.int (2 : Int32)), .unset, .unset, .unset, .unset, .unset, .unset] [(.int (p4 &&& (2147483647 : Int32)))])) tg
    refine XS.iconst X6.here hx rfl (hb hby at_102) ?_
    show Steps p.tables e below (T6.setTop (mkF m 103 #[.val (.int p1), .val (.int p2), .val (.int p3), .val (.int p4), .val (.ref b1), .val (.ref d), .val (.int (1 : Int32)), .val (.int (1 : Int32)), .val (.int (0 : Int32)), .val (.int (1 : Int32)), .val (.int (0 : Int32)), .val (.int (2 : Int32)), .unset, .unset, .unset, .unset, .unset, .unset] [(.int (5 : Int32)), (.int (p4 &&& (2147483647 : Int32)))])) tg
    refine iremM X6 hx rfl (hb hby at_103) rfl (by decide) ?_
    show Steps p.tables e below (T6.setTop (mkF m 104 #[.val (.int p1), .val (.int p2), .val (.int p3), .val (.int p4), .val (.ref b1), .val (.ref d), .val (.int (1 : Int32)), .val (.int (1 : Int32)), .val (.int (0 : Int32)), .val (.int (1 : Int32)), .val (.int (0 : Int32)), .val (.int (2 : Int32)), .unset, .unset, .unset, .unset, .unset, .unset] [(.int ((p4 &&& (2147483647 : Int32)) % (5 : Int32)))])) tg
    refine XS.istore X6.here hx rfl (hb hby at_104) rfl (l' := #[.val (.int p1), .val (.int p2), .val (.int p3), .val (.int p4), .val (.ref b1), .val (.ref d), .val (.int (1 : Int32)), .val (.int (1 : Int32)), .val (.int (0 : Int32)), .val (.int (1 : Int32)), .val (.int (0 : Int32)), .val (.int (2 : Int32)), .val (.int ((p4 &&& (2147483647 : Int32)) % (5 : Int32))), .unset, .unset, .unset, .unset, .unset]) rfl ?_
    exact kt
  obtain ⟨mm, hmm4, hmm⟩ := own_k5 p4
  rw [hmm]
  refine own_seg (T' := T6) (g' := (mkF m 110 #[.val (.int p1), .val (.int p2), .val (.int p3), .val (.int p4), .val (.ref b1), .val (.ref d), .val (.int (1 : Int32)), .val (.int (1 : Int32)), .val (.int (0 : Int32)), .val (.int (1 : Int32)), .val (.int (0 : Int32)), .val (.int (2 : Int32)), .val (.int (Int32.ofNat mm)), .unset, .unset, .unset, .unset, .unset] [(.int (Int32.ofNat mm)), (.ref b1)])) (fun tg kt => ?_) ?_
  · show Steps p.tables e below (T6.setTop (mkF m 106 #[.val (.int p1), .val (.int p2), .val (.int p3), .val (.int p4), .val (.ref b1), .val (.ref d), .val (.int (1 : Int32)), .val (.int (1 : Int32)), .val (.int (0 : Int32)), .val (.int (1 : Int32)), .val (.int (0 : Int32)), .val (.int (2 : Int32)), .val (.int (Int32.ofNat mm)), .unset, .unset, .unset, .unset, .unset] [])) tg
    refine XS.aload X6.here hx rfl (hb hby at_106) rfl rfl ?_
    show Steps p.tables e below (T6.setTop (mkF m 108 #[.val (.int p1), .val (.int p2), .val (.int p3), .val (.int p4), .val (.ref b1), .val (.ref d), .val (.int (1 : Int32)), .val (.int (1 : Int32)), .val (.int (0 : Int32)), .val (.int (1 : Int32)), .val (.int (0 : Int32)), .val (.int (2 : Int32)), .val (.int (Int32.ofNat mm)), .unset, .unset, .unset, .unset, .unset] [(.ref b1)])) tg
    refine XS.iload X6.here hx rfl (hb hby at_108) rfl ?_
    exact kt
  refine own_callV K X6 e6 (rmT l Z a0 hw b1 t1 t2 t3 mm 2 u2 (own_up (own_up (fun _ => (0 : Int32)) 0 p1) 1 p2) h5 n0 Z5 Oq5_b1 Oq5_t1 Oq5_t2 Oq5_t3 hD f_b1 f_t1 f_t2 f_t3 (by omega) hT2) (hw _ (List.mem_of_getElem? (i := 48) rfl)) (hw _ (List.mem_of_getElem? (i := 49) rfl)) (fun _ q => notFace_of_selects q) (hw _ (List.mem_of_getElem? (i := 51) rfl)) (hw _ (List.mem_of_getElem? (i := 50) rfl)) (hw _ (List.mem_of_getElem? (i := 2) rfl)) (hw _ (List.mem_of_getElem? (i := 52) rfl)) (by decide) b1 Oq5_b1.exa [(.int (Int32.ofNat mm))] [] own_pd2 rfl rfl rfl rfl at_110 (by decide) (Nat.le_of_ble_eq_true rfl) (by decide) (by decide) ?_
  intro T7 L7 v7 X7 hQ7
  obtain ⟨h7, e7⟩ : ∃ z, T7.heap = z := ⟨_, rfl⟩
  rw [e7] at hQ7
  obtain ⟨kk, uk, rfl, Nq7, Kq7, hkk, hTk, P_a, P_1, P_2, P_3⟩ := hQ7
  have N7 := Fr.app N6 Nq7
  have Od7 := Old.keep Od5 Kq7 (allS f_b1 (allS f_t1 (allS f_t2 (allS f_t3 all0))))
  have Z7 : n0 ≤ h7.size := Nat.le_trans Z5 Kq7.1
  show own_Fin p e below _ T7 (mkF m 113 #[.val (.int p1), .val (.int p2), .val (.int p3), .val (.int p4), .val (.ref b1), .val (.ref d), .val (.int (1 : Int32)), .val (.int (1 : Int32)), .val (.int (0 : Int32)), .val (.int (1 : Int32)), .val (.int (0 : Int32)), .val (.int (2 : Int32)), .val (.int (Int32.ofNat mm)), .unset, .unset, .unset, .unset, .unset] [])
  refine own_seg (T' := T7) (g' := (mkF m 117 #[.val (.int p1), .val (.int p2), .val (.int p3), .val (.int p4), .val (.ref b1), .val (.ref d), .val (.int (1 : Int32)), .val (.int (1 : Int32)), .val (.int (0 : Int32)), .val (.int (1 : Int32)), .val (.int (0 : Int32)), .val (.int (2 : Int32)), .val (.int (Int32.ofNat mm)), .unset, .unset, .unset, .unset, .unset] [(.int (Int32.ofNat mm)), (.int (2 : Int32))])) (fun tg kt => ?_) ?_
  · show Steps p.tables e below (T7.setTop (mkF m 113 #[.val (.int p1), .val (.int p2), .val (.int p3), .val (.int p4), .val (.ref b1), .val (.ref d), .val (.int (1 : Int32)), .val (.int (1 : Int32)), .val (.int (0 : Int32)), .val (.int (1 : Int32)), .val (.int (0 : Int32)), .val (.int (2 : Int32)), .val (.int (Int32.ofNat mm)), .unset, .unset, .unset, .unset, .unset] [])) tg
    refine XS.iload X7.here hx rfl (hb hby at_113) rfl ?_
    show Steps p.tables e below (T7.setTop (mkF m 115 #[.val (.int p1), .val (.int p2), .val (.int p3), .val (.int p4), .val (.ref b1), .val (.ref d), .val (.int (1 : Int32)), .val (.int (1 : Int32)), .val (.int (0 : Int32)), .val (.int (1 : Int32)), .val (.int (0 : Int32)), .val (.int (2 : Int32)), .val (.int (Int32.ofNat mm)), .unset, .unset, .unset, .unset, .unset] [(.int (2 : Int32))])) tg
    refine XS.iload X7.here hx rfl (hb hby at_115) rfl ?_
    exact kt
  have hmn : own_min (2 : Int32) (Int32.ofNat mm) = Int32.ofNat kk := by
    rw [hkk]
    rcases (by omega : mm = 0 ∨ mm = 1 ∨ mm = 2 ∨ mm = 3 ∨ mm = 4) with rfl | rfl | rfl | rfl | rfl <;> decide
  refine own_callS K X7 e7 (rmM l Z a0 hw (2 : Int32) (Int32.ofNat mm) h7 n0 Z7) (hw _ (List.mem_of_getElem? (i := 53) rfl)) (hw _ (List.mem_of_getElem? (i := 54) rfl)) (hw _ (List.mem_of_getElem? (i := 55) rfl)) (hw _ (List.mem_of_getElem? (i := 56) rfl)) (by decide) [(.int (2 : Int32)), (.int (Int32.ofNat mm))] [] own_pd6 rfl rfl rfl rfl at_117 (by decide) (Nat.le_of_ble_eq_true rfl) (by decide) (by decide) ?_
  intro T8 L8 v8 X8 hQ8
  obtain ⟨rfl, Nq8, e8⟩ := hQ8
  rw [hmn]
  have N8 := Fr.app N7 Nq8
  show own_Fin p e below _ T8 (mkF m 120 #[.val (.int p1), .val (.int p2), .val (.int p3), .val (.int p4), .val (.ref b1), .val (.ref d), .val (.int (1 : Int32)), .val (.int (1 : Int32)), .val (.int (0 : Int32)), .val (.int (1 : Int32)), .val (.int (0 : Int32)), .val (.int (2 : Int32)), .val (.int (Int32.ofNat mm)), .unset, .unset, .unset, .unset, .unset] [(.int (Int32.ofNat kk))])
  refine own_seg (T' := T8) (g' := (mkF m 124 #[.val (.int p1), .val (.int p2), .val (.int p3), .val (.int p4), .val (.ref b1), .val (.ref d), .val (.int (1 : Int32)), .val (.int (1 : Int32)), .val (.int (0 : Int32)), .val (.int (1 : Int32)), .val (.int (0 : Int32)), .val (.int (2 : Int32)), .val (.int (Int32.ofNat mm)), .val (.int (Int32.ofNat kk)), .unset, .unset, .unset, .unset] [(.int (1 : Int32))])) (fun tg kt => ?_) ?_
  · show Steps p.tables e below (T8.setTop (mkF m 120 #[.val (.int p1), .val (.int p2), .val (.int p3), .val (.int p4), .val (.ref b1), .val (.ref d), .val (.int (1 : Int32)), .val (.int (1 : Int32)), .val (.int (0 : Int32)), .val (.int (1 : Int32)), .val (.int (0 : Int32)), .val (.int (2 : Int32)), .val (.int (Int32.ofNat mm)), .unset, .unset, .unset, .unset, .unset] [(.int (Int32.ofNat kk))])) tg
    refine XS.istore X8.here hx rfl (hb hby at_120) rfl (l' := #[.val (.int p1), .val (.int p2), .val (.int p3), .val (.int p4), .val (.ref b1), .val (.ref d), .val (.int (1 : Int32)), .val (.int (1 : Int32)), .val (.int (0 : Int32)), .val (.int (1 : Int32)), .val (.int (0 : Int32)), .val (.int (2 : Int32)), .val (.int (Int32.ofNat mm)), .val (.int (Int32.ofNat kk)), .unset, .unset, .unset, .unset]) rfl ?_
    show Steps p.tables e below (T8.setTop (mkF m 122 #[.val (.int p1), .val (.int p2), .val (.int p3), .val (.int p4), .val (.ref b1), .val (.ref d), .val (.int (1 : Int32)), .val (.int (1 : Int32)), .val (.int (0 : Int32)), .val (.int (1 : Int32)), .val (.int (0 : Int32)), .val (.int (2 : Int32)), .val (.int (Int32.ofNat mm)), .val (.int (Int32.ofNat kk)), .unset, .unset, .unset, .unset] [])) tg
    refine XS.iload X8.here hx rfl (hb hby at_122) rfl ?_
    exact kt
  have hc124 : ¬ ((1 : Int32) = (0 : Int32)) := by decide
  refine own_seg (T' := T8) (g' := (mkF m 127 #[.val (.int p1), .val (.int p2), .val (.int p3), .val (.int p4), .val (.ref b1), .val (.ref d), .val (.int (1 : Int32)), .val (.int (1 : Int32)), .val (.int (0 : Int32)), .val (.int (1 : Int32)), .val (.int (0 : Int32)), .val (.int (2 : Int32)), .val (.int (Int32.ofNat mm)), .val (.int (Int32.ofNat kk)), .unset, .unset, .unset, .unset] [])) (fun tg kt => XS.ifNo X8.here hx rfl (hb hby at_124) rfl ((if0 _ _).trans (feq hc124).1) kt) ?_
  refine own_seg (T' := T8) (g' := (mkF m 137 #[.val (.int p1), .val (.int p2), .val (.int p3), .val (.int p4), .val (.ref b1), .val (.ref d), .val (.int (1 : Int32)), .val (.int (1 : Int32)), .val (.int (0 : Int32)), .val (.int (1 : Int32)), .val (.int (0 : Int32)), .val (.int (2 : Int32)), .val (.int (Int32.ofNat mm)), .val (.int (Int32.ofNat kk)), .val (.int (2 : Int32)), .unset, .unset, .unset] [(.int (Int32.ofNat kk)), (.int (0 : Int32))])) (fun tg kt => ?_) ?_
  · show Steps p.tables e below (T8.setTop (mkF m 127 #[.val (.int p1), .val (.int p2), .val (.int p3), .val (.int p4), .val (.ref b1), .val (.ref d), .val (.int (1 : Int32)), .val (.int (1 : Int32)), .val (.int (0 : Int32)), .val (.int (1 : Int32)), .val (.int (0 : Int32)), .val (.int (2 : Int32)), .val (.int (Int32.ofNat mm)), .val (.int (Int32.ofNat kk)), .unset, .unset, .unset, .unset] [])) tg
    refine XS.iconst X8.here hx rfl (hb hby at_127) ?_
    show Steps p.tables e below (T8.setTop (mkF m 128 #[.val (.int p1), .val (.int p2), .val (.int p3), .val (.int p4), .val (.ref b1), .val (.ref d), .val (.int (1 : Int32)), .val (.int (1 : Int32)), .val (.int (0 : Int32)), .val (.int (1 : Int32)), .val (.int (0 : Int32)), .val (.int (2 : Int32)), .val (.int (Int32.ofNat mm)), .val (.int (Int32.ofNat kk)), .unset, .unset, .unset, .unset] [(.int (2 : Int32))])) tg
    refine XS.goto X8.here hx rfl (pc0 := 128) (pc' := 132) rfl (hb hby at_128) (by decide) (by decide) ?_
    show Steps p.tables e below (T8.setTop (mkF m 132 #[.val (.int p1), .val (.int p2), .val (.int p3), .val (.int p4), .val (.ref b1), .val (.ref d), .val (.int (1 : Int32)), .val (.int (1 : Int32)), .val (.int (0 : Int32)), .val (.int (1 : Int32)), .val (.int (0 : Int32)), .val (.int (2 : Int32)), .val (.int (Int32.ofNat mm)), .val (.int (Int32.ofNat kk)), .unset, .unset, .unset, .unset] [(.int (2 : Int32))])) tg
    refine XS.istore X8.here hx rfl (hb hby at_132) rfl (l' := #[.val (.int p1), .val (.int p2), .val (.int p3), .val (.int p4), .val (.ref b1), .val (.ref d), .val (.int (1 : Int32)), .val (.int (1 : Int32)), .val (.int (0 : Int32)), .val (.int (1 : Int32)), .val (.int (0 : Int32)), .val (.int (2 : Int32)), .val (.int (Int32.ofNat mm)), .val (.int (Int32.ofNat kk)), .val (.int (2 : Int32)), .unset, .unset, .unset]) rfl ?_
    show Steps p.tables e below (T8.setTop (mkF m 134 #[.val (.int p1), .val (.int p2), .val (.int p3), .val (.int p4), .val (.ref b1), .val (.ref d), .val (.int (1 : Int32)), .val (.int (1 : Int32)), .val (.int (0 : Int32)), .val (.int (1 : Int32)), .val (.int (0 : Int32)), .val (.int (2 : Int32)), .val (.int (Int32.ofNat mm)), .val (.int (Int32.ofNat kk)), .val (.int (2 : Int32)), .unset, .unset, .unset] [])) tg
    refine XS.iconst X8.here hx rfl (hb hby at_134) ?_
    show Steps p.tables e below (T8.setTop (mkF m 135 #[.val (.int p1), .val (.int p2), .val (.int p3), .val (.int p4), .val (.ref b1), .val (.ref d), .val (.int (1 : Int32)), .val (.int (1 : Int32)), .val (.int (0 : Int32)), .val (.int (1 : Int32)), .val (.int (0 : Int32)), .val (.int (2 : Int32)), .val (.int (Int32.ofNat mm)), .val (.int (Int32.ofNat kk)), .val (.int (2 : Int32)), .unset, .unset, .unset] [(.int (0 : Int32))])) tg
    refine XS.iload X8.here hx rfl (hb hby at_135) rfl ?_
    exact kt
  by_cases hc137 : (0 : Int32) < (Int32.ofNat kk)
  · skip
    refine own_seg (T' := T8) (g' := (mkF m 140 #[.val (.int p1), .val (.int p2), .val (.int p3), .val (.int p4), .val (.ref b1), .val (.ref d), .val (.int (1 : Int32)), .val (.int (1 : Int32)), .val (.int (0 : Int32)), .val (.int (1 : Int32)), .val (.int (0 : Int32)), .val (.int (2 : Int32)), .val (.int (Int32.ofNat mm)), .val (.int (Int32.ofNat kk)), .val (.int (2 : Int32)), .unset, .unset, .unset] [])) (fun tg kt => XS.icmpNo X8.here hx rfl (hb hby at_137) rfl (tlt hc137).2.1 kt) ?_
    refine own_seg (T' := T8) (g' := (mkF m 149 #[.val (.int p1), .val (.int p2), .val (.int p3), .val (.int p4), .val (.ref b1), .val (.ref d), .val (.int (1 : Int32)), .val (.int (1 : Int32)), .val (.int (0 : Int32)), .val (.int (1 : Int32)), .val (.int (0 : Int32)), .val (.int (2 : Int32)), .val (.int (Int32.ofNat mm)), .val (.int (Int32.ofNat kk)), .val (.int (2 : Int32)), .val (.int (0 : Int32)), .unset, .unset] [(.int (1 : Int32))])) (fun tg kt => ?_) ?_
    · show Steps p.tables e below (T8.setTop (mkF m 140 #[.val (.int p1), .val (.int p2), .val (.int p3), .val (.int p4), .val (.ref b1), .val (.ref d), .val (.int (1 : Int32)), .val (.int (1 : Int32)), .val (.int (0 : Int32)), .val (.int (1 : Int32)), .val (.int (0 : Int32)), .val (.int (2 : Int32)), .val (.int (Int32.ofNat mm)), .val (.int (Int32.ofNat kk)), .val (.int (2 : Int32)), .unset, .unset, .unset] [])) tg
      refine XS.iconst X8.here hx rfl (hb hby at_140) ?_
      show Steps p.tables e below (T8.setTop (mkF m 141 #[.val (.int p1), .val (.int p2), .val (.int p3), .val (.int p4), .val (.ref b1), .val (.ref d), .val (.int (1 : Int32)), .val (.int (1 : Int32)), .val (.int (0 : Int32)), .val (.int (1 : Int32)), .val (.int (0 : Int32)), .val (.int (2 : Int32)), .val (.int (Int32.ofNat mm)), .val (.int (Int32.ofNat kk)), .val (.int (2 : Int32)), .unset, .unset, .unset] [(.int (0 : Int32))])) tg
      refine XS.goto X8.here hx rfl (pc0 := 141) (pc' := 145) rfl (hb hby at_141) (by decide) (by decide) ?_
      show Steps p.tables e below (T8.setTop (mkF m 145 #[.val (.int p1), .val (.int p2), .val (.int p3), .val (.int p4), .val (.ref b1), .val (.ref d), .val (.int (1 : Int32)), .val (.int (1 : Int32)), .val (.int (0 : Int32)), .val (.int (1 : Int32)), .val (.int (0 : Int32)), .val (.int (2 : Int32)), .val (.int (Int32.ofNat mm)), .val (.int (Int32.ofNat kk)), .val (.int (2 : Int32)), .unset, .unset, .unset] [(.int (0 : Int32))])) tg
      refine XS.istore X8.here hx rfl (hb hby at_145) rfl (l' := #[.val (.int p1), .val (.int p2), .val (.int p3), .val (.int p4), .val (.ref b1), .val (.ref d), .val (.int (1 : Int32)), .val (.int (1 : Int32)), .val (.int (0 : Int32)), .val (.int (1 : Int32)), .val (.int (0 : Int32)), .val (.int (2 : Int32)), .val (.int (Int32.ofNat mm)), .val (.int (Int32.ofNat kk)), .val (.int (2 : Int32)), .val (.int (0 : Int32)), .unset, .unset]) rfl ?_
      show Steps p.tables e below (T8.setTop (mkF m 147 #[.val (.int p1), .val (.int p2), .val (.int p3), .val (.int p4), .val (.ref b1), .val (.ref d), .val (.int (1 : Int32)), .val (.int (1 : Int32)), .val (.int (0 : Int32)), .val (.int (1 : Int32)), .val (.int (0 : Int32)), .val (.int (2 : Int32)), .val (.int (Int32.ofNat mm)), .val (.int (Int32.ofNat kk)), .val (.int (2 : Int32)), .val (.int (0 : Int32)), .unset, .unset] [])) tg
      refine XS.iload X8.here hx rfl (hb hby at_147) rfl ?_
      exact kt
    have hc149 : ¬ ((1 : Int32) = (0 : Int32)) := by decide
    refine own_seg (T' := T8) (g' := (mkF m 152 #[.val (.int p1), .val (.int p2), .val (.int p3), .val (.int p4), .val (.ref b1), .val (.ref d), .val (.int (1 : Int32)), .val (.int (1 : Int32)), .val (.int (0 : Int32)), .val (.int (1 : Int32)), .val (.int (0 : Int32)), .val (.int (2 : Int32)), .val (.int (Int32.ofNat mm)), .val (.int (Int32.ofNat kk)), .val (.int (2 : Int32)), .val (.int (0 : Int32)), .unset, .unset] [])) (fun tg kt => XS.ifNo X8.here hx rfl (hb hby at_149) rfl ((if0 _ _).trans (feq hc149).1) kt) ?_
    refine own_seg (T' := T8) (g' := (mkF m 155 #[.val (.int p1), .val (.int p2), .val (.int p3), .val (.int p4), .val (.ref b1), .val (.ref d), .val (.int (1 : Int32)), .val (.int (1 : Int32)), .val (.int (0 : Int32)), .val (.int (1 : Int32)), .val (.int (0 : Int32)), .val (.int (2 : Int32)), .val (.int (Int32.ofNat mm)), .val (.int (Int32.ofNat kk)), .val (.int (2 : Int32)), .val (.int (0 : Int32)), .unset, .unset] [(.int (Int32.ofNat kk)), (.int (1 : Int32))])) (fun tg kt => ?_) ?_
    · show Steps p.tables e below (T8.setTop (mkF m 152 #[.val (.int p1), .val (.int p2), .val (.int p3), .val (.int p4), .val (.ref b1), .val (.ref d), .val (.int (1 : Int32)), .val (.int (1 : Int32)), .val (.int (0 : Int32)), .val (.int (1 : Int32)), .val (.int (0 : Int32)), .val (.int (2 : Int32)), .val (.int (Int32.ofNat mm)), .val (.int (Int32.ofNat kk)), .val (.int (2 : Int32)), .val (.int (0 : Int32)), .unset, .unset] [])) tg
      refine XS.iconst X8.here hx rfl (hb hby at_152) ?_
      show Steps p.tables e below (T8.setTop (mkF m 153 #[.val (.int p1), .val (.int p2), .val (.int p3), .val (.int p4), .val (.ref b1), .val (.ref d), .val (.int (1 : Int32)), .val (.int (1 : Int32)), .val (.int (0 : Int32)), .val (.int (1 : Int32)), .val (.int (0 : Int32)), .val (.int (2 : Int32)), .val (.int (Int32.ofNat mm)), .val (.int (Int32.ofNat kk)), .val (.int (2 : Int32)), .val (.int (0 : Int32)), .unset, .unset] [(.int (1 : Int32))])) tg
      refine XS.iload X8.here hx rfl (hb hby at_153) rfl ?_
      exact kt
    by_cases hc155 : (1 : Int32) < (Int32.ofNat kk)
    · skip
      refine own_seg (T' := T8) (g' := (mkF m 158 #[.val (.int p1), .val (.int p2), .val (.int p3), .val (.int p4), .val (.ref b1), .val (.ref d), .val (.int (1 : Int32)), .val (.int (1 : Int32)), .val (.int (0 : Int32)), .val (.int (1 : Int32)), .val (.int (0 : Int32)), .val (.int (2 : Int32)), .val (.int (Int32.ofNat mm)), .val (.int (Int32.ofNat kk)), .val (.int (2 : Int32)), .val (.int (0 : Int32)), .unset, .unset] [])) (fun tg kt => XS.icmpNo X8.here hx rfl (hb hby at_155) rfl (tlt hc155).2.1 kt) ?_
      refine own_seg (T' := T8) (g' := (mkF m 172 #[.val (.int p1), .val (.int p2), .val (.int p3), .val (.int p4), .val (.ref b1), .val (.ref d), .val (.int (1 : Int32)), .val (.int (1 : Int32)), .val (.int (0 : Int32)), .val (.int (1 : Int32)), .val (.int (0 : Int32)), .val (.int (2 : Int32)), .val (.int (Int32.ofNat mm)), .val (.int (Int32.ofNat kk)), .val (.int (2 : Int32)), .val (.int (0 : Int32)), .val (.int (1 : Int32)), .unset] [(.int (0 : Int32))])) (fun tg kt => ?_) ?_
      · show Steps p.tables e below (T8.setTop (mkF m 158 #[.val (.int p1), .val (.int p2), .val (.int p3), .val (.int p4), .val (.ref b1), .val (.ref d), .val (.int (1 : Int32)), .val (.int (1 : Int32)), .val (.int (0 : Int32)), .val (.int (1 : Int32)), .val (.int (0 : Int32)), .val (.int (2 : Int32)), .val (.int (Int32.ofNat mm)), .val (.int (Int32.ofNat kk)), .val (.int (2 : Int32)), .val (.int (0 : Int32)), .unset, .unset] [])) tg
        refine XS.iconst X8.here hx rfl (hb hby at_158) ?_
        show Steps p.tables e below (T8.setTop (mkF m 159 #[.val (.int p1), .val (.int p2), .val (.int p3), .val (.int p4), .val (.ref b1), .val (.ref d), .val (.int (1 : Int32)), .val (.int (1 : Int32)), .val (.int (0 : Int32)), .val (.int (1 : Int32)), .val (.int (0 : Int32)), .val (.int (2 : Int32)), .val (.int (Int32.ofNat mm)), .val (.int (Int32.ofNat kk)), .val (.int (2 : Int32)), .val (.int (0 : Int32)), .unset, .unset] [(.int (1 : Int32))])) tg
        refine XS.goto X8.here hx rfl (pc0 := 159) (pc' := 168) rfl (hb hby at_159) (by decide) (by decide) ?_
        show Steps p.tables e below (T8.setTop (mkF m 168 #[.val (.int p1), .val (.int p2), .val (.int p3), .val (.int p4), .val (.ref b1), .val (.ref d), .val (.int (1 : Int32)), .val (.int (1 : Int32)), .val (.int (0 : Int32)), .val (.int (1 : Int32)), .val (.int (0 : Int32)), .val (.int (2 : Int32)), .val (.int (Int32.ofNat mm)), .val (.int (Int32.ofNat kk)), .val (.int (2 : Int32)), .val (.int (0 : Int32)), .unset, .unset] [(.int (1 : Int32))])) tg
        refine XS.istore X8.here hx rfl (hb hby at_168) rfl (l' := #[.val (.int p1), .val (.int p2), .val (.int p3), .val (.int p4), .val (.ref b1), .val (.ref d), .val (.int (1 : Int32)), .val (.int (1 : Int32)), .val (.int (0 : Int32)), .val (.int (1 : Int32)), .val (.int (0 : Int32)), .val (.int (2 : Int32)), .val (.int (Int32.ofNat mm)), .val (.int (Int32.ofNat kk)), .val (.int (2 : Int32)), .val (.int (0 : Int32)), .val (.int (1 : Int32)), .unset]) rfl ?_
        show Steps p.tables e below (T8.setTop (mkF m 170 #[.val (.int p1), .val (.int p2), .val (.int p3), .val (.int p4), .val (.ref b1), .val (.ref d), .val (.int (1 : Int32)), .val (.int (1 : Int32)), .val (.int (0 : Int32)), .val (.int (1 : Int32)), .val (.int (0 : Int32)), .val (.int (2 : Int32)), .val (.int (Int32.ofNat mm)), .val (.int (Int32.ofNat kk)), .val (.int (2 : Int32)), .val (.int (0 : Int32)), .val (.int (1 : Int32)), .unset] [])) tg
        refine XS.iload X8.here hx rfl (hb hby at_170) rfl ?_
        exact kt
      have hc172 : (0 : Int32) = (0 : Int32) := by decide
      refine own_seg (T' := T8) (g' := (mkF m 191 #[.val (.int p1), .val (.int p2), .val (.int p3), .val (.int p4), .val (.ref b1), .val (.ref d), .val (.int (1 : Int32)), .val (.int (1 : Int32)), .val (.int (0 : Int32)), .val (.int (1 : Int32)), .val (.int (0 : Int32)), .val (.int (2 : Int32)), .val (.int (Int32.ofNat mm)), .val (.int (Int32.ofNat kk)), .val (.int (2 : Int32)), .val (.int (0 : Int32)), .val (.int (1 : Int32)), .unset] [])) (fun tg kt => XS.ifYes X8.here hx rfl (pc0 := 172) (pc' := 191) rfl (hb hby at_172) rfl ((if0 _ _).trans (teq hc172).1) (by decide) (by decide) kt) ?_
      refine own_seg (T' := T8) (g' := (mkF m 193 #[.val (.int p1), .val (.int p2), .val (.int p3), .val (.int p4), .val (.ref b1), .val (.ref d), .val (.int (1 : Int32)), .val (.int (1 : Int32)), .val (.int (0 : Int32)), .val (.int (1 : Int32)), .val (.int (0 : Int32)), .val (.int (2 : Int32)), .val (.int (Int32.ofNat mm)), .val (.int (Int32.ofNat kk)), .val (.int (2 : Int32)), .val (.int (0 : Int32)), .val (.int (1 : Int32)), .unset] [(.int p1), (.int p3)])) (fun tg kt => ?_) ?_
      · show Steps p.tables e below (T8.setTop (mkF m 191 #[.val (.int p1), .val (.int p2), .val (.int p3), .val (.int p4), .val (.ref b1), .val (.ref d), .val (.int (1 : Int32)), .val (.int (1 : Int32)), .val (.int (0 : Int32)), .val (.int (1 : Int32)), .val (.int (0 : Int32)), .val (.int (2 : Int32)), .val (.int (Int32.ofNat mm)), .val (.int (Int32.ofNat kk)), .val (.int (2 : Int32)), .val (.int (0 : Int32)), .val (.int (1 : Int32)), .unset] [])) tg
        refine XS.iloadN X8.here hx rfl (hb hby at_191) rfl ?_
        show Steps p.tables e below (T8.setTop (mkF m 192 #[.val (.int p1), .val (.int p2), .val (.int p3), .val (.int p4), .val (.ref b1), .val (.ref d), .val (.int (1 : Int32)), .val (.int (1 : Int32)), .val (.int (0 : Int32)), .val (.int (1 : Int32)), .val (.int (0 : Int32)), .val (.int (2 : Int32)), .val (.int (Int32.ofNat mm)), .val (.int (Int32.ofNat kk)), .val (.int (2 : Int32)), .val (.int (0 : Int32)), .val (.int (1 : Int32)), .unset] [(.int p3)])) tg
        refine XS.iloadN X8.here hx rfl (hb hby at_192) rfl ?_
        exact kt
      have hc193 : p3 = p1 := hca
      refine own_seg (T' := T8) (g' := (mkF m 196 #[.val (.int p1), .val (.int p2), .val (.int p3), .val (.int p4), .val (.ref b1), .val (.ref d), .val (.int (1 : Int32)), .val (.int (1 : Int32)), .val (.int (0 : Int32)), .val (.int (1 : Int32)), .val (.int (0 : Int32)), .val (.int (2 : Int32)), .val (.int (Int32.ofNat mm)), .val (.int (Int32.ofNat kk)), .val (.int (2 : Int32)), .val (.int (0 : Int32)), .val (.int (1 : Int32)), .unset] [])) (fun tg kt => XS.icmpNo X8.here hx rfl (hb hby at_193) rfl (teq hc193).2 kt) ?_
      refine own_seg (T' := T8) (g' := (mkF m 205 #[.val (.int p1), .val (.int p2), .val (.int p3), .val (.int p4), .val (.ref b1), .val (.ref d), .val (.int (1 : Int32)), .val (.int (1 : Int32)), .val (.int (0 : Int32)), .val (.int (1 : Int32)), .val (.int (0 : Int32)), .val (.int (2 : Int32)), .val (.int (Int32.ofNat mm)), .val (.int (Int32.ofNat kk)), .val (.int (2 : Int32)), .val (.int (0 : Int32)), .val (.int (1 : Int32)), .val (.int (0 : Int32))] [])) (fun tg kt => ?_) ?_
      · show Steps p.tables e below (T8.setTop (mkF m 196 #[.val (.int p1), .val (.int p2), .val (.int p3), .val (.int p4), .val (.ref b1), .val (.ref d), .val (.int (1 : Int32)), .val (.int (1 : Int32)), .val (.int (0 : Int32)), .val (.int (1 : Int32)), .val (.int (0 : Int32)), .val (.int (2 : Int32)), .val (.int (Int32.ofNat mm)), .val (.int (Int32.ofNat kk)), .val (.int (2 : Int32)), .val (.int (0 : Int32)), .val (.int (1 : Int32)), .unset] [])) tg
        refine XS.iload X8.here hx rfl (hb hby at_196) rfl ?_
        show Steps p.tables e below (T8.setTop (mkF m 198 #[.val (.int p1), .val (.int p2), .val (.int p3), .val (.int p4), .val (.ref b1), .val (.ref d), .val (.int (1 : Int32)), .val (.int (1 : Int32)), .val (.int (0 : Int32)), .val (.int (1 : Int32)), .val (.int (0 : Int32)), .val (.int (2 : Int32)), .val (.int (Int32.ofNat mm)), .val (.int (Int32.ofNat kk)), .val (.int (2 : Int32)), .val (.int (0 : Int32)), .val (.int (1 : Int32)), .unset] [(.int (0 : Int32))])) tg
        refine XS.goto X8.here hx rfl (pc0 := 198) (pc' := 203) rfl (hb hby at_198) (by decide) (by decide) ?_
        show Steps p.tables e below (T8.setTop (mkF m 203 #[.val (.int p1), .val (.int p2), .val (.int p3), .val (.int p4), .val (.ref b1), .val (.ref d), .val (.int (1 : Int32)), .val (.int (1 : Int32)), .val (.int (0 : Int32)), .val (.int (1 : Int32)), .val (.int (0 : Int32)), .val (.int (2 : Int32)), .val (.int (Int32.ofNat mm)), .val (.int (Int32.ofNat kk)), .val (.int (2 : Int32)), .val (.int (0 : Int32)), .val (.int (1 : Int32)), .unset] [(.int (0 : Int32))])) tg
        refine XS.istore X8.here hx rfl (hb hby at_203) rfl (l' := #[.val (.int p1), .val (.int p2), .val (.int p3), .val (.int p4), .val (.ref b1), .val (.ref d), .val (.int (1 : Int32)), .val (.int (1 : Int32)), .val (.int (0 : Int32)), .val (.int (1 : Int32)), .val (.int (0 : Int32)), .val (.int (2 : Int32)), .val (.int (Int32.ofNat mm)), .val (.int (Int32.ofNat kk)), .val (.int (2 : Int32)), .val (.int (0 : Int32)), .val (.int (1 : Int32)), .val (.int (0 : Int32))]) rfl ?_
        exact kt
      have kk3 : kk ≤ 3 := hTk.1
      exact sg205 hw p1 p2 p3 p4 b1 t1 t2 t3 d kk uk _ (1 : Int32) (0 : Int32) (1 : Int32) (0 : Int32) (2 : Int32) (Int32.ofNat mm) (2 : Int32) (0 : Int32) (1 : Int32) (0 : Int32) K X8 e8 N8 Z7 P_a P_1 P_2 P_3 hTk rfl rfl (own_idx_hit hTk (i := 0) ((own_ltl (e := 0) (by omega) (by omega)).mp hc137) rfl) (own_idx_hit hTk (i := 1) ((own_ltl (e := 1) (by omega) (by omega)).mp hc155) rfl) (own_idx_hit hTk (i := 0) ((own_ltl (e := 0) (by omega) (by omega)).mp hc137) hca.symm)
    · skip
      refine own_seg (T' := T8) (g' := (mkF m 162 #[.val (.int p1), .val (.int p2), .val (.int p3), .val (.int p4), .val (.ref b1), .val (.ref d), .val (.int (1 : Int32)), .val (.int (1 : Int32)), .val (.int (0 : Int32)), .val (.int (1 : Int32)), .val (.int (0 : Int32)), .val (.int (2 : Int32)), .val (.int (Int32.ofNat mm)), .val (.int (Int32.ofNat kk)), .val (.int (2 : Int32)), .val (.int (0 : Int32)), .unset, .unset] [])) (fun tg kt => XS.icmpYes X8.here hx rfl (pc0 := 155) (pc' := 162) rfl (hb hby at_155) rfl (flt hc155).2.1 (by decide) (by decide) kt) ?_
      refine own_seg (T' := T8) (g' := (mkF m 172 #[.val (.int p1), .val (.int p2), .val (.int p3), .val (.int p4), .val (.ref b1), .val (.ref d), .val (.int (1 : Int32)), .val (.int (1 : Int32)), .val (.int (0 : Int32)), .val (.int (1 : Int32)), .val (.int (0 : Int32)), .val (.int (2 : Int32)), .val (.int (Int32.ofNat mm)), .val (.int (Int32.ofNat kk)), .val (.int (2 : Int32)), .val (.int (0 : Int32)), .val (.int (-1 : Int32)), .unset] [(.int (0 : Int32))])) (fun tg kt => ?_) ?_
      · show Steps p.tables e below (T8.setTop (mkF m 162 #[.val (.int p1), .val (.int p2), .val (.int p3), .val (.int p4), .val (.ref b1), .val (.ref d), .val (.int (1 : Int32)), .val (.int (1 : Int32)), .val (.int (0 : Int32)), .val (.int (1 : Int32)), .val (.int (0 : Int32)), .val (.int (2 : Int32)), .val (.int (Int32.ofNat mm)), .val (.int (Int32.ofNat kk)), .val (.int (2 : Int32)), .val (.int (0 : Int32)), .unset, .unset] [])) tg
        refine XS.iconst X8.here hx rfl (hb hby at_162) ?_
        show Steps p.tables e below (T8.setTop (mkF m 163 #[.val (.int p1), .val (.int p2), .val (.int p3), .val (.int p4), .val (.ref b1), .val (.ref d), .val (.int (1 : Int32)), .val (.int (1 : Int32)), .val (.int (0 : Int32)), .val (.int (1 : Int32)), .val (.int (0 : Int32)), .val (.int (2 : Int32)), .val (.int (Int32.ofNat mm)), .val (.int (Int32.ofNat kk)), .val (.int (2 : Int32)), .val (.int (0 : Int32)), .unset, .unset] [(.int (-1 : Int32))])) tg
        refine XS.goto X8.here hx rfl (pc0 := 163) (pc' := 168) rfl (hb hby at_163) (by decide) (by decide) ?_
        show Steps p.tables e below (T8.setTop (mkF m 168 #[.val (.int p1), .val (.int p2), .val (.int p3), .val (.int p4), .val (.ref b1), .val (.ref d), .val (.int (1 : Int32)), .val (.int (1 : Int32)), .val (.int (0 : Int32)), .val (.int (1 : Int32)), .val (.int (0 : Int32)), .val (.int (2 : Int32)), .val (.int (Int32.ofNat mm)), .val (.int (Int32.ofNat kk)), .val (.int (2 : Int32)), .val (.int (0 : Int32)), .unset, .unset] [(.int (-1 : Int32))])) tg
        refine XS.istore X8.here hx rfl (hb hby at_168) rfl (l' := #[.val (.int p1), .val (.int p2), .val (.int p3), .val (.int p4), .val (.ref b1), .val (.ref d), .val (.int (1 : Int32)), .val (.int (1 : Int32)), .val (.int (0 : Int32)), .val (.int (1 : Int32)), .val (.int (0 : Int32)), .val (.int (2 : Int32)), .val (.int (Int32.ofNat mm)), .val (.int (Int32.ofNat kk)), .val (.int (2 : Int32)), .val (.int (0 : Int32)), .val (.int (-1 : Int32)), .unset]) rfl ?_
        show Steps p.tables e below (T8.setTop (mkF m 170 #[.val (.int p1), .val (.int p2), .val (.int p3), .val (.int p4), .val (.ref b1), .val (.ref d), .val (.int (1 : Int32)), .val (.int (1 : Int32)), .val (.int (0 : Int32)), .val (.int (1 : Int32)), .val (.int (0 : Int32)), .val (.int (2 : Int32)), .val (.int (Int32.ofNat mm)), .val (.int (Int32.ofNat kk)), .val (.int (2 : Int32)), .val (.int (0 : Int32)), .val (.int (-1 : Int32)), .unset] [])) tg
        refine XS.iload X8.here hx rfl (hb hby at_170) rfl ?_
        exact kt
      have hc172 : (0 : Int32) = (0 : Int32) := by decide
      refine own_seg (T' := T8) (g' := (mkF m 191 #[.val (.int p1), .val (.int p2), .val (.int p3), .val (.int p4), .val (.ref b1), .val (.ref d), .val (.int (1 : Int32)), .val (.int (1 : Int32)), .val (.int (0 : Int32)), .val (.int (1 : Int32)), .val (.int (0 : Int32)), .val (.int (2 : Int32)), .val (.int (Int32.ofNat mm)), .val (.int (Int32.ofNat kk)), .val (.int (2 : Int32)), .val (.int (0 : Int32)), .val (.int (-1 : Int32)), .unset] [])) (fun tg kt => XS.ifYes X8.here hx rfl (pc0 := 172) (pc' := 191) rfl (hb hby at_172) rfl ((if0 _ _).trans (teq hc172).1) (by decide) (by decide) kt) ?_
      refine own_seg (T' := T8) (g' := (mkF m 193 #[.val (.int p1), .val (.int p2), .val (.int p3), .val (.int p4), .val (.ref b1), .val (.ref d), .val (.int (1 : Int32)), .val (.int (1 : Int32)), .val (.int (0 : Int32)), .val (.int (1 : Int32)), .val (.int (0 : Int32)), .val (.int (2 : Int32)), .val (.int (Int32.ofNat mm)), .val (.int (Int32.ofNat kk)), .val (.int (2 : Int32)), .val (.int (0 : Int32)), .val (.int (-1 : Int32)), .unset] [(.int p1), (.int p3)])) (fun tg kt => ?_) ?_
      · show Steps p.tables e below (T8.setTop (mkF m 191 #[.val (.int p1), .val (.int p2), .val (.int p3), .val (.int p4), .val (.ref b1), .val (.ref d), .val (.int (1 : Int32)), .val (.int (1 : Int32)), .val (.int (0 : Int32)), .val (.int (1 : Int32)), .val (.int (0 : Int32)), .val (.int (2 : Int32)), .val (.int (Int32.ofNat mm)), .val (.int (Int32.ofNat kk)), .val (.int (2 : Int32)), .val (.int (0 : Int32)), .val (.int (-1 : Int32)), .unset] [])) tg
        refine XS.iloadN X8.here hx rfl (hb hby at_191) rfl ?_
        show Steps p.tables e below (T8.setTop (mkF m 192 #[.val (.int p1), .val (.int p2), .val (.int p3), .val (.int p4), .val (.ref b1), .val (.ref d), .val (.int (1 : Int32)), .val (.int (1 : Int32)), .val (.int (0 : Int32)), .val (.int (1 : Int32)), .val (.int (0 : Int32)), .val (.int (2 : Int32)), .val (.int (Int32.ofNat mm)), .val (.int (Int32.ofNat kk)), .val (.int (2 : Int32)), .val (.int (0 : Int32)), .val (.int (-1 : Int32)), .unset] [(.int p3)])) tg
        refine XS.iloadN X8.here hx rfl (hb hby at_192) rfl ?_
        exact kt
      have hc193 : p3 = p1 := hca
      refine own_seg (T' := T8) (g' := (mkF m 196 #[.val (.int p1), .val (.int p2), .val (.int p3), .val (.int p4), .val (.ref b1), .val (.ref d), .val (.int (1 : Int32)), .val (.int (1 : Int32)), .val (.int (0 : Int32)), .val (.int (1 : Int32)), .val (.int (0 : Int32)), .val (.int (2 : Int32)), .val (.int (Int32.ofNat mm)), .val (.int (Int32.ofNat kk)), .val (.int (2 : Int32)), .val (.int (0 : Int32)), .val (.int (-1 : Int32)), .unset] [])) (fun tg kt => XS.icmpNo X8.here hx rfl (hb hby at_193) rfl (teq hc193).2 kt) ?_
      refine own_seg (T' := T8) (g' := (mkF m 205 #[.val (.int p1), .val (.int p2), .val (.int p3), .val (.int p4), .val (.ref b1), .val (.ref d), .val (.int (1 : Int32)), .val (.int (1 : Int32)), .val (.int (0 : Int32)), .val (.int (1 : Int32)), .val (.int (0 : Int32)), .val (.int (2 : Int32)), .val (.int (Int32.ofNat mm)), .val (.int (Int32.ofNat kk)), .val (.int (2 : Int32)), .val (.int (0 : Int32)), .val (.int (-1 : Int32)), .val (.int (0 : Int32))] [])) (fun tg kt => ?_) ?_
      · show Steps p.tables e below (T8.setTop (mkF m 196 #[.val (.int p1), .val (.int p2), .val (.int p3), .val (.int p4), .val (.ref b1), .val (.ref d), .val (.int (1 : Int32)), .val (.int (1 : Int32)), .val (.int (0 : Int32)), .val (.int (1 : Int32)), .val (.int (0 : Int32)), .val (.int (2 : Int32)), .val (.int (Int32.ofNat mm)), .val (.int (Int32.ofNat kk)), .val (.int (2 : Int32)), .val (.int (0 : Int32)), .val (.int (-1 : Int32)), .unset] [])) tg
        refine XS.iload X8.here hx rfl (hb hby at_196) rfl ?_
        show Steps p.tables e below (T8.setTop (mkF m 198 #[.val (.int p1), .val (.int p2), .val (.int p3), .val (.int p4), .val (.ref b1), .val (.ref d), .val (.int (1 : Int32)), .val (.int (1 : Int32)), .val (.int (0 : Int32)), .val (.int (1 : Int32)), .val (.int (0 : Int32)), .val (.int (2 : Int32)), .val (.int (Int32.ofNat mm)), .val (.int (Int32.ofNat kk)), .val (.int (2 : Int32)), .val (.int (0 : Int32)), .val (.int (-1 : Int32)), .unset] [(.int (0 : Int32))])) tg
        refine XS.goto X8.here hx rfl (pc0 := 198) (pc' := 203) rfl (hb hby at_198) (by decide) (by decide) ?_
        show Steps p.tables e below (T8.setTop (mkF m 203 #[.val (.int p1), .val (.int p2), .val (.int p3), .val (.int p4), .val (.ref b1), .val (.ref d), .val (.int (1 : Int32)), .val (.int (1 : Int32)), .val (.int (0 : Int32)), .val (.int (1 : Int32)), .val (.int (0 : Int32)), .val (.int (2 : Int32)), .val (.int (Int32.ofNat mm)), .val (.int (Int32.ofNat kk)), .val (.int (2 : Int32)), .val (.int (0 : Int32)), .val (.int (-1 : Int32)), .unset] [(.int (0 : Int32))])) tg
        refine XS.istore X8.here hx rfl (hb hby at_203) rfl (l' := #[.val (.int p1), .val (.int p2), .val (.int p3), .val (.int p4), .val (.ref b1), .val (.ref d), .val (.int (1 : Int32)), .val (.int (1 : Int32)), .val (.int (0 : Int32)), .val (.int (1 : Int32)), .val (.int (0 : Int32)), .val (.int (2 : Int32)), .val (.int (Int32.ofNat mm)), .val (.int (Int32.ofNat kk)), .val (.int (2 : Int32)), .val (.int (0 : Int32)), .val (.int (-1 : Int32)), .val (.int (0 : Int32))]) rfl ?_
        exact kt
      have kk3 : kk ≤ 3 := hTk.1
      exact sg205 hw p1 p2 p3 p4 b1 t1 t2 t3 d kk uk _ (1 : Int32) (0 : Int32) (1 : Int32) (0 : Int32) (2 : Int32) (Int32.ofNat mm) (2 : Int32) (0 : Int32) (-1 : Int32) (0 : Int32) K X8 e8 N8 Z7 P_a P_1 P_2 P_3 hTk rfl rfl (own_idx_hit hTk (i := 0) ((own_ltl (e := 0) (by omega) (by omega)).mp hc137) rfl) (own_idx_miss (fun i hi e => by have z : ¬ 1 < kk := fun z => hc155 ((own_ltl (e := 1) (by omega) (by omega)).mpr z); rcases (by omega : i = 0 ∨ i = 1) with rfl | rfl <;> first | omega | exact hba e.symm | exact hca e.symm | exact hcb e.symm)) (own_idx_hit hTk (i := 0) ((own_ltl (e := 0) (by omega) (by omega)).mp hc137) hca.symm)
  · skip
    refine own_seg (T' := T8) (g' := (mkF m 144 #[.val (.int p1), .val (.int p2), .val (.int p3), .val (.int p4), .val (.ref b1), .val (.ref d), .val (.int (1 : Int32)), .val (.int (1 : Int32)), .val (.int (0 : Int32)), .val (.int (1 : Int32)), .val (.int (0 : Int32)), .val (.int (2 : Int32)), .val (.int (Int32.ofNat mm)), .val (.int (Int32.ofNat kk)), .val (.int (2 : Int32)), .unset, .unset, .unset] [])) (fun tg kt => XS.icmpYes X8.here hx rfl (pc0 := 137) (pc' := 144) rfl (hb hby at_137) rfl (flt hc137).2.1 (by decide) (by decide) kt) ?_
    refine own_seg (T' := T8) (g' := (mkF m 149 #[.val (.int p1), .val (.int p2), .val (.int p3), .val (.int p4), .val (.ref b1), .val (.ref d), .val (.int (1 : Int32)), .val (.int (1 : Int32)), .val (.int (0 : Int32)), .val (.int (1 : Int32)), .val (.int (0 : Int32)), .val (.int (2 : Int32)), .val (.int (Int32.ofNat mm)), .val (.int (Int32.ofNat kk)), .val (.int (2 : Int32)), .val (.int (-1 : Int32)), .unset, .unset] [(.int (1 : Int32))])) (fun tg kt => ?_) ?_
    · show Steps p.tables e below (T8.setTop (mkF m 144 #[.val (.int p1), .val (.int p2), .val (.int p3), .val (.int p4), .val (.ref b1), .val (.ref d), .val (.int (1 : Int32)), .val (.int (1 : Int32)), .val (.int (0 : Int32)), .val (.int (1 : Int32)), .val (.int (0 : Int32)), .val (.int (2 : Int32)), .val (.int (Int32.ofNat mm)), .val (.int (Int32.ofNat kk)), .val (.int (2 : Int32)), .unset, .unset, .unset] [])) tg
      refine XS.iconst X8.here hx rfl (hb hby at_144) ?_
      show Steps p.tables e below (T8.setTop (mkF m 145 #[.val (.int p1), .val (.int p2), .val (.int p3), .val (.int p4), .val (.ref b1), .val (.ref d), .val (.int (1 : Int32)), .val (.int (1 : Int32)), .val (.int (0 : Int32)), .val (.int (1 : Int32)), .val (.int (0 : Int32)), .val (.int (2 : Int32)), .val (.int (Int32.ofNat mm)), .val (.int (Int32.ofNat kk)), .val (.int (2 : Int32)), .unset, .unset, .unset] [(.int (-1 : Int32))])) tg
      refine XS.istore X8.here hx rfl (hb hby at_145) rfl (l' := #[.val (.int p1), .val (.int p2), .val (.int p3), .val (.int p4), .val (.ref b1), .val (.ref d), .val (.int (1 : Int32)), .val (.int (1 : Int32)), .val (.int (0 : Int32)), .val (.int (1 : Int32)), .val (.int (0 : Int32)), .val (.int (2 : Int32)), .val (.int (Int32.ofNat mm)), .val (.int (Int32.ofNat kk)), .val (.int (2 : Int32)), .val (.int (-1 : Int32)), .unset, .unset]) rfl ?_
      show Steps p.tables e below (T8.setTop (mkF m 147 #[.val (.int p1), .val (.int p2), .val (.int p3), .val (.int p4), .val (.ref b1), .val (.ref d), .val (.int (1 : Int32)), .val (.int (1 : Int32)), .val (.int (0 : Int32)), .val (.int (1 : Int32)), .val (.int (0 : Int32)), .val (.int (2 : Int32)), .val (.int (Int32.ofNat mm)), .val (.int (Int32.ofNat kk)), .val (.int (2 : Int32)), .val (.int (-1 : Int32)), .unset, .unset] [])) tg
      refine XS.iload X8.here hx rfl (hb hby at_147) rfl ?_
      exact kt
    have hc149 : ¬ ((1 : Int32) = (0 : Int32)) := by decide
    refine own_seg (T' := T8) (g' := (mkF m 152 #[.val (.int p1), .val (.int p2), .val (.int p3), .val (.int p4), .val (.ref b1), .val (.ref d), .val (.int (1 : Int32)), .val (.int (1 : Int32)), .val (.int (0 : Int32)), .val (.int (1 : Int32)), .val (.int (0 : Int32)), .val (.int (2 : Int32)), .val (.int (Int32.ofNat mm)), .val (.int (Int32.ofNat kk)), .val (.int (2 : Int32)), .val (.int (-1 : Int32)), .unset, .unset] [])) (fun tg kt => XS.ifNo X8.here hx rfl (hb hby at_149) rfl ((if0 _ _).trans (feq hc149).1) kt) ?_
    refine own_seg (T' := T8) (g' := (mkF m 155 #[.val (.int p1), .val (.int p2), .val (.int p3), .val (.int p4), .val (.ref b1), .val (.ref d), .val (.int (1 : Int32)), .val (.int (1 : Int32)), .val (.int (0 : Int32)), .val (.int (1 : Int32)), .val (.int (0 : Int32)), .val (.int (2 : Int32)), .val (.int (Int32.ofNat mm)), .val (.int (Int32.ofNat kk)), .val (.int (2 : Int32)), .val (.int (-1 : Int32)), .unset, .unset] [(.int (Int32.ofNat kk)), (.int (1 : Int32))])) (fun tg kt => ?_) ?_
    · show Steps p.tables e below (T8.setTop (mkF m 152 #[.val (.int p1), .val (.int p2), .val (.int p3), .val (.int p4), .val (.ref b1), .val (.ref d), .val (.int (1 : Int32)), .val (.int (1 : Int32)), .val (.int (0 : Int32)), .val (.int (1 : Int32)), .val (.int (0 : Int32)), .val (.int (2 : Int32)), .val (.int (Int32.ofNat mm)), .val (.int (Int32.ofNat kk)), .val (.int (2 : Int32)), .val (.int (-1 : Int32)), .unset, .unset] [])) tg
      refine XS.iconst X8.here hx rfl (hb hby at_152) ?_
      show Steps p.tables e below (T8.setTop (mkF m 153 #[.val (.int p1), .val (.int p2), .val (.int p3), .val (.int p4), .val (.ref b1), .val (.ref d), .val (.int (1 : Int32)), .val (.int (1 : Int32)), .val (.int (0 : Int32)), .val (.int (1 : Int32)), .val (.int (0 : Int32)), .val (.int (2 : Int32)), .val (.int (Int32.ofNat mm)), .val (.int (Int32.ofNat kk)), .val (.int (2 : Int32)), .val (.int (-1 : Int32)), .unset, .unset] [(.int (1 : Int32))])) tg
      refine XS.iload X8.here hx rfl (hb hby at_153) rfl ?_
      exact kt
    by_cases hc155 : (1 : Int32) < (Int32.ofNat kk)
    · skip
      refine own_seg (T' := T8) (g' := (mkF m 158 #[.val (.int p1), .val (.int p2), .val (.int p3), .val (.int p4), .val (.ref b1), .val (.ref d), .val (.int (1 : Int32)), .val (.int (1 : Int32)), .val (.int (0 : Int32)), .val (.int (1 : Int32)), .val (.int (0 : Int32)), .val (.int (2 : Int32)), .val (.int (Int32.ofNat mm)), .val (.int (Int32.ofNat kk)), .val (.int (2 : Int32)), .val (.int (-1 : Int32)), .unset, .unset] [])) (fun tg kt => XS.icmpNo X8.here hx rfl (hb hby at_155) rfl (tlt hc155).2.1 kt) ?_
      refine own_seg (T' := T8) (g' := (mkF m 172 #[.val (.int p1), .val (.int p2), .val (.int p3), .val (.int p4), .val (.ref b1), .val (.ref d), .val (.int (1 : Int32)), .val (.int (1 : Int32)), .val (.int (0 : Int32)), .val (.int (1 : Int32)), .val (.int (0 : Int32)), .val (.int (2 : Int32)), .val (.int (Int32.ofNat mm)), .val (.int (Int32.ofNat kk)), .val (.int (2 : Int32)), .val (.int (-1 : Int32)), .val (.int (1 : Int32)), .unset] [(.int (0 : Int32))])) (fun tg kt => ?_) ?_
      · show Steps p.tables e below (T8.setTop (mkF m 158 #[.val (.int p1), .val (.int p2), .val (.int p3), .val (.int p4), .val (.ref b1), .val (.ref d), .val (.int (1 : Int32)), .val (.int (1 : Int32)), .val (.int (0 : Int32)), .val (.int (1 : Int32)), .val (.int (0 : Int32)), .val (.int (2 : Int32)), .val (.int (Int32.ofNat mm)), .val (.int (Int32.ofNat kk)), .val (.int (2 : Int32)), .val (.int (-1 : Int32)), .unset, .unset] [])) tg
        refine XS.iconst X8.here hx rfl (hb hby at_158) ?_
        show Steps p.tables e below (T8.setTop (mkF m 159 #[.val (.int p1), .val (.int p2), .val (.int p3), .val (.int p4), .val (.ref b1), .val (.ref d), .val (.int (1 : Int32)), .val (.int (1 : Int32)), .val (.int (0 : Int32)), .val (.int (1 : Int32)), .val (.int (0 : Int32)), .val (.int (2 : Int32)), .val (.int (Int32.ofNat mm)), .val (.int (Int32.ofNat kk)), .val (.int (2 : Int32)), .val (.int (-1 : Int32)), .unset, .unset] [(.int (1 : Int32))])) tg
        refine XS.goto X8.here hx rfl (pc0 := 159) (pc' := 168) rfl (hb hby at_159) (by decide) (by decide) ?_
        show Steps p.tables e below (T8.setTop (mkF m 168 #[.val (.int p1), .val (.int p2), .val (.int p3), .val (.int p4), .val (.ref b1), .val (.ref d), .val (.int (1 : Int32)), .val (.int (1 : Int32)), .val (.int (0 : Int32)), .val (.int (1 : Int32)), .val (.int (0 : Int32)), .val (.int (2 : Int32)), .val (.int (Int32.ofNat mm)), .val (.int (Int32.ofNat kk)), .val (.int (2 : Int32)), .val (.int (-1 : Int32)), .unset, .unset] [(.int (1 : Int32))])) tg
        refine XS.istore X8.here hx rfl (hb hby at_168) rfl (l' := #[.val (.int p1), .val (.int p2), .val (.int p3), .val (.int p4), .val (.ref b1), .val (.ref d), .val (.int (1 : Int32)), .val (.int (1 : Int32)), .val (.int (0 : Int32)), .val (.int (1 : Int32)), .val (.int (0 : Int32)), .val (.int (2 : Int32)), .val (.int (Int32.ofNat mm)), .val (.int (Int32.ofNat kk)), .val (.int (2 : Int32)), .val (.int (-1 : Int32)), .val (.int (1 : Int32)), .unset]) rfl ?_
        show Steps p.tables e below (T8.setTop (mkF m 170 #[.val (.int p1), .val (.int p2), .val (.int p3), .val (.int p4), .val (.ref b1), .val (.ref d), .val (.int (1 : Int32)), .val (.int (1 : Int32)), .val (.int (0 : Int32)), .val (.int (1 : Int32)), .val (.int (0 : Int32)), .val (.int (2 : Int32)), .val (.int (Int32.ofNat mm)), .val (.int (Int32.ofNat kk)), .val (.int (2 : Int32)), .val (.int (-1 : Int32)), .val (.int (1 : Int32)), .unset] [])) tg
        refine XS.iload X8.here hx rfl (hb hby at_170) rfl ?_
        exact kt
      have hc172 : (0 : Int32) = (0 : Int32) := by decide
      refine own_seg (T' := T8) (g' := (mkF m 191 #[.val (.int p1), .val (.int p2), .val (.int p3), .val (.int p4), .val (.ref b1), .val (.ref d), .val (.int (1 : Int32)), .val (.int (1 : Int32)), .val (.int (0 : Int32)), .val (.int (1 : Int32)), .val (.int (0 : Int32)), .val (.int (2 : Int32)), .val (.int (Int32.ofNat mm)), .val (.int (Int32.ofNat kk)), .val (.int (2 : Int32)), .val (.int (-1 : Int32)), .val (.int (1 : Int32)), .unset] [])) (fun tg kt => XS.ifYes X8.here hx rfl (pc0 := 172) (pc' := 191) rfl (hb hby at_172) rfl ((if0 _ _).trans (teq hc172).1) (by decide) (by decide) kt) ?_
      refine own_seg (T' := T8) (g' := (mkF m 193 #[.val (.int p1), .val (.int p2), .val (.int p3), .val (.int p4), .val (.ref b1), .val (.ref d), .val (.int (1 : Int32)), .val (.int (1 : Int32)), .val (.int (0 : Int32)), .val (.int (1 : Int32)), .val (.int (0 : Int32)), .val (.int (2 : Int32)), .val (.int (Int32.ofNat mm)), .val (.int (Int32.ofNat kk)), .val (.int (2 : Int32)), .val (.int (-1 : Int32)), .val (.int (1 : Int32)), .unset] [(.int p1), (.int p3)])) (fun tg kt => ?_) ?_
      · show Steps p.tables e below (T8.setTop (mkF m 191 #[.val (.int p1), .val (.int p2), .val (.int p3), .val (.int p4), .val (.ref b1), .val (.ref d), .val (.int (1 : Int32)), .val (.int (1 : Int32)), .val (.int (0 : Int32)), .val (.int (1 : Int32)), .val (.int (0 : Int32)), .val (.int (2 : Int32)), .val (.int (Int32.ofNat mm)), .val (.int (Int32.ofNat kk)), .val (.int (2 : Int32)), .val (.int (-1 : Int32)), .val (.int (1 : Int32)), .unset] [])) tg
        refine XS.iloadN X8.here hx rfl (hb hby at_191) rfl ?_
        show Steps p.tables e below (T8.setTop (mkF m 192 #[.val (.int p1), .val (.int p2), .val (.int p3), .val (.int p4), .val (.ref b1), .val (.ref d), .val (.int (1 : Int32)), .val (.int (1 : Int32)), .val (.int (0 : Int32)), .val (.int (1 : Int32)), .val (.int (0 : Int32)), .val (.int (2 : Int32)), .val (.int (Int32.ofNat mm)), .val (.int (Int32.ofNat kk)), .val (.int (2 : Int32)), .val (.int (-1 : Int32)), .val (.int (1 : Int32)), .unset] [(.int p3)])) tg
        refine XS.iloadN X8.here hx rfl (hb hby at_192) rfl ?_
        exact kt
      have hc193 : p3 = p1 := hca
      refine own_seg (T' := T8) (g' := (mkF m 196 #[.val (.int p1), .val (.int p2), .val (.int p3), .val (.int p4), .val (.ref b1), .val (.ref d), .val (.int (1 : Int32)), .val (.int (1 : Int32)), .val (.int (0 : Int32)), .val (.int (1 : Int32)), .val (.int (0 : Int32)), .val (.int (2 : Int32)), .val (.int (Int32.ofNat mm)), .val (.int (Int32.ofNat kk)), .val (.int (2 : Int32)), .val (.int (-1 : Int32)), .val (.int (1 : Int32)), .unset] [])) (fun tg kt => XS.icmpNo X8.here hx rfl (hb hby at_193) rfl (teq hc193).2 kt) ?_
      refine own_seg (T' := T8) (g' := (mkF m 205 #[.val (.int p1), .val (.int p2), .val (.int p3), .val (.int p4), .val (.ref b1), .val (.ref d), .val (.int (1 : Int32)), .val (.int (1 : Int32)), .val (.int (0 : Int32)), .val (.int (1 : Int32)), .val (.int (0 : Int32)), .val (.int (2 : Int32)), .val (.int (Int32.ofNat mm)), .val (.int (Int32.ofNat kk)), .val (.int (2 : Int32)), .val (.int (-1 : Int32)), .val (.int (1 : Int32)), .val (.int (-1 : Int32))] [])) (fun tg kt => ?_) ?_
      · show Steps p.tables e below (T8.setTop (mkF m 196 #[.val (.int p1), .val (.int p2), .val (.int p3), .val (.int p4), .val (.ref b1), .val (.ref d), .val (.int (1 : Int32)), .val (.int (1 : Int32)), .val (.int (0 : Int32)), .val (.int (1 : Int32)), .val (.int (0 : Int32)), .val (.int (2 : Int32)), .val (.int (Int32.ofNat mm)), .val (.int (Int32.ofNat kk)), .val (.int (2 : Int32)), .val (.int (-1 : Int32)), .val (.int (1 : Int32)), .unset] [])) tg
        refine XS.iload X8.here hx rfl (hb hby at_196) rfl ?_
        show Steps p.tables e below (T8.setTop (mkF m 198 #[.val (.int p1), .val (.int p2), .val (.int p3), .val (.int p4), .val (.ref b1), .val (.ref d), .val (.int (1 : Int32)), .val (.int (1 : Int32)), .val (.int (0 : Int32)), .val (.int (1 : Int32)), .val (.int (0 : Int32)), .val (.int (2 : Int32)), .val (.int (Int32.ofNat mm)), .val (.int (Int32.ofNat kk)), .val (.int (2 : Int32)), .val (.int (-1 : Int32)), .val (.int (1 : Int32)), .unset] [(.int (-1 : Int32))])) tg
        refine XS.goto X8.here hx rfl (pc0 := 198) (pc' := 203) rfl (hb hby at_198) (by decide) (by decide) ?_
        show Steps p.tables e below (T8.setTop (mkF m 203 #[.val (.int p1), .val (.int p2), .val (.int p3), .val (.int p4), .val (.ref b1), .val (.ref d), .val (.int (1 : Int32)), .val (.int (1 : Int32)), .val (.int (0 : Int32)), .val (.int (1 : Int32)), .val (.int (0 : Int32)), .val (.int (2 : Int32)), .val (.int (Int32.ofNat mm)), .val (.int (Int32.ofNat kk)), .val (.int (2 : Int32)), .val (.int (-1 : Int32)), .val (.int (1 : Int32)), .unset] [(.int (-1 : Int32))])) tg
        refine XS.istore X8.here hx rfl (hb hby at_203) rfl (l' := #[.val (.int p1), .val (.int p2), .val (.int p3), .val (.int p4), .val (.ref b1), .val (.ref d), .val (.int (1 : Int32)), .val (.int (1 : Int32)), .val (.int (0 : Int32)), .val (.int (1 : Int32)), .val (.int (0 : Int32)), .val (.int (2 : Int32)), .val (.int (Int32.ofNat mm)), .val (.int (Int32.ofNat kk)), .val (.int (2 : Int32)), .val (.int (-1 : Int32)), .val (.int (1 : Int32)), .val (.int (-1 : Int32))]) rfl ?_
        exact kt
      have kk3 : kk ≤ 3 := hTk.1
      exact sg205 hw p1 p2 p3 p4 b1 t1 t2 t3 d kk uk _ (1 : Int32) (0 : Int32) (1 : Int32) (0 : Int32) (2 : Int32) (Int32.ofNat mm) (2 : Int32) (-1 : Int32) (1 : Int32) (-1 : Int32) K X8 e8 N8 Z7 P_a P_1 P_2 P_3 hTk rfl rfl (own_idx_miss (fun i hi e => by have z : ¬ 0 < kk := fun z => hc137 ((own_ltl (e := 0) (by omega) (by omega)).mpr z); rcases (by omega : i = 0 ∨ i = 1) with rfl | rfl <;> first | omega | exact hba e.symm | exact hca e.symm | exact hcb e.symm)) (own_idx_hit hTk (i := 1) ((own_ltl (e := 1) (by omega) (by omega)).mp hc155) rfl) (own_idx_miss (fun i hi e => by have z : ¬ 0 < kk := fun z => hc137 ((own_ltl (e := 0) (by omega) (by omega)).mpr z); rcases (by omega : i = 0 ∨ i = 1) with rfl | rfl <;> first | omega | exact hba e.symm | exact hca e.symm | exact hcb e.symm))
    · skip
      refine own_seg (T' := T8) (g' := (mkF m 162 #[.val (.int p1), .val (.int p2), .val (.int p3), .val (.int p4), .val (.ref b1), .val (.ref d), .val (.int (1 : Int32)), .val (.int (1 : Int32)), .val (.int (0 : Int32)), .val (.int (1 : Int32)), .val (.int (0 : Int32)), .val (.int (2 : Int32)), .val (.int (Int32.ofNat mm)), .val (.int (Int32.ofNat kk)), .val (.int (2 : Int32)), .val (.int (-1 : Int32)), .unset, .unset] [])) (fun tg kt => XS.icmpYes X8.here hx rfl (pc0 := 155) (pc' := 162) rfl (hb hby at_155) rfl (flt hc155).2.1 (by decide) (by decide) kt) ?_
      refine own_seg (T' := T8) (g' := (mkF m 172 #[.val (.int p1), .val (.int p2), .val (.int p3), .val (.int p4), .val (.ref b1), .val (.ref d), .val (.int (1 : Int32)), .val (.int (1 : Int32)), .val (.int (0 : Int32)), .val (.int (1 : Int32)), .val (.int (0 : Int32)), .val (.int (2 : Int32)), .val (.int (Int32.ofNat mm)), .val (.int (Int32.ofNat kk)), .val (.int (2 : Int32)), .val (.int (-1 : Int32)), .val (.int (-1 : Int32)), .unset] [(.int (0 : Int32))])) (fun tg kt => ?_) ?_
      · show Steps p.tables e below (T8.setTop (mkF m 162 #[.val (.int p1), .val (.int p2), .val (.int p3), .val (.int p4), .val (.ref b1), .val (.ref d), .val (.int (1 : Int32)), .val (.int (1 : Int32)), .val (.int (0 : Int32)), .val (.int (1 : Int32)), .val (.int (0 : Int32)), .val (.int (2 : Int32)), .val (.int (Int32.ofNat mm)), .val (.int (Int32.ofNat kk)), .val (.int (2 : Int32)), .val (.int (-1 : Int32)), .unset, .unset] [])) tg
        refine XS.iconst X8.here hx rfl (hb hby at_162) ?_
        show Steps p.tables e below (T8.setTop (mkF m 163 #[.val (.int p1), .val (.int p2), .val (.int p3), .val (.int p4), .val (.ref b1), .val (.ref d), .val (.int (1 : Int32)), .val (.int (1 : Int32)), .val (.int (0 : Int32)), .val (.int (1 : Int32)), .val (.int (0 : Int32)), .val (.int (2 : Int32)), .val (.int (Int32.ofNat mm)), .val (.int (Int32.ofNat kk)), .val (.int (2 : Int32)), .val (.int (-1 : Int32)), .unset, .unset] [(.int (-1 : Int32))])) tg
        refine XS.goto X8.here hx rfl (pc0 := 163) (pc' := 168) rfl (hb hby at_163) (by decide) (by decide) ?_
        show Steps p.tables e below (T8.setTop (mkF m 168 #[.val (.int p1), .val (.int p2), .val (.int p3), .val (.int p4), .val (.ref b1), .val (.ref d), .val (.int (1 : Int32)), .val (.int (1 : Int32)), .val (.int (0 : Int32)), .val (.int (1 : Int32)), .val (.int (0 : Int32)), .val (.int (2 : Int32)), .val (.int (Int32.ofNat mm)), .val (.int (Int32.ofNat kk)), .val (.int (2 : Int32)), .val (.int (-1 : Int32)), .unset, .unset] [(.int (-1 : Int32))])) tg
        refine XS.istore X8.here hx rfl (hb hby at_168) rfl (l' := #[.val (.int p1), .val (.int p2), .val (.int p3), .val (.int p4), .val (.ref b1), .val (.ref d), .val (.int (1 : Int32)), .val (.int (1 : Int32)), .val (.int (0 : Int32)), .val (.int (1 : Int32)), .val (.int (0 : Int32)), .val (.int (2 : Int32)), .val (.int (Int32.ofNat mm)), .val (.int (Int32.ofNat kk)), .val (.int (2 : Int32)), .val (.int (-1 : Int32)), .val (.int (-1 : Int32)), .unset]) rfl ?_
        show Steps p.tables e below (T8.setTop (mkF m 170 #[.val (.int p1), .val (.int p2), .val (.int p3), .val (.int p4), .val (.ref b1), .val (.ref d), .val (.int (1 : Int32)), .val (.int (1 : Int32)), .val (.int (0 : Int32)), .val (.int (1 : Int32)), .val (.int (0 : Int32)), .val (.int (2 : Int32)), .val (.int (Int32.ofNat mm)), .val (.int (Int32.ofNat kk)), .val (.int (2 : Int32)), .val (.int (-1 : Int32)), .val (.int (-1 : Int32)), .unset] [])) tg
        refine XS.iload X8.here hx rfl (hb hby at_170) rfl ?_
        exact kt
      have hc172 : (0 : Int32) = (0 : Int32) := by decide
      refine own_seg (T' := T8) (g' := (mkF m 191 #[.val (.int p1), .val (.int p2), .val (.int p3), .val (.int p4), .val (.ref b1), .val (.ref d), .val (.int (1 : Int32)), .val (.int (1 : Int32)), .val (.int (0 : Int32)), .val (.int (1 : Int32)), .val (.int (0 : Int32)), .val (.int (2 : Int32)), .val (.int (Int32.ofNat mm)), .val (.int (Int32.ofNat kk)), .val (.int (2 : Int32)), .val (.int (-1 : Int32)), .val (.int (-1 : Int32)), .unset] [])) (fun tg kt => XS.ifYes X8.here hx rfl (pc0 := 172) (pc' := 191) rfl (hb hby at_172) rfl ((if0 _ _).trans (teq hc172).1) (by decide) (by decide) kt) ?_
      refine own_seg (T' := T8) (g' := (mkF m 193 #[.val (.int p1), .val (.int p2), .val (.int p3), .val (.int p4), .val (.ref b1), .val (.ref d), .val (.int (1 : Int32)), .val (.int (1 : Int32)), .val (.int (0 : Int32)), .val (.int (1 : Int32)), .val (.int (0 : Int32)), .val (.int (2 : Int32)), .val (.int (Int32.ofNat mm)), .val (.int (Int32.ofNat kk)), .val (.int (2 : Int32)), .val (.int (-1 : Int32)), .val (.int (-1 : Int32)), .unset] [(.int p1), (.int p3)])) (fun tg kt => ?_) ?_
      · show Steps p.tables e below (T8.setTop (mkF m 191 #[.val (.int p1), .val (.int p2), .val (.int p3), .val (.int p4), .val (.ref b1), .val (.ref d), .val (.int (1 : Int32)), .val (.int (1 : Int32)), .val (.int (0 : Int32)), .val (.int (1 : Int32)), .val (.int (0 : Int32)), .val (.int (2 : Int32)), .val (.int (Int32.ofNat mm)), .val (.int (Int32.ofNat kk)), .val (.int (2 : Int32)), .val (.int (-1 : Int32)), .val (.int (-1 : Int32)), .unset] [])) tg
        refine XS.iloadN X8.here hx rfl (hb hby at_191) rfl ?_
        show Steps p.tables e below (T8.setTop (mkF m 192 #[.val (.int p1), .val (.int p2), .val (.int p3), .val (.int p4), .val (.ref b1), .val (.ref d), .val (.int (1 : Int32)), .val (.int (1 : Int32)), .val (.int (0 : Int32)), .val (.int (1 : Int32)), .val (.int (0 : Int32)), .val (.int (2 : Int32)), .val (.int (Int32.ofNat mm)), .val (.int (Int32.ofNat kk)), .val (.int (2 : Int32)), .val (.int (-1 : Int32)), .val (.int (-1 : Int32)), .unset] [(.int p3)])) tg
        refine XS.iloadN X8.here hx rfl (hb hby at_192) rfl ?_
        exact kt
      have hc193 : p3 = p1 := hca
      refine own_seg (T' := T8) (g' := (mkF m 196 #[.val (.int p1), .val (.int p2), .val (.int p3), .val (.int p4), .val (.ref b1), .val (.ref d), .val (.int (1 : Int32)), .val (.int (1 : Int32)), .val (.int (0 : Int32)), .val (.int (1 : Int32)), .val (.int (0 : Int32)), .val (.int (2 : Int32)), .val (.int (Int32.ofNat mm)), .val (.int (Int32.ofNat kk)), .val (.int (2 : Int32)), .val (.int (-1 : Int32)), .val (.int (-1 : Int32)), .unset] [])) (fun tg kt => XS.icmpNo X8.here hx rfl (hb hby at_193) rfl (teq hc193).2 kt) ?_
      refine own_seg (T' := T8) (g' := (mkF m 205 #[.val (.int p1), .val (.int p2), .val (.int p3), .val (.int p4), .val (.ref b1), .val (.ref d), .val (.int (1 : Int32)), .val (.int (1 : Int32)), .val (.int (0 : Int32)), .val (.int (1 : Int32)), .val (.int (0 : Int32)), .val (.int (2 : Int32)), .val (.int (Int32.ofNat mm)), .val (.int (Int32.ofNat kk)), .val (.int (2 : Int32)), .val (.int (-1 : Int32)), .val (.int (-1 : Int32)), .val (.int (-1 : Int32))] [])) (fun tg kt => ?_) ?_
      · show Steps p.tables e below (T8.setTop (mkF m 196 #[.val (.int p1), .val (.int p2), .val (.int p3), .val (.int p4), .val (.ref b1), .val (.ref d), .val (.int (1 : Int32)), .val (.int (1 : Int32)), .val (.int (0 : Int32)), .val (.int (1 : Int32)), .val (.int (0 : Int32)), .val (.int (2 : Int32)), .val (.int (Int32.ofNat mm)), .val (.int (Int32.ofNat kk)), .val (.int (2 : Int32)), .val (.int (-1 : Int32)), .val (.int (-1 : Int32)), .unset] [])) tg
        refine XS.iload X8.here hx rfl (hb hby at_196) rfl ?_
        show Steps p.tables e below (T8.setTop (mkF m 198 #[.val (.int p1), .val (.int p2), .val (.int p3), .val (.int p4), .val (.ref b1), .val (.ref d), .val (.int (1 : Int32)), .val (.int (1 : Int32)), .val (.int (0 : Int32)), .val (.int (1 : Int32)), .val (.int (0 : Int32)), .val (.int (2 : Int32)), .val (.int (Int32.ofNat mm)), .val (.int (Int32.ofNat kk)), .val (.int (2 : Int32)), .val (.int (-1 : Int32)), .val (.int (-1 : Int32)), .unset] [(.int (-1 : Int32))])) tg
        refine XS.goto X8.here hx rfl (pc0 := 198) (pc' := 203) rfl (hb hby at_198) (by decide) (by decide) ?_
        show Steps p.tables e below (T8.setTop (mkF m 203 #[.val (.int p1), .val (.int p2), .val (.int p3), .val (.int p4), .val (.ref b1), .val (.ref d), .val (.int (1 : Int32)), .val (.int (1 : Int32)), .val (.int (0 : Int32)), .val (.int (1 : Int32)), .val (.int (0 : Int32)), .val (.int (2 : Int32)), .val (.int (Int32.ofNat mm)), .val (.int (Int32.ofNat kk)), .val (.int (2 : Int32)), .val (.int (-1 : Int32)), .val (.int (-1 : Int32)), .unset] [(.int (-1 : Int32))])) tg
        refine XS.istore X8.here hx rfl (hb hby at_203) rfl (l' := #[.val (.int p1), .val (.int p2), .val (.int p3), .val (.int p4), .val (.ref b1), .val (.ref d), .val (.int (1 : Int32)), .val (.int (1 : Int32)), .val (.int (0 : Int32)), .val (.int (1 : Int32)), .val (.int (0 : Int32)), .val (.int (2 : Int32)), .val (.int (Int32.ofNat mm)), .val (.int (Int32.ofNat kk)), .val (.int (2 : Int32)), .val (.int (-1 : Int32)), .val (.int (-1 : Int32)), .val (.int (-1 : Int32))]) rfl ?_
        exact kt
      have kk3 : kk ≤ 3 := hTk.1
      exact sg205 hw p1 p2 p3 p4 b1 t1 t2 t3 d kk uk _ (1 : Int32) (0 : Int32) (1 : Int32) (0 : Int32) (2 : Int32) (Int32.ofNat mm) (2 : Int32) (-1 : Int32) (-1 : Int32) (-1 : Int32) K X8 e8 N8 Z7 P_a P_1 P_2 P_3 hTk rfl rfl (own_idx_miss (fun i hi e => by have z : ¬ 0 < kk := fun z => hc137 ((own_ltl (e := 0) (by omega) (by omega)).mpr z); rcases (by omega : i = 0 ∨ i = 1) with rfl | rfl <;> first | omega | exact hba e.symm | exact hca e.symm | exact hcb e.symm)) (own_idx_miss (fun i hi e => by have z : ¬ 1 < kk := fun z => hc155 ((own_ltl (e := 1) (by omega) (by omega)).mpr z); rcases (by omega : i = 0 ∨ i = 1) with rfl | rfl <;> first | omega | exact hba e.symm | exact hca e.symm | exact hcb e.symm)) (own_idx_miss (fun i hi e => by have z : ¬ 0 < kk := fun z => hc137 ((own_ltl (e := 0) (by omega) (by omega)).mpr z); rcases (by omega : i = 0 ∨ i = 1) with rfl | rfl <;> first | omega | exact hba e.symm | exact hca e.symm | exact hcb e.symm))
set_option maxRecDepth 65536 in
set_option maxHeartbeats 40000000 in
theorem rm0D (l : Launch) (Z : State) (a0 : Array Value) (hw : ∀ d ∈ tables_1, d.before a0 Z = true) (p1 p2 p3 p4 : Int32) (d : Addr) (h0 : Heap) (n0 : Nat) (Z0 : n0 ≤ h0.size) (hba : ¬ p2 = p1) (hca : ¬ p3 = p1) (hcb : p3 = p2) (hOld : Old Z n0 h0) (SE : Sta Z Z.heap "com/example/rhizome/rhizome/tableau/DependencySet" "EMPTY" "Lcom/example/rhizome/rhizome/tableau/DependencySet;" (.ref d)) (XE : Exa Z Z.heap d "com/example/rhizome/rhizome/tableau/DependencySet") :
    own_Met l Z x code maxLocals ret room_1 #[(.int p1), (.int p2), (.int p3), (.int p4)] h0 (own_Q1 n0) := by
  refine own_enter (plainFor_of_name own_pn0) (fun m => by first | (simp [entryFrame, mkF, argsToLocals, Value.category, maxLocals]; done) | rfl) (Ls := #[.val (.int p1), .val (.int p2), .val (.int p3), .val (.int p4), .unset, .unset, .unset, .unset, .unset, .unset, .unset, .unset, .unset, .unset, .unset, .unset, .unset, .unset]) ?_
  intro p e s m below meth c T0 K X0 e0
  have hx := K.1
  have hZ := K.2.1
  have hby := K.2.2.1
  have hown := K.2.2.2.2.1
  have N0 := Fr.nil n0
  show own_Fin p e below _ T0 (mkF m 0 #[.val (.int p1), .val (.int p2), .val (.int p3), .val (.int p4), .unset, .unset, .unset, .unset, .unset, .unset, .unset, .unset, .unset, .unset, .unset, .unset, .unset, .unset] [])
  refine own_newO K X0 e0 (hw _ (List.mem_of_getElem? (i := 0) rfl)) (hw _ (List.mem_of_getElem? (i := 1) rfl)) (hw _ (List.mem_of_getElem? (i := 2) rfl)) at_0 (by decide) (by decide) ?_
  intro T1 h1 b1 g1 X1 e1 E1 A1 D1
  have Od1 := Old.ext hOld E1
  have f_b1 : n0 ≤ b1 := Nat.le_trans Z0 (Nat.le_of_eq g1.symm)
  have Z1 : n0 ≤ h1.size := Nat.le_trans Z0 E1.1
  have O_b1_1 : own_Obj Z h1 b1 "com/example/rhizome/rhizome/tableau/Label" [("com/example/rhizome/rhizome/tableau/Label", "concepts", "[I", .null), ("com/example/rhizome/rhizome/tableau/Label", "dependencies", "[Lcom/example/rhizome/rhizome/tableau/DependencySet;", .null), ("com/example/rhizome/rhizome/tableau/Label", "slots", "[I", .null), ("com/example/rhizome/rhizome/tableau/Label", "size", "I", (.int (0 : Int32)))] := ⟨A1, by
    intro q hq
    simp only [List.mem_cons, List.not_mem_nil, or_false] at hq
    rcases hq with rfl | rfl | rfl | rfl
    · exact D1 (Or.inl (hw _ (List.mem_of_getElem? (i := 11) rfl))) (ty := (.array .int)) (by decide)
    · exact D1 (Or.inl (hw _ (List.mem_of_getElem? (i := 15) rfl))) (ty := (.array (.object "com/example/rhizome/rhizome/tableau/DependencySet"))) (by decide)
    · exact D1 (Or.inl (hw _ (List.mem_of_getElem? (i := 17) rfl))) (ty := (.array .int)) (by decide)
    · exact D1 (Or.inl (hw _ (List.mem_of_getElem? (i := 41) rfl))) (ty := .int) (by decide)⟩
  show own_Fin p e below _ T1 (mkF m 3 #[.val (.int p1), .val (.int p2), .val (.int p3), .val (.int p4), .unset, .unset, .unset, .unset, .unset, .unset, .unset, .unset, .unset, .unset, .unset, .unset, .unset, .unset] [(.ref b1)])
  refine own_seg (T' := T1) (g' := (mkF m 4 #[.val (.int p1), .val (.int p2), .val (.int p3), .val (.int p4), .unset, .unset, .unset, .unset, .unset, .unset, .unset, .unset, .unset, .unset, .unset, .unset, .unset, .unset] [(.ref b1), (.ref b1)])) (fun tg kt => ?_) ?_
  · show Steps p.tables e below (T1.setTop (mkF m 3 #[.val (.int p1), .val (.int p2), .val (.int p3), .val (.int p4), .unset, .unset, .unset, .unset, .unset, .unset, .unset, .unset, .unset, .unset, .unset, .unset, .unset, .unset] [(.ref b1)])) tg
    refine XS.dup X1.here hx rfl (hb hby at_3) rfl rfl ?_
    exact kt
  refine own_callI K X1 e1 (rmI l Z a0 hw b1 h1 n0 Z1 f_b1 O_b1_1) rfl (hw _ (List.mem_of_getElem? (i := 3) rfl)) (hw _ (List.mem_of_getElem? (i := 4) rfl)) (hw _ (List.mem_of_getElem? (i := 2) rfl)) (hw _ (List.mem_of_getElem? (i := 5) rfl)) (by decide) b1 [] [(.ref b1)] own_pd4 rfl rfl rfl rfl at_4 (by decide) (Nat.le_of_ble_eq_true rfl) (by decide) (by decide) ?_
  intro T2 L2 v2 X2 hQ2
  obtain ⟨h2, e2⟩ : ∃ z, T2.heap = z := ⟨_, rfl⟩
  rw [e2] at hQ2
  obtain ⟨t1, t2, t3, rfl, Nq2, Kq2, hD, f_t1, f_t2, f_t3, Oq_a, Oq_1, Oq_2, Oq_3⟩ := hQ2
  have N2 := Fr.app N0 Nq2
  have Od2 := Old.keep Od1 Kq2 (allS f_b1 all0)
  have Z2 : n0 ≤ h2.size := Nat.le_trans Z1 Kq2.1
  show own_Fin p e below _ T2 (mkF m 7 #[.val (.int p1), .val (.int p2), .val (.int p3), .val (.int p4), .unset, .unset, .unset, .unset, .unset, .unset, .unset, .unset, .unset, .unset, .unset, .unset, .unset, .unset] [(.ref b1)])
  refine own_seg (T' := T2) (g' := (mkF m 9 #[.val (.int p1), .val (.int p2), .val (.int p3), .val (.int p4), .val (.ref b1), .unset, .unset, .unset, .unset, .unset, .unset, .unset, .unset, .unset, .unset, .unset, .unset, .unset] [])) (fun tg kt => ?_) ?_
  · show Steps p.tables e below (T2.setTop (mkF m 7 #[.val (.int p1), .val (.int p2), .val (.int p3), .val (.int p4), .unset, .unset, .unset, .unset, .unset, .unset, .unset, .unset, .unset, .unset, .unset, .unset, .unset, .unset] [(.ref b1)])) tg
    refine XS.astore X2.here hx rfl (hb hby at_7) rfl rfl (l' := #[.val (.int p1), .val (.int p2), .val (.int p3), .val (.int p4), .val (.ref b1), .unset, .unset, .unset, .unset, .unset, .unset, .unset, .unset, .unset, .unset, .unset, .unset, .unset]) rfl ?_
    exact kt
  refine own_getS K X2 e2 (host := "") (Or.inl (hw _ (List.mem_of_getElem? (i := 18) rfl))) Via.refl (SE.ext Od2.2) at_9 ?_
  intro T3 X3 e3
  show own_Fin p e below _ T3 (mkF m 12 #[.val (.int p1), .val (.int p2), .val (.int p3), .val (.int p4), .val (.ref b1), .unset, .unset, .unset, .unset, .unset, .unset, .unset, .unset, .unset, .unset, .unset, .unset, .unset] [(.ref d)])
  refine own_seg (T' := T3) (g' := (mkF m 19 #[.val (.int p1), .val (.int p2), .val (.int p3), .val (.int p4), .val (.ref b1), .val (.ref d), .unset, .unset, .unset, .unset, .unset, .unset, .unset, .unset, .unset, .unset, .unset, .unset] [(.ref d), (.int p1), (.ref b1)])) (fun tg kt => ?_) ?_
  · show Steps p.tables e below (T3.setTop (mkF m 12 #[.val (.int p1), .val (.int p2), .val (.int p3), .val (.int p4), .val (.ref b1), .unset, .unset, .unset, .unset, .unset, .unset, .unset, .unset, .unset, .unset, .unset, .unset, .unset] [(.ref d)])) tg
    refine XS.astore X3.here hx rfl (hb hby at_12) rfl rfl (l' := #[.val (.int p1), .val (.int p2), .val (.int p3), .val (.int p4), .val (.ref b1), .val (.ref d), .unset, .unset, .unset, .unset, .unset, .unset, .unset, .unset, .unset, .unset, .unset, .unset]) rfl ?_
    show Steps p.tables e below (T3.setTop (mkF m 14 #[.val (.int p1), .val (.int p2), .val (.int p3), .val (.int p4), .val (.ref b1), .val (.ref d), .unset, .unset, .unset, .unset, .unset, .unset, .unset, .unset, .unset, .unset, .unset, .unset] [])) tg
    refine XS.aload X3.here hx rfl (hb hby at_14) rfl rfl ?_
    show Steps p.tables e below (T3.setTop (mkF m 16 #[.val (.int p1), .val (.int p2), .val (.int p3), .val (.int p4), .val (.ref b1), .val (.ref d), .unset, .unset, .unset, .unset, .unset, .unset, .unset, .unset, .unset, .unset, .unset, .unset] [(.ref b1)])) tg
    refine XS.iloadN X3.here hx rfl (hb hby at_16) rfl ?_
    show Steps p.tables e below (T3.setTop (mkF m 17 #[.val (.int p1), .val (.int p2), .val (.int p3), .val (.int p4), .val (.ref b1), .val (.ref d), .unset, .unset, .unset, .unset, .unset, .unset, .unset, .unset, .unset, .unset, .unset, .unset] [(.int p1), (.ref b1)])) tg
    refine XS.aload X3.here hx rfl (hb hby at_17) rfl rfl ?_
    exact kt
  have hr0 : own_idx (fun _ => (0 : Int32)) 0 p1 = -1 := own_idx_miss (fun i hi e => absurd hi (Nat.not_lt_zero _))
  refine own_callV K X3 e3 (rmA1 l Z a0 hw b1 t1 t2 t3 p1 d 0 (fun _ => (0 : Nat)) (fun _ => (0 : Int32)) h2 n0 Z2 Oq_a Oq_1 Oq_2 Oq_3 (XE.ext Od2.2) (own_Tab0 _) hr0 (by decide) hD f_b1 f_t1 f_t2 f_t3) (hw _ (List.mem_of_getElem? (i := 21) rfl)) (hw _ (List.mem_of_getElem? (i := 22) rfl)) (fun _ q => notFace_of_selects q) (hw _ (List.mem_of_getElem? (i := 24) rfl)) (hw _ (List.mem_of_getElem? (i := 23) rfl)) (hw _ (List.mem_of_getElem? (i := 2) rfl)) (hw _ (List.mem_of_getElem? (i := 25) rfl)) (by decide) b1 Oq_a.exa [(.int p1), (.ref d)] [] own_pd5 rfl rfl rfl rfl at_19 (by decide) (Nat.le_of_ble_eq_true rfl) (by decide) (by decide) ?_
  intro T4 L4 v4 X4 hQ4
  obtain ⟨h4, e4⟩ : ∃ z, T4.heap = z := ⟨_, rfl⟩
  rw [e4] at hQ4
  obtain ⟨rfl, Nq4, Kq4, Oq4_b1, Oq4_t1, Oq4_t2, Oq4_t3⟩ := hQ4
  have N4 := Fr.app N2 Nq4
  have Od4 := Old.keep Od2 Kq4 (allS f_b1 (allS f_t1 (allS f_t2 (allS f_t3 all0))))
  have Z4 : n0 ≤ h4.size := Nat.le_trans Z2 Kq4.1
  have hT1 := own_Tab_add (own_Tab0 _) (by decide) (own_idx_none (by decide) hr0)
  generalize own_un (fun _ => (0 : Nat)) (own_sk (fun _ => (0 : Nat)) 0 4 (own_H p1)) (0 + 1) = u1 at hT1 Oq4_t3
  show own_Fin p e below _ T4 (mkF m 22 #[.val (.int p1), .val (.int p2), .val (.int p3), .val (.int p4), .val (.ref b1), .val (.ref d), .unset, .unset, .unset, .unset, .unset, .unset, .unset, .unset, .unset, .unset, .unset, .unset] [(.int (1 : Int32))])
  refine own_seg (T' := T4) (g' := (mkF m 29 #[.val (.int p1), .val (.int p2), .val (.int p3), .val (.int p4), .val (.ref b1), .val (.ref d), .val (.int (1 : Int32)), .unset, .unset, .unset, .unset, .unset, .unset, .unset, .unset, .unset, .unset, .unset] [(.ref d), (.int p2), (.ref b1)])) (fun tg kt => ?_) ?_
  · show Steps p.tables e below (T4.setTop (mkF m 22 #[.val (.int p1), .val (.int p2), .val (.int p3), .val (.int p4), .val (.ref b1), .val (.ref d), .unset, .unset, .unset, .unset, .unset, .unset, .unset, .unset, .unset, .unset, .unset, .unset] [(.int (1 : Int32))])) tg
    refine XS.istore X4.here hx rfl (hb hby at_22) rfl (l' := #[.val (.int p1), .val (.int p2), .val (.int p3), .val (.int p4), .val (.ref b1), .val (.ref d), .val (.int (1 : Int32)), .unset, .unset, .unset, .unset, .unset, .unset, .unset, .unset, .unset, .unset, .unset]) rfl ?_
    show Steps p.tables e below (T4.setTop (mkF m 24 #[.val (.int p1), .val (.int p2), .val (.int p3), .val (.int p4), .val (.ref b1), .val (.ref d), .val (.int (1 : Int32)), .unset, .unset, .unset, .unset, .unset, .unset, .unset, .unset, .unset, .unset, .unset] [])) tg
    refine XS.aload X4.here hx rfl (hb hby at_24) rfl rfl ?_
    show Steps p.tables e below (T4.setTop (mkF m 26 #[.val (.int p1), .val (.int p2), .val (.int p3), .val (.int p4), .val (.ref b1), .val (.ref d), .val (.int (1 : Int32)), .unset, .unset, .unset, .unset, .unset, .unset, .unset, .unset, .unset, .unset, .unset] [(.ref b1)])) tg
    refine XS.iloadN X4.here hx rfl (hb hby at_26) rfl ?_
    show Steps p.tables e below (T4.setTop (mkF m 27 #[.val (.int p1), .val (.int p2), .val (.int p3), .val (.int p4), .val (.ref b1), .val (.ref d), .val (.int (1 : Int32)), .unset, .unset, .unset, .unset, .unset, .unset, .unset, .unset, .unset, .unset, .unset] [(.int p2), (.ref b1)])) tg
    refine XS.aload X4.here hx rfl (hb hby at_27) rfl rfl ?_
    exact kt
  have hr1 : own_idx (own_up (fun _ => (0 : Int32)) 0 p1) 1 p2 = -1 := own_idx_miss (fun i hi ee => by obtain rfl : i = 0 := (by omega); exact hba ee.symm)
  refine own_callV K X4 e4 (rmA1 l Z a0 hw b1 t1 t2 t3 p2 d 1 u1 (own_up (fun _ => (0 : Int32)) 0 p1) h4 n0 Z4 Oq4_b1 Oq4_t1 Oq4_t2 Oq4_t3 (XE.ext Od4.2) hT1 hr1 (by decide) hD f_b1 f_t1 f_t2 f_t3) (hw _ (List.mem_of_getElem? (i := 21) rfl)) (hw _ (List.mem_of_getElem? (i := 22) rfl)) (fun _ q => notFace_of_selects q) (hw _ (List.mem_of_getElem? (i := 24) rfl)) (hw _ (List.mem_of_getElem? (i := 23) rfl)) (hw _ (List.mem_of_getElem? (i := 2) rfl)) (hw _ (List.mem_of_getElem? (i := 25) rfl)) (by decide) b1 Oq4_b1.exa [(.int p2), (.ref d)] [] own_pd5 rfl rfl rfl rfl at_29 (by decide) (Nat.le_of_ble_eq_true rfl) (by decide) (by decide) ?_
  intro T5 L5 v5 X5 hQ5
  obtain ⟨h5, e5⟩ : ∃ z, T5.heap = z := ⟨_, rfl⟩
  rw [e5] at hQ5
  obtain ⟨rfl, Nq5, Kq5, Oq5_b1, Oq5_t1, Oq5_t2, Oq5_t3⟩ := hQ5
  have N5 := Fr.app N4 Nq5
  have Od5 := Old.keep Od4 Kq5 (allS f_b1 (allS f_t1 (allS f_t2 (allS f_t3 all0))))
  have Z5 : n0 ≤ h5.size := Nat.le_trans Z4 Kq5.1
  have hT2 := own_Tab_add hT1 (by decide) (own_idx_none (by decide) hr1)
  generalize own_un u1 (own_sk u1 0 4 (own_H p2)) (1 + 1) = u2 at hT2 Oq5_t3
  show own_Fin p e below _ T5 (mkF m 32 #[.val (.int p1), .val (.int p2), .val (.int p3), .val (.int p4), .val (.ref b1), .val (.ref d), .val (.int (1 : Int32)), .unset, .unset, .unset, .unset, .unset, .unset, .unset, .unset, .unset, .unset, .unset] [(.int (1 : Int32))])
  refine own_seg (T' := T5) (g' := (mkF m 39 #[.val (.int p1), .val (.int p2), .val (.int p3), .val (.int p4), .val (.ref b1), .val (.ref d), .val (.int (1 : Int32)), .val (.int (1 : Int32)), .unset, .unset, .unset, .unset, .unset, .unset, .unset, .unset, .unset, .unset] [(.ref d), (.int p3), (.ref b1)])) (fun tg kt => ?_) ?_
  · show Steps p.tables e below (T5.setTop (mkF m 32 #[.val (.int p1), .val (.int p2), .val (.int p3), .val (.int p4), .val (.ref b1), .val (.ref d), .val (.int (1 : Int32)), .unset, .unset, .unset, .unset, .unset, .unset, .unset, .unset, .unset, .unset, .unset] [(.int (1 : Int32))])) tg
    refine XS.istore X5.here hx rfl (hb hby at_32) rfl (l' := #[.val (.int p1), .val (.int p2), .val (.int p3), .val (.int p4), .val (.ref b1), .val (.ref d), .val (.int (1 : Int32)), .val (.int (1 : Int32)), .unset, .unset, .unset, .unset, .unset, .unset, .unset, .unset, .unset, .unset]) rfl ?_
    show Steps p.tables e below (T5.setTop (mkF m 34 #[.val (.int p1), .val (.int p2), .val (.int p3), .val (.int p4), .val (.ref b1), .val (.ref d), .val (.int (1 : Int32)), .val (.int (1 : Int32)), .unset, .unset, .unset, .unset, .unset, .unset, .unset, .unset, .unset, .unset] [])) tg
    refine XS.aload X5.here hx rfl (hb hby at_34) rfl rfl ?_
    show Steps p.tables e below (T5.setTop (mkF m 36 #[.val (.int p1), .val (.int p2), .val (.int p3), .val (.int p4), .val (.ref b1), .val (.ref d), .val (.int (1 : Int32)), .val (.int (1 : Int32)), .unset, .unset, .unset, .unset, .unset, .unset, .unset, .unset, .unset, .unset] [(.ref b1)])) tg
    refine XS.iloadN X5.here hx rfl (hb hby at_36) rfl ?_
    show Steps p.tables e below (T5.setTop (mkF m 37 #[.val (.int p1), .val (.int p2), .val (.int p3), .val (.int p4), .val (.ref b1), .val (.ref d), .val (.int (1 : Int32)), .val (.int (1 : Int32)), .unset, .unset, .unset, .unset, .unset, .unset, .unset, .unset, .unset, .unset] [(.int p3), (.ref b1)])) tg
    refine XS.aload X5.here hx rfl (hb hby at_37) rfl rfl ?_
    exact kt
  refine own_callV K X5 e5 (rmA0 l Z a0 hw b1 t1 t2 t3 p3 d 2 u2 (own_up (own_up (fun _ => (0 : Int32)) 0 p1) 1 p2) 1 h5 n0 Z5 Oq5_b1 Oq5_t1 Oq5_t2 Oq5_t3 hT2 (own_idx_hit hT2 (i := 1) (by decide) hcb.symm) (by decide)) (hw _ (List.mem_of_getElem? (i := 21) rfl)) (hw _ (List.mem_of_getElem? (i := 22) rfl)) (fun _ q => notFace_of_selects q) (hw _ (List.mem_of_getElem? (i := 24) rfl)) (hw _ (List.mem_of_getElem? (i := 23) rfl)) (hw _ (List.mem_of_getElem? (i := 2) rfl)) (hw _ (List.mem_of_getElem? (i := 25) rfl)) (by decide) b1 Oq5_b1.exa [(.int p3), (.ref d)] [] own_pd5 rfl rfl rfl rfl at_39 (by decide) (Nat.le_of_ble_eq_true rfl) (by decide) (by decide) ?_
  intro T6 L6 v6 X6 hQ6
  obtain ⟨rfl, Nq6, e6⟩ := hQ6
  have N6 := Fr.app N5 Nq6
  show own_Fin p e below _ T6 (mkF m 42 #[.val (.int p1), .val (.int p2), .val (.int p3), .val (.int p4), .val (.ref b1), .val (.ref d), .val (.int (1 : Int32)), .val (.int (1 : Int32)), .unset, .unset, .unset, .unset, .unset, .unset, .unset, .unset, .unset, .unset] [(.int (0 : Int32))])
  refine own_seg (T' := T6) (g' := (mkF m 46 #[.val (.int p1), .val (.int p2), .val (.int p3), .val (.int p4), .val (.ref b1), .val (.ref d), .val (.int (1 : Int32)), .val (.int (1 : Int32)), .val (.int (0 : Int32)), .unset, .unset, .unset, .unset, .unset, .unset, .unset, .unset, .unset] [(.int p1), (.int p2)])) (fun tg kt => ?_) ?_
  · show Steps p.tables e below (T6.setTop (mkF m 42 #[.val (.int p1), .val (.int p2), .val (.int p3), .val (.int p4), .val (.ref b1), .val (.ref d), .val (.int (1 : Int32)), .val (.int (1 : Int32)), .unset, .unset, .unset, .unset, .unset, .unset, .unset, .unset, .unset, .unset] [(.int (0 : Int32))])) tg
    refine XS.istore X6.here hx rfl (hb hby at_42) rfl (l' := #[.val (.int p1), .val (.int p2), .val (.int p3), .val (.int p4), .val (.ref b1), .val (.ref d), .val (.int (1 : Int32)), .val (.int (1 : Int32)), .val (.int (0 : Int32)), .unset, .unset, .unset, .unset, .unset, .unset, .unset, .unset, .unset]) rfl ?_
    show Steps p.tables e below (T6.setTop (mkF m 44 #[.val (.int p1), .val (.int p2), .val (.int p3), .val (.int p4), .val (.ref b1), .val (.ref d), .val (.int (1 : Int32)), .val (.int (1 : Int32)), .val (.int (0 : Int32)), .unset, .unset, .unset, .unset, .unset, .unset, .unset, .unset, .unset] [])) tg
    refine XS.iloadN X6.here hx rfl (hb hby at_44) rfl ?_
    show Steps p.tables e below (T6.setTop (mkF m 45 #[.val (.int p1), .val (.int p2), .val (.int p3), .val (.int p4), .val (.ref b1), .val (.ref d), .val (.int (1 : Int32)), .val (.int (1 : Int32)), .val (.int (0 : Int32)), .unset, .unset, .unset, .unset, .unset, .unset, .unset, .unset, .unset] [(.int p2)])) tg
    refine XS.iloadN X6.here hx rfl (hb hby at_45) rfl ?_
    exact kt
  have hc46 : ¬ (p2 = p1) := hba
  refine own_seg (T' := T6) (g' := (mkF m 49 #[.val (.int p1), .val (.int p2), .val (.int p3), .val (.int p4), .val (.ref b1), .val (.ref d), .val (.int (1 : Int32)), .val (.int (1 : Int32)), .val (.int (0 : Int32)), .unset, .unset, .unset, .unset, .unset, .unset, .unset, .unset, .unset] [])) (fun tg kt => XS.icmpNo X6.here hx rfl (hb hby at_46) rfl (feq hc46).1 kt) ?_
  refine own_seg (T' := T6) (g' := (mkF m 58 #[.val (.int p1), .val (.int p2), .val (.int p3), .val (.int p4), .val (.ref b1), .val (.ref d), .val (.int (1 : Int32)), .val (.int (1 : Int32)), .val (.int (0 : Int32)), .val (.int (1 : Int32)), .unset, .unset, .unset, .unset, .unset, .unset, .unset, .unset] [(.int p1), (.int p3)])) (fun tg kt => ?_) ?_
  · show Steps p.tables e below (T6.setTop (mkF m 49 #[.val (.int p1), .val (.int p2), .val (.int p3), .val (.int p4), .val (.ref b1), .val (.ref d), .val (.int (1 : Int32)), .val (.int (1 : Int32)), .val (.int (0 : Int32)), .unset, .unset, .unset, .unset, .unset, .unset, .unset, .unset, .unset] [])) tg
    refine XS.iconst X6.here hx rfl (hb hby at_49) ?_
    show Steps p.tables e below (T6.setTop (mkF m 50 #[.val (.int p1), .val (.int p2), .val (.int p3), .val (.int p4), .val (.ref b1), .val (.ref d), .val (.int (1 : Int32)), .val (.int (1 : Int32)), .val (.int (0 : Int32)), .unset, .unset, .unset, .unset, .unset, .unset, .unset, .unset, .unset] [(.int (1 : Int32))])) tg
    refine XS.goto X6.here hx rfl (pc0 := 50) (pc' := 54) rfl (hb hby at_50) (by decide) (by decide) ?_
    show Steps p.tables e below (T6.setTop (mkF m 54 #[.val (.int p1), .val (.int p2), .val (.int p3), .val (.int p4), .val (.ref b1), .val (.ref d), .val (.int (1 : Int32)), .val (.int (1 : Int32)), .val (.int (0 : Int32)), .unset, .unset, .unset, .unset, .unset, .unset, .unset, .unset, .unset] [(.int (1 : Int32))])) tg
    refine XS.istore X6.here hx rfl (hb hby at_54) rfl (l' := #[.val (.int p1), .val (.int p2), .val (.int p3), .val (.int p4), .val (.ref b1), .val (.ref d), .val (.int (1 : Int32)), .val (.int (1 : Int32)), .val (.int (0 : Int32)), .val (.int (1 : Int32)), .unset, .unset, .unset, .unset, .unset, .unset, .unset, .unset]) rfl ?_
    show Steps p.tables e below (T6.setTop (mkF m 56 #[.val (.int p1), .val (.int p2), .val (.int p3), .val (.int p4), .val (.ref b1), .val (.ref d), .val (.int (1 : Int32)), .val (.int (1 : Int32)), .val (.int (0 : Int32)), .val (.int (1 : Int32)), .unset, .unset, .unset, .unset, .unset, .unset, .unset, .unset] [])) tg
    refine XS.iloadN X6.here hx rfl (hb hby at_56) rfl ?_
    show Steps p.tables e below (T6.setTop (mkF m 57 #[.val (.int p1), .val (.int p2), .val (.int p3), .val (.int p4), .val (.ref b1), .val (.ref d), .val (.int (1 : Int32)), .val (.int (1 : Int32)), .val (.int (0 : Int32)), .val (.int (1 : Int32)), .unset, .unset, .unset, .unset, .unset, .unset, .unset, .unset] [(.int p3)])) tg
    refine XS.iloadN X6.here hx rfl (hb hby at_57) rfl ?_
    exact kt
  have hc58 : ¬ (p3 = p1) := hca
  refine own_seg (T' := T6) (g' := (mkF m 61 #[.val (.int p1), .val (.int p2), .val (.int p3), .val (.int p4), .val (.ref b1), .val (.ref d), .val (.int (1 : Int32)), .val (.int (1 : Int32)), .val (.int (0 : Int32)), .val (.int (1 : Int32)), .unset, .unset, .unset, .unset, .unset, .unset, .unset, .unset] [])) (fun tg kt => XS.icmpNo X6.here hx rfl (hb hby at_58) rfl (feq hc58).1 kt) ?_
  refine own_seg (T' := T6) (g' := (mkF m 63 #[.val (.int p1), .val (.int p2), .val (.int p3), .val (.int p4), .val (.ref b1), .val (.ref d), .val (.int (1 : Int32)), .val (.int (1 : Int32)), .val (.int (0 : Int32)), .val (.int (1 : Int32)), .unset, .unset, .unset, .unset, .unset, .unset, .unset, .unset] [(.int p2), (.int p3)])) (fun tg kt => ?_) ?_
  · show Steps p.tables e below (T6.setTop (mkF m 61 #[.val (.int p1), .val (.int p2), .val (.int p3), .val (.int p4), .val (.ref b1), .val (.ref d), .val (.int (1 : Int32)), .val (.int (1 : Int32)), .val (.int (0 : Int32)), .val (.int (1 : Int32)), .unset, .unset, .unset, .unset, .unset, .unset, .unset, .unset] [])) tg
    refine XS.iloadN X6.here hx rfl (hb hby at_61) rfl ?_
    show Steps p.tables e below (T6.setTop (mkF m 62 #[.val (.int p1), .val (.int p2), .val (.int p3), .val (.int p4), .val (.ref b1), .val (.ref d), .val (.int (1 : Int32)), .val (.int (1 : Int32)), .val (.int (0 : Int32)), .val (.int (1 : Int32)), .unset, .unset, .unset, .unset, .unset, .unset, .unset, .unset] [(.int p3)])) tg
    refine XS.iloadN X6.here hx rfl (hb hby at_62) rfl ?_
    exact kt
  have hc63 : p3 = p2 := hcb
  refine own_seg (T' := T6) (g' := (mkF m 70 #[.val (.int p1), .val (.int p2), .val (.int p3), .val (.int p4), .val (.ref b1), .val (.ref d), .val (.int (1 : Int32)), .val (.int (1 : Int32)), .val (.int (0 : Int32)), .val (.int (1 : Int32)), .unset, .unset, .unset, .unset, .unset, .unset, .unset, .unset] [])) (fun tg kt => XS.icmpYes X6.here hx rfl (pc0 := 63) (pc' := 70) rfl (hb hby at_63) rfl (teq hc63).1 (by decide) (by decide) kt) ?_
  refine own_seg (T' := T6) (g' := (mkF m 76 #[.val (.int p1), .val (.int p2), .val (.int p3), .val (.int p4), .val (.ref b1), .val (.ref d), .val (.int (1 : Int32)), .val (.int (1 : Int32)), .val (.int (0 : Int32)), .val (.int (1 : Int32)), .val (.int (0 : Int32)), .unset, .unset, .unset, .unset, .unset, .unset, .unset] [(.int (1 : Int32)), (.int (1 : Int32))])) (fun tg kt => ?_) ?_
  · show Steps p.tables e below (T6.setTop (mkF m 70 #[.val (.int p1), .val (.int p2), .val (.int p3), .val (.int p4), .val (.ref b1), .val (.ref d), .val (.int (1 : Int32)), .val (.int (1 : Int32)), .val (.int (0 : Int32)), .val (.int (1 : Int32)), .unset, .unset, .unset, .unset, .unset, .unset, .unset, .unset] [])) tg
    refine XS.iconst X6.here hx rfl (hb hby at_70) ?_
    show Steps p.tables e below (T6.setTop (mkF m 71 #[.val (.int p1), .val (.int p2), .val (.int p3), .val (.int p4), .val (.ref b1), .val (.ref d), .val (.int (1 : Int32)), .val (.int (1 : Int32)), .val (.int (0 : Int32)), .val (.int (1 : Int32)), .unset, .unset, .unset, .unset, .unset, .unset, .unset, .unset] [(.int (0 : Int32))])) tg
    refine XS.istore X6.here hx rfl (hb hby at_71) rfl (l' := #[.val (.int p1), .val (.int p2), .val (.int p3), .val (.int p4), .val (.ref b1), .val (.ref d), .val (.int (1 : Int32)), .val (.int (1 : Int32)), .val (.int (0 : Int32)), .val (.int (1 : Int32)), .val (.int (0 : Int32)), .unset, .unset, .unset, .unset, .unset, .unset, .unset]) rfl ?_
    show Steps p.tables e below (T6.setTop (mkF m 73 #[.val (.int p1), .val (.int p2), .val (.int p3), .val (.int p4), .val (.ref b1), .val (.ref d), .val (.int (1 : Int32)), .val (.int (1 : Int32)), .val (.int (0 : Int32)), .val (.int (1 : Int32)), .val (.int (0 : Int32)), .unset, .unset, .unset, .unset, .unset, .unset, .unset] [])) tg
    refine XS.iconst X6.here hx rfl (hb hby at_73) ?_
    show Steps p.tables e below (T6.setTop (mkF m 74 #[.val (.int p1), .val (.int p2), .val (.int p3), .val (.int p4), .val (.ref b1), .val (.ref d), .val (.int (1 : Int32)), .val (.int (1 : Int32)), .val (.int (0 : Int32)), .val (.int (1 : Int32)), .val (.int (0 : Int32)), .unset, .unset, .unset, .unset, .unset, .unset, .unset] [(.int (1 : Int32))])) tg
    refine XS.iload X6.here hx rfl (hb hby at_74) rfl ?_
    exact kt
  have hc76 : ¬ ((1 : Int32) = (0 : Int32)) := by decide
  refine own_seg (T' := T6) (g' := (mkF m 79 #[.val (.int p1), .val (.int p2), .val (.int p3), .val (.int p4), .val (.ref b1), .val (.ref d), .val (.int (1 : Int32)), .val (.int (1 : Int32)), .val (.int (0 : Int32)), .val (.int (1 : Int32)), .val (.int (0 : Int32)), .unset, .unset, .unset, .unset, .unset, .unset, .unset] [(.int (1 : Int32))])) (fun tg kt => XS.ifNo X6.here hx rfl (hb hby at_76) rfl ((if0 _ _).trans (feq hc76).1) kt) ?_
  refine own_seg (T' := T6) (g' := (mkF m 87 #[.val (.int p1), .val (.int p2), .val (.int p3), .val (.int p4), .val (.ref b1), .val (.ref d), .val (.int (1 : Int32)), .val (.int (1 : Int32)), .val (.int (0 : Int32)), .val (.int (1 : Int32)), .val (.int (0 : Int32)), .unset, .unset, .unset, .unset, .unset, .unset, .unset] [(.int (0 : Int32)), (.int (2 : Int32))])) (fun tg kt => ?_) ?_
  · show Steps p.tables e below (T6.setTop (mkF m 79 #[.val (.int p1), .val (.int p2), .val (.int p3), .val (.int p4), .val (.ref b1), .val (.ref d), .val (.int (1 : Int32)), .val (.int (1 : Int32)), .val (.int (0 : Int32)), .val (.int (1 : Int32)), .val (.int (0 : Int32)), .unset, .unset, .unset, .unset, .unset, .unset, .unset] [(.int (1 : Int32))])) tg
    refine XS.iconst X6.here hx rfl (hb hby at_79) ?_
    show Steps p.tables e below (T6.setTop (mkF m 80 #[.val (.int p1), .val (.int p2), .val (.int p3), .val (.int p4), .val (.ref b1), .val (.ref d), .val (.int (1 : Int32)), .val (.int (1 : Int32)), .val (.int (0 : Int32)), .val (.int (1 : Int32)), .val (.int (0 : Int32)), .unset, .unset, .unset, .unset, .unset, .unset, .unset] [(.int (1 : Int32)), (.int (1 : Int32))])) tg
    refine XS.goto X6.here hx rfl (pc0 := 80) (pc' := 84) rfl (hb hby at_80) (by decide) (by decide) ?_
    show Steps p.tables e below (T6.setTop (mkF m 84 #[.val (.int p1), .val (.int p2), .val (.int p3), .val (.int p4), .val (.ref b1), .val (.ref d), .val (.int (1 : Int32)), .val (.int (1 : Int32)), .val (.int (0 : Int32)), .val (.int (1 : Int32)), .val (.int (0 : Int32)), .unset, .unset, .unset, .unset, .unset, .unset, .unset] [(.int (1 : Int32)), (.int (1 : Int32))])) tg
    refine XS.iadd X6.here hx rfl (hb hby at_84) rfl ?_
    show Steps p.tables e below (T6.setTop (mkF m 85 #[.val (.int p1), .val (.int p2), .val (.int p3), .val (.int p4), .val (.ref b1), .val (.ref d), .val (.int (1 : Int32)), .val (.int (1 : Int32)), .val (.int (0 : Int32)), .val (.int (1 : Int32)), .val (.int (0 : Int32)), .unset, .unset, .unset, .unset, .unset, .unset, .unset] [(.int (2 : Int32))])) tg
    refine XS.iload X6.here hx rfl (hb hby at_85) rfl ?_
    exact kt
  have hc87 : (0 : Int32) = (0 : Int32) := by decide
  refine own_seg (T' := T6) (g' := (mkF m 94 #[.val (.int p1), .val (.int p2), .val (.int p3), .val (.int p4), .val (.ref b1), .val (.ref d), .val (.int (1 : Int32)), .val (.int (1 : Int32)), .val (.int (0 : Int32)), .val (.int (1 : Int32)), .val (.int (0 : Int32)), .unset, .unset, .unset, .unset, .unset, .unset, .unset] [(.int (2 : Int32))])) (fun tg kt => XS.ifYes X6.here hx rfl (pc0 := 87) (pc' := 94) rfl (hb hby at_87) rfl ((if0 _ _).trans (teq hc87).1) (by decide) (by decide) kt) ?_
  refine own_seg (T' := T6) (g' := (mkF m 106 #[.val (.int p1), .val (.int p2), .val (.int p3), .val (.int p4), .val (.ref b1), .val (.ref d), .val (.int (1 : Int32)), .val (.int (1 : Int32)), .val (.int (0 : Int32)), .val (.int (1 : Int32)), .val (.int (0 : Int32)), .val (.int (2 : Int32)), .val (.int ((p4 &&& (2147483647 : Int32)) % (5 : Int32))), .unset, .unset, .unset, .unset, .unset] [])) (fun tg kt => ?_) ?_
  · show Steps p.tables e below (T6.setTop (mkF m 94 #[.val (.int p1), .val (.int p2), .val (.int p3), .val (.int p4), .val (.ref b1), .val (.ref d), .val (.int (1 : Int32)), .val (.int (1 : Int32)), .val (.int (0 : Int32)), .val (.int (1 : Int32)), .val (.int (0 : Int32)), .unset, .unset, .unset, .unset, .unset, .unset, .unset] [(.int (2 : Int32))])) tg
    refine XS.iconst X6.here hx rfl (hb hby at_94) ?_
    show Steps p.tables e below (T6.setTop (mkF m 95 #[.val (.int p1), .val (.int p2), .val (.int p3), .val (.int p4), .val (.ref b1), .val (.ref d), .val (.int (1 : Int32)), .val (.int (1 : Int32)), .val (.int (0 : Int32)), .val (.int (1 : Int32)), .val (.int (0 : Int32)), .unset, .unset, .unset, .unset, .unset, .unset, .unset] [(.int (0 : Int32)), (.int (2 : Int32))])) tg
    refine XS.iadd X6.here hx rfl (hb hby at_95) rfl ?_
    show Steps p.tables e below (T6.setTop (mkF m 96 #[.val (.int p1), .val (.int p2), .val (.int p3), .val (.int p4), .val (.ref b1), .val (.ref d), .val (.int (1 : Int32)), .val (.int (1 : Int32)), .val (.int (0 : Int32)), .val (.int (1 : Int32)), .val (.int (0 : Int32)), .unset, .unset, .unset, .unset, .unset, .unset, .unset] [(.int (2 : Int32))])) tg
    refine XS.istore X6.here hx rfl (hb hby at_96) rfl (l' := #[.val (.int p1), .val (.int p2), .val (.int p3), .val (.int p4), .val (.ref b1), .val (.ref d), .val (.int (1 : Int32)), .val (.int (1 : Int32)), .val (.int (0 : Int32)), .val (.int (1 : Int32)), .val (.int (0 : Int32)), .val (.int (2 : Int32)), .unset, .unset, .unset, .unset, .unset, .unset]) rfl ?_
    show Steps p.tables e below (T6.setTop (mkF m 98 #[.val (.int p1), .val (.int p2), .val (.int p3), .val (.int p4), .val (.ref b1), .val (.ref d), .val (.int (1 : Int32)), .val (.int (1 : Int32)), .val (.int (0 : Int32)), .val (.int (1 : Int32)), .val (.int (0 : Int32)), .val (.int (2 : Int32)), .unset, .unset, .unset, .unset, .unset, .unset] [])) tg
    refine XS.iloadN X6.here hx rfl (hb hby at_98) rfl ?_
    show Steps p.tables e below (T6.setTop (mkF m 99 #[.val (.int p1), .val (.int p2), .val (.int p3), .val (.int p4), .val (.ref b1), .val (.ref d), .val (.int (1 : Int32)), .val (.int (1 : Int32)), .val (.int (0 : Int32)), .val (.int (1 : Int32)), .val (.int (0 : Int32)), .val (.int (2 : Int32)), .unset, .unset, .unset, .unset, .unset, .unset] [(.int p4)])) tg
    refine X6.ldcInt hx hown (mvT hZ (hw _ (List.mem_of_getElem? (i := 47) rfl))) (g := (mkF m 99 #[.val (.int p1), .val (.int p2), .val (.int p3), .val (.int p4), .val (.ref b1), .val (.ref d), .val (.int (1 : Int32)), .val (.int (1 : Int32)), .val (.int (0 : Int32)), .val (.int (1 : Int32)), .val (.int (0 : Int32)), .val (.int (2 : Int32)), .unset, .unset, .unset, .unset, .unset, .unset] [(.int p4)])) rfl (hb hby at_99) _ ?_
    show Steps p.tables e below (T6.setTop (mkF m 101 #[.val (.int p1), .val (.int p2), .val (.int p3), .val (.int p4), .val (.ref b1), .val (.ref d), .val (.int (1 : Int32)), .val (.int (1 : Int32)), .val (.int (0 : Int32)), .val (.int (1 : Int32)), .val (.int (0 : Int32)), .val (.int (2 : Int32)), .unset, .unset, .unset, .unset, .unset, .unset] [(.int (2147483647 : Int32)), (.int p4)])) tg
    refine XS.iand X6.here hx rfl (hb hby at_101) rfl ?_
    show Steps p.tables e below (T6.setTop (mkF m 102 #[.val (.int p1), .val (.int p2), .val (.int p3), .val (.int p4), .val (.ref b1), .val (.ref d), .val (.int (1 : Int32)), .val (.int (1 : Int32)), .val (.int (0 : Int32)), .val (.int (1 : Int32)), .val (.int (0 : Int32)), .val (.int (2 : Int32)), .unset, .unset, .unset, .unset, .unset, .unset] [(.int (p4 &&& (2147483647 : Int32)))])) tg
    refine XS.iconst X6.here hx rfl (hb hby at_102) ?_
    show Steps p.tables e below (T6.setTop (mkF m 103 #[.val (.int p1), .val (.int p2), .val (.int p3), .val (.int p4), .val (.ref b1), .val (.ref d), .val (.int (1 : Int32)), .val (.int (1 : Int32)), .val (.int (0 : Int32)), .val (.int (1 : Int32)), .val (.int (0 : Int32)), .val (.int (2 : Int32)), .unset, .unset, .unset, .unset, .unset, .unset] [(.int (5 : Int32)), (.int (p4 &&& (2147483647 : Int32)))])) tg
    refine iremM X6 hx rfl (hb hby at_103) rfl (by decide) ?_
    show Steps p.tables e below (T6.setTop (mkF m 104 #[.val (.int p1), .val (.int p2), .val (.int p3), .val (.int p4), .val (.ref b1), .val (.ref d), .val (.int (1 : Int32)), .val (.int (1 : Int32)), .val (.int (0 : Int32)), .val (.int (1 : Int32)), .val (.int (0 : Int32)), .val (.int (2 : Int32)), .unset, .unset, .unset, .unset, .unset, .unset] [(.int ((p4 &&& (2147483647 : Int32)) % (5 : Int32)))])) tg
    refine XS.istore X6.here hx rfl (hb hby at_104) rfl (l' := #[.val (.int p1), .val (.int p2), .val (.int p3), .val (.int p4), .val (.ref b1), .val (.ref d), .val (.int (1 : Int32)), .val (.int (1 : Int32)), .val (.int (0 : Int32)), .val (.int (1 : Int32)), .val (.int (0 : Int32)), .val (.int (2 : Int32)), .val (.int ((p4 &&& (2147483647 : Int32)) % (5 : Int32))), .unset, .unset, .unset, .unset, .unset]) rfl ?_
    exact kt
  obtain ⟨mm, hmm4, hmm⟩ := own_k5 p4
  rw [hmm]
  refine own_seg (T' := T6) (g' := (mkF m 110 #[.val (.int p1), .val (.int p2), .val (.int p3), .val (.int p4), .val (.ref b1), .val (.ref d), .val (.int (1 : Int32)), .val (.int (1 : Int32)), .val (.int (0 : Int32)), .val (.int (1 : Int32)), .val (.int (0 : Int32)), .val (.int (2 : Int32)), .val (.int (Int32.ofNat mm)), .unset, .unset, .unset, .unset, .unset] [(.int (Int32.ofNat mm)), (.ref b1)])) (fun tg kt => ?_) ?_
  · show Steps p.tables e below (T6.setTop (mkF m 106 #[.val (.int p1), .val (.int p2), .val (.int p3), .val (.int p4), .val (.ref b1), .val (.ref d), .val (.int (1 : Int32)), .val (.int (1 : Int32)), .val (.int (0 : Int32)), .val (.int (1 : Int32)), .val (.int (0 : Int32)), .val (.int (2 : Int32)), .val (.int (Int32.ofNat mm)), .unset, .unset, .unset, .unset, .unset] [])) tg
    refine XS.aload X6.here hx rfl (hb hby at_106) rfl rfl ?_
    show Steps p.tables e below (T6.setTop (mkF m 108 #[.val (.int p1), .val (.int p2), .val (.int p3), .val (.int p4), .val (.ref b1), .val (.ref d), .val (.int (1 : Int32)), .val (.int (1 : Int32)), .val (.int (0 : Int32)), .val (.int (1 : Int32)), .val (.int (0 : Int32)), .val (.int (2 : Int32)), .val (.int (Int32.ofNat mm)), .unset, .unset, .unset, .unset, .unset] [(.ref b1)])) tg
    refine XS.iload X6.here hx rfl (hb hby at_108) rfl ?_
    exact kt
  refine own_callV K X6 e6 (rmT l Z a0 hw b1 t1 t2 t3 mm 2 u2 (own_up (own_up (fun _ => (0 : Int32)) 0 p1) 1 p2) h5 n0 Z5 Oq5_b1 Oq5_t1 Oq5_t2 Oq5_t3 hD f_b1 f_t1 f_t2 f_t3 (by omega) hT2) (hw _ (List.mem_of_getElem? (i := 48) rfl)) (hw _ (List.mem_of_getElem? (i := 49) rfl)) (fun _ q => notFace_of_selects q) (hw _ (List.mem_of_getElem? (i := 51) rfl)) (hw _ (List.mem_of_getElem? (i := 50) rfl)) (hw _ (List.mem_of_getElem? (i := 2) rfl)) (hw _ (List.mem_of_getElem? (i := 52) rfl)) (by decide) b1 Oq5_b1.exa [(.int (Int32.ofNat mm))] [] own_pd2 rfl rfl rfl rfl at_110 (by decide) (Nat.le_of_ble_eq_true rfl) (by decide) (by decide) ?_
  intro T7 L7 v7 X7 hQ7
  obtain ⟨h7, e7⟩ : ∃ z, T7.heap = z := ⟨_, rfl⟩
  rw [e7] at hQ7
  obtain ⟨kk, uk, rfl, Nq7, Kq7, hkk, hTk, P_a, P_1, P_2, P_3⟩ := hQ7
  have N7 := Fr.app N6 Nq7
  have Od7 := Old.keep Od5 Kq7 (allS f_b1 (allS f_t1 (allS f_t2 (allS f_t3 all0))))
  have Z7 : n0 ≤ h7.size := Nat.le_trans Z5 Kq7.1
  show own_Fin p e below _ T7 (mkF m 113 #[.val (.int p1), .val (.int p2), .val (.int p3), .val (.int p4), .val (.ref b1), .val (.ref d), .val (.int (1 : Int32)), .val (.int (1 : Int32)), .val (.int (0 : Int32)), .val (.int (1 : Int32)), .val (.int (0 : Int32)), .val (.int (2 : Int32)), .val (.int (Int32.ofNat mm)), .unset, .unset, .unset, .unset, .unset] [])
  refine own_seg (T' := T7) (g' := (mkF m 117 #[.val (.int p1), .val (.int p2), .val (.int p3), .val (.int p4), .val (.ref b1), .val (.ref d), .val (.int (1 : Int32)), .val (.int (1 : Int32)), .val (.int (0 : Int32)), .val (.int (1 : Int32)), .val (.int (0 : Int32)), .val (.int (2 : Int32)), .val (.int (Int32.ofNat mm)), .unset, .unset, .unset, .unset, .unset] [(.int (Int32.ofNat mm)), (.int (2 : Int32))])) (fun tg kt => ?_) ?_
  · show Steps p.tables e below (T7.setTop (mkF m 113 #[.val (.int p1), .val (.int p2), .val (.int p3), .val (.int p4), .val (.ref b1), .val (.ref d), .val (.int (1 : Int32)), .val (.int (1 : Int32)), .val (.int (0 : Int32)), .val (.int (1 : Int32)), .val (.int (0 : Int32)), .val (.int (2 : Int32)), .val (.int (Int32.ofNat mm)), .unset, .unset, .unset, .unset, .unset] [])) tg
    refine XS.iload X7.here hx rfl (hb hby at_113) rfl ?_
    show Steps p.tables e below (T7.setTop (mkF m 115 #[.val (.int p1), .val (.int p2), .val (.int p3), .val (.int p4), .val (.ref b1), .val (.ref d), .val (.int (1 : Int32)), .val (.int (1 : Int32)), .val (.int (0 : Int32)), .val (.int (1 : Int32)), .val (.int (0 : Int32)), .val (.int (2 : Int32)), .val (.int (Int32.ofNat mm)), .unset, .unset, .unset, .unset, .unset] [(.int (2 : Int32))])) tg
    refine XS.iload X7.here hx rfl (hb hby at_115) rfl ?_
    exact kt
  have hmn : own_min (2 : Int32) (Int32.ofNat mm) = Int32.ofNat kk := by
    rw [hkk]
    rcases (by omega : mm = 0 ∨ mm = 1 ∨ mm = 2 ∨ mm = 3 ∨ mm = 4) with rfl | rfl | rfl | rfl | rfl <;> decide
  refine own_callS K X7 e7 (rmM l Z a0 hw (2 : Int32) (Int32.ofNat mm) h7 n0 Z7) (hw _ (List.mem_of_getElem? (i := 53) rfl)) (hw _ (List.mem_of_getElem? (i := 54) rfl)) (hw _ (List.mem_of_getElem? (i := 55) rfl)) (hw _ (List.mem_of_getElem? (i := 56) rfl)) (by decide) [(.int (2 : Int32)), (.int (Int32.ofNat mm))] [] own_pd6 rfl rfl rfl rfl at_117 (by decide) (Nat.le_of_ble_eq_true rfl) (by decide) (by decide) ?_
  intro T8 L8 v8 X8 hQ8
  obtain ⟨rfl, Nq8, e8⟩ := hQ8
  rw [hmn]
  have N8 := Fr.app N7 Nq8
  show own_Fin p e below _ T8 (mkF m 120 #[.val (.int p1), .val (.int p2), .val (.int p3), .val (.int p4), .val (.ref b1), .val (.ref d), .val (.int (1 : Int32)), .val (.int (1 : Int32)), .val (.int (0 : Int32)), .val (.int (1 : Int32)), .val (.int (0 : Int32)), .val (.int (2 : Int32)), .val (.int (Int32.ofNat mm)), .unset, .unset, .unset, .unset, .unset] [(.int (Int32.ofNat kk))])
  refine own_seg (T' := T8) (g' := (mkF m 124 #[.val (.int p1), .val (.int p2), .val (.int p3), .val (.int p4), .val (.ref b1), .val (.ref d), .val (.int (1 : Int32)), .val (.int (1 : Int32)), .val (.int (0 : Int32)), .val (.int (1 : Int32)), .val (.int (0 : Int32)), .val (.int (2 : Int32)), .val (.int (Int32.ofNat mm)), .val (.int (Int32.ofNat kk)), .unset, .unset, .unset, .unset] [(.int (1 : Int32))])) (fun tg kt => ?_) ?_
  · show Steps p.tables e below (T8.setTop (mkF m 120 #[.val (.int p1), .val (.int p2), .val (.int p3), .val (.int p4), .val (.ref b1), .val (.ref d), .val (.int (1 : Int32)), .val (.int (1 : Int32)), .val (.int (0 : Int32)), .val (.int (1 : Int32)), .val (.int (0 : Int32)), .val (.int (2 : Int32)), .val (.int (Int32.ofNat mm)), .unset, .unset, .unset, .unset, .unset] [(.int (Int32.ofNat kk))])) tg
    refine XS.istore X8.here hx rfl (hb hby at_120) rfl (l' := #[.val (.int p1), .val (.int p2), .val (.int p3), .val (.int p4), .val (.ref b1), .val (.ref d), .val (.int (1 : Int32)), .val (.int (1 : Int32)), .val (.int (0 : Int32)), .val (.int (1 : Int32)), .val (.int (0 : Int32)), .val (.int (2 : Int32)), .val (.int (Int32.ofNat mm)), .val (.int (Int32.ofNat kk)), .unset, .unset, .unset, .unset]) rfl ?_
    show Steps p.tables e below (T8.setTop (mkF m 122 #[.val (.int p1), .val (.int p2), .val (.int p3), .val (.int p4), .val (.ref b1), .val (.ref d), .val (.int (1 : Int32)), .val (.int (1 : Int32)), .val (.int (0 : Int32)), .val (.int (1 : Int32)), .val (.int (0 : Int32)), .val (.int (2 : Int32)), .val (.int (Int32.ofNat mm)), .val (.int (Int32.ofNat kk)), .unset, .unset, .unset, .unset] [])) tg
    refine XS.iload X8.here hx rfl (hb hby at_122) rfl ?_
    exact kt
  have hc124 : ¬ ((1 : Int32) = (0 : Int32)) := by decide
  refine own_seg (T' := T8) (g' := (mkF m 127 #[.val (.int p1), .val (.int p2), .val (.int p3), .val (.int p4), .val (.ref b1), .val (.ref d), .val (.int (1 : Int32)), .val (.int (1 : Int32)), .val (.int (0 : Int32)), .val (.int (1 : Int32)), .val (.int (0 : Int32)), .val (.int (2 : Int32)), .val (.int (Int32.ofNat mm)), .val (.int (Int32.ofNat kk)), .unset, .unset, .unset, .unset] [])) (fun tg kt => XS.ifNo X8.here hx rfl (hb hby at_124) rfl ((if0 _ _).trans (feq hc124).1) kt) ?_
  refine own_seg (T' := T8) (g' := (mkF m 137 #[.val (.int p1), .val (.int p2), .val (.int p3), .val (.int p4), .val (.ref b1), .val (.ref d), .val (.int (1 : Int32)), .val (.int (1 : Int32)), .val (.int (0 : Int32)), .val (.int (1 : Int32)), .val (.int (0 : Int32)), .val (.int (2 : Int32)), .val (.int (Int32.ofNat mm)), .val (.int (Int32.ofNat kk)), .val (.int (2 : Int32)), .unset, .unset, .unset] [(.int (Int32.ofNat kk)), (.int (0 : Int32))])) (fun tg kt => ?_) ?_
  · show Steps p.tables e below (T8.setTop (mkF m 127 #[.val (.int p1), .val (.int p2), .val (.int p3), .val (.int p4), .val (.ref b1), .val (.ref d), .val (.int (1 : Int32)), .val (.int (1 : Int32)), .val (.int (0 : Int32)), .val (.int (1 : Int32)), .val (.int (0 : Int32)), .val (.int (2 : Int32)), .val (.int (Int32.ofNat mm)), .val (.int (Int32.ofNat kk)), .unset, .unset, .unset, .unset] [])) tg
    refine XS.iconst X8.here hx rfl (hb hby at_127) ?_
    show Steps p.tables e below (T8.setTop (mkF m 128 #[.val (.int p1), .val (.int p2), .val (.int p3), .val (.int p4), .val (.ref b1), .val (.ref d), .val (.int (1 : Int32)), .val (.int (1 : Int32)), .val (.int (0 : Int32)), .val (.int (1 : Int32)), .val (.int (0 : Int32)), .val (.int (2 : Int32)), .val (.int (Int32.ofNat mm)), .val (.int (Int32.ofNat kk)), .unset, .unset, .unset, .unset] [(.int (2 : Int32))])) tg
    refine XS.goto X8.here hx rfl (pc0 := 128) (pc' := 132) rfl (hb hby at_128) (by decide) (by decide) ?_
    show Steps p.tables e below (T8.setTop (mkF m 132 #[.val (.int p1), .val (.int p2), .val (.int p3), .val (.int p4), .val (.ref b1), .val (.ref d), .val (.int (1 : Int32)), .val (.int (1 : Int32)), .val (.int (0 : Int32)), .val (.int (1 : Int32)), .val (.int (0 : Int32)), .val (.int (2 : Int32)), .val (.int (Int32.ofNat mm)), .val (.int (Int32.ofNat kk)), .unset, .unset, .unset, .unset] [(.int (2 : Int32))])) tg
    refine XS.istore X8.here hx rfl (hb hby at_132) rfl (l' := #[.val (.int p1), .val (.int p2), .val (.int p3), .val (.int p4), .val (.ref b1), .val (.ref d), .val (.int (1 : Int32)), .val (.int (1 : Int32)), .val (.int (0 : Int32)), .val (.int (1 : Int32)), .val (.int (0 : Int32)), .val (.int (2 : Int32)), .val (.int (Int32.ofNat mm)), .val (.int (Int32.ofNat kk)), .val (.int (2 : Int32)), .unset, .unset, .unset]) rfl ?_
    show Steps p.tables e below (T8.setTop (mkF m 134 #[.val (.int p1), .val (.int p2), .val (.int p3), .val (.int p4), .val (.ref b1), .val (.ref d), .val (.int (1 : Int32)), .val (.int (1 : Int32)), .val (.int (0 : Int32)), .val (.int (1 : Int32)), .val (.int (0 : Int32)), .val (.int (2 : Int32)), .val (.int (Int32.ofNat mm)), .val (.int (Int32.ofNat kk)), .val (.int (2 : Int32)), .unset, .unset, .unset] [])) tg
    refine XS.iconst X8.here hx rfl (hb hby at_134) ?_
    show Steps p.tables e below (T8.setTop (mkF m 135 #[.val (.int p1), .val (.int p2), .val (.int p3), .val (.int p4), .val (.ref b1), .val (.ref d), .val (.int (1 : Int32)), .val (.int (1 : Int32)), .val (.int (0 : Int32)), .val (.int (1 : Int32)), .val (.int (0 : Int32)), .val (.int (2 : Int32)), .val (.int (Int32.ofNat mm)), .val (.int (Int32.ofNat kk)), .val (.int (2 : Int32)), .unset, .unset, .unset] [(.int (0 : Int32))])) tg
    refine XS.iload X8.here hx rfl (hb hby at_135) rfl ?_
    exact kt
  by_cases hc137 : (0 : Int32) < (Int32.ofNat kk)
  · skip
    refine own_seg (T' := T8) (g' := (mkF m 140 #[.val (.int p1), .val (.int p2), .val (.int p3), .val (.int p4), .val (.ref b1), .val (.ref d), .val (.int (1 : Int32)), .val (.int (1 : Int32)), .val (.int (0 : Int32)), .val (.int (1 : Int32)), .val (.int (0 : Int32)), .val (.int (2 : Int32)), .val (.int (Int32.ofNat mm)), .val (.int (Int32.ofNat kk)), .val (.int (2 : Int32)), .unset, .unset, .unset] [])) (fun tg kt => XS.icmpNo X8.here hx rfl (hb hby at_137) rfl (tlt hc137).2.1 kt) ?_
    refine own_seg (T' := T8) (g' := (mkF m 149 #[.val (.int p1), .val (.int p2), .val (.int p3), .val (.int p4), .val (.ref b1), .val (.ref d), .val (.int (1 : Int32)), .val (.int (1 : Int32)), .val (.int (0 : Int32)), .val (.int (1 : Int32)), .val (.int (0 : Int32)), .val (.int (2 : Int32)), .val (.int (Int32.ofNat mm)), .val (.int (Int32.ofNat kk)), .val (.int (2 : Int32)), .val (.int (0 : Int32)), .unset, .unset] [(.int (1 : Int32))])) (fun tg kt => ?_) ?_
    · show Steps p.tables e below (T8.setTop (mkF m 140 #[.val (.int p1), .val (.int p2), .val (.int p3), .val (.int p4), .val (.ref b1), .val (.ref d), .val (.int (1 : Int32)), .val (.int (1 : Int32)), .val (.int (0 : Int32)), .val (.int (1 : Int32)), .val (.int (0 : Int32)), .val (.int (2 : Int32)), .val (.int (Int32.ofNat mm)), .val (.int (Int32.ofNat kk)), .val (.int (2 : Int32)), .unset, .unset, .unset] [])) tg
      refine XS.iconst X8.here hx rfl (hb hby at_140) ?_
      show Steps p.tables e below (T8.setTop (mkF m 141 #[.val (.int p1), .val (.int p2), .val (.int p3), .val (.int p4), .val (.ref b1), .val (.ref d), .val (.int (1 : Int32)), .val (.int (1 : Int32)), .val (.int (0 : Int32)), .val (.int (1 : Int32)), .val (.int (0 : Int32)), .val (.int (2 : Int32)), .val (.int (Int32.ofNat mm)), .val (.int (Int32.ofNat kk)), .val (.int (2 : Int32)), .unset, .unset, .unset] [(.int (0 : Int32))])) tg
      refine XS.goto X8.here hx rfl (pc0 := 141) (pc' := 145) rfl (hb hby at_141) (by decide) (by decide) ?_
      show Steps p.tables e below (T8.setTop (mkF m 145 #[.val (.int p1), .val (.int p2), .val (.int p3), .val (.int p4), .val (.ref b1), .val (.ref d), .val (.int (1 : Int32)), .val (.int (1 : Int32)), .val (.int (0 : Int32)), .val (.int (1 : Int32)), .val (.int (0 : Int32)), .val (.int (2 : Int32)), .val (.int (Int32.ofNat mm)), .val (.int (Int32.ofNat kk)), .val (.int (2 : Int32)), .unset, .unset, .unset] [(.int (0 : Int32))])) tg
      refine XS.istore X8.here hx rfl (hb hby at_145) rfl (l' := #[.val (.int p1), .val (.int p2), .val (.int p3), .val (.int p4), .val (.ref b1), .val (.ref d), .val (.int (1 : Int32)), .val (.int (1 : Int32)), .val (.int (0 : Int32)), .val (.int (1 : Int32)), .val (.int (0 : Int32)), .val (.int (2 : Int32)), .val (.int (Int32.ofNat mm)), .val (.int (Int32.ofNat kk)), .val (.int (2 : Int32)), .val (.int (0 : Int32)), .unset, .unset]) rfl ?_
      show Steps p.tables e below (T8.setTop (mkF m 147 #[.val (.int p1), .val (.int p2), .val (.int p3), .val (.int p4), .val (.ref b1), .val (.ref d), .val (.int (1 : Int32)), .val (.int (1 : Int32)), .val (.int (0 : Int32)), .val (.int (1 : Int32)), .val (.int (0 : Int32)), .val (.int (2 : Int32)), .val (.int (Int32.ofNat mm)), .val (.int (Int32.ofNat kk)), .val (.int (2 : Int32)), .val (.int (0 : Int32)), .unset, .unset] [])) tg
      refine XS.iload X8.here hx rfl (hb hby at_147) rfl ?_
      exact kt
    have hc149 : ¬ ((1 : Int32) = (0 : Int32)) := by decide
    refine own_seg (T' := T8) (g' := (mkF m 152 #[.val (.int p1), .val (.int p2), .val (.int p3), .val (.int p4), .val (.ref b1), .val (.ref d), .val (.int (1 : Int32)), .val (.int (1 : Int32)), .val (.int (0 : Int32)), .val (.int (1 : Int32)), .val (.int (0 : Int32)), .val (.int (2 : Int32)), .val (.int (Int32.ofNat mm)), .val (.int (Int32.ofNat kk)), .val (.int (2 : Int32)), .val (.int (0 : Int32)), .unset, .unset] [])) (fun tg kt => XS.ifNo X8.here hx rfl (hb hby at_149) rfl ((if0 _ _).trans (feq hc149).1) kt) ?_
    refine own_seg (T' := T8) (g' := (mkF m 155 #[.val (.int p1), .val (.int p2), .val (.int p3), .val (.int p4), .val (.ref b1), .val (.ref d), .val (.int (1 : Int32)), .val (.int (1 : Int32)), .val (.int (0 : Int32)), .val (.int (1 : Int32)), .val (.int (0 : Int32)), .val (.int (2 : Int32)), .val (.int (Int32.ofNat mm)), .val (.int (Int32.ofNat kk)), .val (.int (2 : Int32)), .val (.int (0 : Int32)), .unset, .unset] [(.int (Int32.ofNat kk)), (.int (1 : Int32))])) (fun tg kt => ?_) ?_
    · show Steps p.tables e below (T8.setTop (mkF m 152 #[.val (.int p1), .val (.int p2), .val (.int p3), .val (.int p4), .val (.ref b1), .val (.ref d), .val (.int (1 : Int32)), .val (.int (1 : Int32)), .val (.int (0 : Int32)), .val (.int (1 : Int32)), .val (.int (0 : Int32)), .val (.int (2 : Int32)), .val (.int (Int32.ofNat mm)), .val (.int (Int32.ofNat kk)), .val (.int (2 : Int32)), .val (.int (0 : Int32)), .unset, .unset] [])) tg
      refine XS.iconst X8.here hx rfl (hb hby at_152) ?_
      show Steps p.tables e below (T8.setTop (mkF m 153 #[.val (.int p1), .val (.int p2), .val (.int p3), .val (.int p4), .val (.ref b1), .val (.ref d), .val (.int (1 : Int32)), .val (.int (1 : Int32)), .val (.int (0 : Int32)), .val (.int (1 : Int32)), .val (.int (0 : Int32)), .val (.int (2 : Int32)), .val (.int (Int32.ofNat mm)), .val (.int (Int32.ofNat kk)), .val (.int (2 : Int32)), .val (.int (0 : Int32)), .unset, .unset] [(.int (1 : Int32))])) tg
      refine XS.iload X8.here hx rfl (hb hby at_153) rfl ?_
      exact kt
    by_cases hc155 : (1 : Int32) < (Int32.ofNat kk)
    · skip
      refine own_seg (T' := T8) (g' := (mkF m 158 #[.val (.int p1), .val (.int p2), .val (.int p3), .val (.int p4), .val (.ref b1), .val (.ref d), .val (.int (1 : Int32)), .val (.int (1 : Int32)), .val (.int (0 : Int32)), .val (.int (1 : Int32)), .val (.int (0 : Int32)), .val (.int (2 : Int32)), .val (.int (Int32.ofNat mm)), .val (.int (Int32.ofNat kk)), .val (.int (2 : Int32)), .val (.int (0 : Int32)), .unset, .unset] [])) (fun tg kt => XS.icmpNo X8.here hx rfl (hb hby at_155) rfl (tlt hc155).2.1 kt) ?_
      refine own_seg (T' := T8) (g' := (mkF m 172 #[.val (.int p1), .val (.int p2), .val (.int p3), .val (.int p4), .val (.ref b1), .val (.ref d), .val (.int (1 : Int32)), .val (.int (1 : Int32)), .val (.int (0 : Int32)), .val (.int (1 : Int32)), .val (.int (0 : Int32)), .val (.int (2 : Int32)), .val (.int (Int32.ofNat mm)), .val (.int (Int32.ofNat kk)), .val (.int (2 : Int32)), .val (.int (0 : Int32)), .val (.int (1 : Int32)), .unset] [(.int (0 : Int32))])) (fun tg kt => ?_) ?_
      · show Steps p.tables e below (T8.setTop (mkF m 158 #[.val (.int p1), .val (.int p2), .val (.int p3), .val (.int p4), .val (.ref b1), .val (.ref d), .val (.int (1 : Int32)), .val (.int (1 : Int32)), .val (.int (0 : Int32)), .val (.int (1 : Int32)), .val (.int (0 : Int32)), .val (.int (2 : Int32)), .val (.int (Int32.ofNat mm)), .val (.int (Int32.ofNat kk)), .val (.int (2 : Int32)), .val (.int (0 : Int32)), .unset, .unset] [])) tg
        refine XS.iconst X8.here hx rfl (hb hby at_158) ?_
        show Steps p.tables e below (T8.setTop (mkF m 159 #[.val (.int p1), .val (.int p2), .val (.int p3), .val (.int p4), .val (.ref b1), .val (.ref d), .val (.int (1 : Int32)), .val (.int (1 : Int32)), .val (.int (0 : Int32)), .val (.int (1 : Int32)), .val (.int (0 : Int32)), .val (.int (2 : Int32)), .val (.int (Int32.ofNat mm)), .val (.int (Int32.ofNat kk)), .val (.int (2 : Int32)), .val (.int (0 : Int32)), .unset, .unset] [(.int (1 : Int32))])) tg
        refine XS.goto X8.here hx rfl (pc0 := 159) (pc' := 168) rfl (hb hby at_159) (by decide) (by decide) ?_
        show Steps p.tables e below (T8.setTop (mkF m 168 #[.val (.int p1), .val (.int p2), .val (.int p3), .val (.int p4), .val (.ref b1), .val (.ref d), .val (.int (1 : Int32)), .val (.int (1 : Int32)), .val (.int (0 : Int32)), .val (.int (1 : Int32)), .val (.int (0 : Int32)), .val (.int (2 : Int32)), .val (.int (Int32.ofNat mm)), .val (.int (Int32.ofNat kk)), .val (.int (2 : Int32)), .val (.int (0 : Int32)), .unset, .unset] [(.int (1 : Int32))])) tg
        refine XS.istore X8.here hx rfl (hb hby at_168) rfl (l' := #[.val (.int p1), .val (.int p2), .val (.int p3), .val (.int p4), .val (.ref b1), .val (.ref d), .val (.int (1 : Int32)), .val (.int (1 : Int32)), .val (.int (0 : Int32)), .val (.int (1 : Int32)), .val (.int (0 : Int32)), .val (.int (2 : Int32)), .val (.int (Int32.ofNat mm)), .val (.int (Int32.ofNat kk)), .val (.int (2 : Int32)), .val (.int (0 : Int32)), .val (.int (1 : Int32)), .unset]) rfl ?_
        show Steps p.tables e below (T8.setTop (mkF m 170 #[.val (.int p1), .val (.int p2), .val (.int p3), .val (.int p4), .val (.ref b1), .val (.ref d), .val (.int (1 : Int32)), .val (.int (1 : Int32)), .val (.int (0 : Int32)), .val (.int (1 : Int32)), .val (.int (0 : Int32)), .val (.int (2 : Int32)), .val (.int (Int32.ofNat mm)), .val (.int (Int32.ofNat kk)), .val (.int (2 : Int32)), .val (.int (0 : Int32)), .val (.int (1 : Int32)), .unset] [])) tg
        refine XS.iload X8.here hx rfl (hb hby at_170) rfl ?_
        exact kt
      have hc172 : (0 : Int32) = (0 : Int32) := by decide
      refine own_seg (T' := T8) (g' := (mkF m 191 #[.val (.int p1), .val (.int p2), .val (.int p3), .val (.int p4), .val (.ref b1), .val (.ref d), .val (.int (1 : Int32)), .val (.int (1 : Int32)), .val (.int (0 : Int32)), .val (.int (1 : Int32)), .val (.int (0 : Int32)), .val (.int (2 : Int32)), .val (.int (Int32.ofNat mm)), .val (.int (Int32.ofNat kk)), .val (.int (2 : Int32)), .val (.int (0 : Int32)), .val (.int (1 : Int32)), .unset] [])) (fun tg kt => XS.ifYes X8.here hx rfl (pc0 := 172) (pc' := 191) rfl (hb hby at_172) rfl ((if0 _ _).trans (teq hc172).1) (by decide) (by decide) kt) ?_
      refine own_seg (T' := T8) (g' := (mkF m 193 #[.val (.int p1), .val (.int p2), .val (.int p3), .val (.int p4), .val (.ref b1), .val (.ref d), .val (.int (1 : Int32)), .val (.int (1 : Int32)), .val (.int (0 : Int32)), .val (.int (1 : Int32)), .val (.int (0 : Int32)), .val (.int (2 : Int32)), .val (.int (Int32.ofNat mm)), .val (.int (Int32.ofNat kk)), .val (.int (2 : Int32)), .val (.int (0 : Int32)), .val (.int (1 : Int32)), .unset] [(.int p1), (.int p3)])) (fun tg kt => ?_) ?_
      · show Steps p.tables e below (T8.setTop (mkF m 191 #[.val (.int p1), .val (.int p2), .val (.int p3), .val (.int p4), .val (.ref b1), .val (.ref d), .val (.int (1 : Int32)), .val (.int (1 : Int32)), .val (.int (0 : Int32)), .val (.int (1 : Int32)), .val (.int (0 : Int32)), .val (.int (2 : Int32)), .val (.int (Int32.ofNat mm)), .val (.int (Int32.ofNat kk)), .val (.int (2 : Int32)), .val (.int (0 : Int32)), .val (.int (1 : Int32)), .unset] [])) tg
        refine XS.iloadN X8.here hx rfl (hb hby at_191) rfl ?_
        show Steps p.tables e below (T8.setTop (mkF m 192 #[.val (.int p1), .val (.int p2), .val (.int p3), .val (.int p4), .val (.ref b1), .val (.ref d), .val (.int (1 : Int32)), .val (.int (1 : Int32)), .val (.int (0 : Int32)), .val (.int (1 : Int32)), .val (.int (0 : Int32)), .val (.int (2 : Int32)), .val (.int (Int32.ofNat mm)), .val (.int (Int32.ofNat kk)), .val (.int (2 : Int32)), .val (.int (0 : Int32)), .val (.int (1 : Int32)), .unset] [(.int p3)])) tg
        refine XS.iloadN X8.here hx rfl (hb hby at_192) rfl ?_
        exact kt
      have hc193 : ¬ (p3 = p1) := hca
      refine own_seg (T' := T8) (g' := (mkF m 201 #[.val (.int p1), .val (.int p2), .val (.int p3), .val (.int p4), .val (.ref b1), .val (.ref d), .val (.int (1 : Int32)), .val (.int (1 : Int32)), .val (.int (0 : Int32)), .val (.int (1 : Int32)), .val (.int (0 : Int32)), .val (.int (2 : Int32)), .val (.int (Int32.ofNat mm)), .val (.int (Int32.ofNat kk)), .val (.int (2 : Int32)), .val (.int (0 : Int32)), .val (.int (1 : Int32)), .unset] [])) (fun tg kt => XS.icmpYes X8.here hx rfl (pc0 := 193) (pc' := 201) rfl (hb hby at_193) rfl (feq hc193).2 (by decide) (by decide) kt) ?_
      refine own_seg (T' := T8) (g' := (mkF m 205 #[.val (.int p1), .val (.int p2), .val (.int p3), .val (.int p4), .val (.ref b1), .val (.ref d), .val (.int (1 : Int32)), .val (.int (1 : Int32)), .val (.int (0 : Int32)), .val (.int (1 : Int32)), .val (.int (0 : Int32)), .val (.int (2 : Int32)), .val (.int (Int32.ofNat mm)), .val (.int (Int32.ofNat kk)), .val (.int (2 : Int32)), .val (.int (0 : Int32)), .val (.int (1 : Int32)), .val (.int (1 : Int32))] [])) (fun tg kt => ?_) ?_
      · show Steps p.tables e below (T8.setTop (mkF m 201 #[.val (.int p1), .val (.int p2), .val (.int p3), .val (.int p4), .val (.ref b1), .val (.ref d), .val (.int (1 : Int32)), .val (.int (1 : Int32)), .val (.int (0 : Int32)), .val (.int (1 : Int32)), .val (.int (0 : Int32)), .val (.int (2 : Int32)), .val (.int (Int32.ofNat mm)), .val (.int (Int32.ofNat kk)), .val (.int (2 : Int32)), .val (.int (0 : Int32)), .val (.int (1 : Int32)), .unset] [])) tg
        refine XS.iload X8.here hx rfl (hb hby at_201) rfl ?_
        show Steps p.tables e below (T8.setTop (mkF m 203 #[.val (.int p1), .val (.int p2), .val (.int p3), .val (.int p4), .val (.ref b1), .val (.ref d), .val (.int (1 : Int32)), .val (.int (1 : Int32)), .val (.int (0 : Int32)), .val (.int (1 : Int32)), .val (.int (0 : Int32)), .val (.int (2 : Int32)), .val (.int (Int32.ofNat mm)), .val (.int (Int32.ofNat kk)), .val (.int (2 : Int32)), .val (.int (0 : Int32)), .val (.int (1 : Int32)), .unset] [(.int (1 : Int32))])) tg
        refine XS.istore X8.here hx rfl (hb hby at_203) rfl (l' := #[.val (.int p1), .val (.int p2), .val (.int p3), .val (.int p4), .val (.ref b1), .val (.ref d), .val (.int (1 : Int32)), .val (.int (1 : Int32)), .val (.int (0 : Int32)), .val (.int (1 : Int32)), .val (.int (0 : Int32)), .val (.int (2 : Int32)), .val (.int (Int32.ofNat mm)), .val (.int (Int32.ofNat kk)), .val (.int (2 : Int32)), .val (.int (0 : Int32)), .val (.int (1 : Int32)), .val (.int (1 : Int32))]) rfl ?_
        exact kt
      have kk3 : kk ≤ 3 := hTk.1
      exact sg205 hw p1 p2 p3 p4 b1 t1 t2 t3 d kk uk _ (1 : Int32) (0 : Int32) (1 : Int32) (0 : Int32) (2 : Int32) (Int32.ofNat mm) (2 : Int32) (0 : Int32) (1 : Int32) (1 : Int32) K X8 e8 N8 Z7 P_a P_1 P_2 P_3 hTk rfl rfl (own_idx_hit hTk (i := 0) ((own_ltl (e := 0) (by omega) (by omega)).mp hc137) rfl) (own_idx_hit hTk (i := 1) ((own_ltl (e := 1) (by omega) (by omega)).mp hc155) rfl) (own_idx_hit hTk (i := 1) ((own_ltl (e := 1) (by omega) (by omega)).mp hc155) hcb.symm)
    · skip
      refine own_seg (T' := T8) (g' := (mkF m 162 #[.val (.int p1), .val (.int p2), .val (.int p3), .val (.int p4), .val (.ref b1), .val (.ref d), .val (.int (1 : Int32)), .val (.int (1 : Int32)), .val (.int (0 : Int32)), .val (.int (1 : Int32)), .val (.int (0 : Int32)), .val (.int (2 : Int32)), .val (.int (Int32.ofNat mm)), .val (.int (Int32.ofNat kk)), .val (.int (2 : Int32)), .val (.int (0 : Int32)), .unset, .unset] [])) (fun tg kt => XS.icmpYes X8.here hx rfl (pc0 := 155) (pc' := 162) rfl (hb hby at_155) rfl (flt hc155).2.1 (by decide) (by decide) kt) ?_
      refine own_seg (T' := T8) (g' := (mkF m 172 #[.val (.int p1), .val (.int p2), .val (.int p3), .val (.int p4), .val (.ref b1), .val (.ref d), .val (.int (1 : Int32)), .val (.int (1 : Int32)), .val (.int (0 : Int32)), .val (.int (1 : Int32)), .val (.int (0 : Int32)), .val (.int (2 : Int32)), .val (.int (Int32.ofNat mm)), .val (.int (Int32.ofNat kk)), .val (.int (2 : Int32)), .val (.int (0 : Int32)), .val (.int (-1 : Int32)), .unset] [(.int (0 : Int32))])) (fun tg kt => ?_) ?_
      · show Steps p.tables e below (T8.setTop (mkF m 162 #[.val (.int p1), .val (.int p2), .val (.int p3), .val (.int p4), .val (.ref b1), .val (.ref d), .val (.int (1 : Int32)), .val (.int (1 : Int32)), .val (.int (0 : Int32)), .val (.int (1 : Int32)), .val (.int (0 : Int32)), .val (.int (2 : Int32)), .val (.int (Int32.ofNat mm)), .val (.int (Int32.ofNat kk)), .val (.int (2 : Int32)), .val (.int (0 : Int32)), .unset, .unset] [])) tg
        refine XS.iconst X8.here hx rfl (hb hby at_162) ?_
        show Steps p.tables e below (T8.setTop (mkF m 163 #[.val (.int p1), .val (.int p2), .val (.int p3), .val (.int p4), .val (.ref b1), .val (.ref d), .val (.int (1 : Int32)), .val (.int (1 : Int32)), .val (.int (0 : Int32)), .val (.int (1 : Int32)), .val (.int (0 : Int32)), .val (.int (2 : Int32)), .val (.int (Int32.ofNat mm)), .val (.int (Int32.ofNat kk)), .val (.int (2 : Int32)), .val (.int (0 : Int32)), .unset, .unset] [(.int (-1 : Int32))])) tg
        refine XS.goto X8.here hx rfl (pc0 := 163) (pc' := 168) rfl (hb hby at_163) (by decide) (by decide) ?_
        show Steps p.tables e below (T8.setTop (mkF m 168 #[.val (.int p1), .val (.int p2), .val (.int p3), .val (.int p4), .val (.ref b1), .val (.ref d), .val (.int (1 : Int32)), .val (.int (1 : Int32)), .val (.int (0 : Int32)), .val (.int (1 : Int32)), .val (.int (0 : Int32)), .val (.int (2 : Int32)), .val (.int (Int32.ofNat mm)), .val (.int (Int32.ofNat kk)), .val (.int (2 : Int32)), .val (.int (0 : Int32)), .unset, .unset] [(.int (-1 : Int32))])) tg
        refine XS.istore X8.here hx rfl (hb hby at_168) rfl (l' := #[.val (.int p1), .val (.int p2), .val (.int p3), .val (.int p4), .val (.ref b1), .val (.ref d), .val (.int (1 : Int32)), .val (.int (1 : Int32)), .val (.int (0 : Int32)), .val (.int (1 : Int32)), .val (.int (0 : Int32)), .val (.int (2 : Int32)), .val (.int (Int32.ofNat mm)), .val (.int (Int32.ofNat kk)), .val (.int (2 : Int32)), .val (.int (0 : Int32)), .val (.int (-1 : Int32)), .unset]) rfl ?_
        show Steps p.tables e below (T8.setTop (mkF m 170 #[.val (.int p1), .val (.int p2), .val (.int p3), .val (.int p4), .val (.ref b1), .val (.ref d), .val (.int (1 : Int32)), .val (.int (1 : Int32)), .val (.int (0 : Int32)), .val (.int (1 : Int32)), .val (.int (0 : Int32)), .val (.int (2 : Int32)), .val (.int (Int32.ofNat mm)), .val (.int (Int32.ofNat kk)), .val (.int (2 : Int32)), .val (.int (0 : Int32)), .val (.int (-1 : Int32)), .unset] [])) tg
        refine XS.iload X8.here hx rfl (hb hby at_170) rfl ?_
        exact kt
      have hc172 : (0 : Int32) = (0 : Int32) := by decide
      refine own_seg (T' := T8) (g' := (mkF m 191 #[.val (.int p1), .val (.int p2), .val (.int p3), .val (.int p4), .val (.ref b1), .val (.ref d), .val (.int (1 : Int32)), .val (.int (1 : Int32)), .val (.int (0 : Int32)), .val (.int (1 : Int32)), .val (.int (0 : Int32)), .val (.int (2 : Int32)), .val (.int (Int32.ofNat mm)), .val (.int (Int32.ofNat kk)), .val (.int (2 : Int32)), .val (.int (0 : Int32)), .val (.int (-1 : Int32)), .unset] [])) (fun tg kt => XS.ifYes X8.here hx rfl (pc0 := 172) (pc' := 191) rfl (hb hby at_172) rfl ((if0 _ _).trans (teq hc172).1) (by decide) (by decide) kt) ?_
      refine own_seg (T' := T8) (g' := (mkF m 193 #[.val (.int p1), .val (.int p2), .val (.int p3), .val (.int p4), .val (.ref b1), .val (.ref d), .val (.int (1 : Int32)), .val (.int (1 : Int32)), .val (.int (0 : Int32)), .val (.int (1 : Int32)), .val (.int (0 : Int32)), .val (.int (2 : Int32)), .val (.int (Int32.ofNat mm)), .val (.int (Int32.ofNat kk)), .val (.int (2 : Int32)), .val (.int (0 : Int32)), .val (.int (-1 : Int32)), .unset] [(.int p1), (.int p3)])) (fun tg kt => ?_) ?_
      · show Steps p.tables e below (T8.setTop (mkF m 191 #[.val (.int p1), .val (.int p2), .val (.int p3), .val (.int p4), .val (.ref b1), .val (.ref d), .val (.int (1 : Int32)), .val (.int (1 : Int32)), .val (.int (0 : Int32)), .val (.int (1 : Int32)), .val (.int (0 : Int32)), .val (.int (2 : Int32)), .val (.int (Int32.ofNat mm)), .val (.int (Int32.ofNat kk)), .val (.int (2 : Int32)), .val (.int (0 : Int32)), .val (.int (-1 : Int32)), .unset] [])) tg
        refine XS.iloadN X8.here hx rfl (hb hby at_191) rfl ?_
        show Steps p.tables e below (T8.setTop (mkF m 192 #[.val (.int p1), .val (.int p2), .val (.int p3), .val (.int p4), .val (.ref b1), .val (.ref d), .val (.int (1 : Int32)), .val (.int (1 : Int32)), .val (.int (0 : Int32)), .val (.int (1 : Int32)), .val (.int (0 : Int32)), .val (.int (2 : Int32)), .val (.int (Int32.ofNat mm)), .val (.int (Int32.ofNat kk)), .val (.int (2 : Int32)), .val (.int (0 : Int32)), .val (.int (-1 : Int32)), .unset] [(.int p3)])) tg
        refine XS.iloadN X8.here hx rfl (hb hby at_192) rfl ?_
        exact kt
      have hc193 : ¬ (p3 = p1) := hca
      refine own_seg (T' := T8) (g' := (mkF m 201 #[.val (.int p1), .val (.int p2), .val (.int p3), .val (.int p4), .val (.ref b1), .val (.ref d), .val (.int (1 : Int32)), .val (.int (1 : Int32)), .val (.int (0 : Int32)), .val (.int (1 : Int32)), .val (.int (0 : Int32)), .val (.int (2 : Int32)), .val (.int (Int32.ofNat mm)), .val (.int (Int32.ofNat kk)), .val (.int (2 : Int32)), .val (.int (0 : Int32)), .val (.int (-1 : Int32)), .unset] [])) (fun tg kt => XS.icmpYes X8.here hx rfl (pc0 := 193) (pc' := 201) rfl (hb hby at_193) rfl (feq hc193).2 (by decide) (by decide) kt) ?_
      refine own_seg (T' := T8) (g' := (mkF m 205 #[.val (.int p1), .val (.int p2), .val (.int p3), .val (.int p4), .val (.ref b1), .val (.ref d), .val (.int (1 : Int32)), .val (.int (1 : Int32)), .val (.int (0 : Int32)), .val (.int (1 : Int32)), .val (.int (0 : Int32)), .val (.int (2 : Int32)), .val (.int (Int32.ofNat mm)), .val (.int (Int32.ofNat kk)), .val (.int (2 : Int32)), .val (.int (0 : Int32)), .val (.int (-1 : Int32)), .val (.int (-1 : Int32))] [])) (fun tg kt => ?_) ?_
      · show Steps p.tables e below (T8.setTop (mkF m 201 #[.val (.int p1), .val (.int p2), .val (.int p3), .val (.int p4), .val (.ref b1), .val (.ref d), .val (.int (1 : Int32)), .val (.int (1 : Int32)), .val (.int (0 : Int32)), .val (.int (1 : Int32)), .val (.int (0 : Int32)), .val (.int (2 : Int32)), .val (.int (Int32.ofNat mm)), .val (.int (Int32.ofNat kk)), .val (.int (2 : Int32)), .val (.int (0 : Int32)), .val (.int (-1 : Int32)), .unset] [])) tg
        refine XS.iload X8.here hx rfl (hb hby at_201) rfl ?_
        show Steps p.tables e below (T8.setTop (mkF m 203 #[.val (.int p1), .val (.int p2), .val (.int p3), .val (.int p4), .val (.ref b1), .val (.ref d), .val (.int (1 : Int32)), .val (.int (1 : Int32)), .val (.int (0 : Int32)), .val (.int (1 : Int32)), .val (.int (0 : Int32)), .val (.int (2 : Int32)), .val (.int (Int32.ofNat mm)), .val (.int (Int32.ofNat kk)), .val (.int (2 : Int32)), .val (.int (0 : Int32)), .val (.int (-1 : Int32)), .unset] [(.int (-1 : Int32))])) tg
        refine XS.istore X8.here hx rfl (hb hby at_203) rfl (l' := #[.val (.int p1), .val (.int p2), .val (.int p3), .val (.int p4), .val (.ref b1), .val (.ref d), .val (.int (1 : Int32)), .val (.int (1 : Int32)), .val (.int (0 : Int32)), .val (.int (1 : Int32)), .val (.int (0 : Int32)), .val (.int (2 : Int32)), .val (.int (Int32.ofNat mm)), .val (.int (Int32.ofNat kk)), .val (.int (2 : Int32)), .val (.int (0 : Int32)), .val (.int (-1 : Int32)), .val (.int (-1 : Int32))]) rfl ?_
        exact kt
      have kk3 : kk ≤ 3 := hTk.1
      exact sg205 hw p1 p2 p3 p4 b1 t1 t2 t3 d kk uk _ (1 : Int32) (0 : Int32) (1 : Int32) (0 : Int32) (2 : Int32) (Int32.ofNat mm) (2 : Int32) (0 : Int32) (-1 : Int32) (-1 : Int32) K X8 e8 N8 Z7 P_a P_1 P_2 P_3 hTk rfl rfl (own_idx_hit hTk (i := 0) ((own_ltl (e := 0) (by omega) (by omega)).mp hc137) rfl) (own_idx_miss (fun i hi e => by have z : ¬ 1 < kk := fun z => hc155 ((own_ltl (e := 1) (by omega) (by omega)).mpr z); rcases (by omega : i = 0 ∨ i = 1) with rfl | rfl <;> first | omega | exact hba e.symm | exact hca e.symm | exact hcb e.symm)) (own_idx_miss (fun i hi e => by have z : ¬ 1 < kk := fun z => hc155 ((own_ltl (e := 1) (by omega) (by omega)).mpr z); rcases (by omega : i = 0 ∨ i = 1) with rfl | rfl <;> first | omega | exact hba e.symm | exact hca e.symm | exact hcb e.symm))
  · skip
    refine own_seg (T' := T8) (g' := (mkF m 144 #[.val (.int p1), .val (.int p2), .val (.int p3), .val (.int p4), .val (.ref b1), .val (.ref d), .val (.int (1 : Int32)), .val (.int (1 : Int32)), .val (.int (0 : Int32)), .val (.int (1 : Int32)), .val (.int (0 : Int32)), .val (.int (2 : Int32)), .val (.int (Int32.ofNat mm)), .val (.int (Int32.ofNat kk)), .val (.int (2 : Int32)), .unset, .unset, .unset] [])) (fun tg kt => XS.icmpYes X8.here hx rfl (pc0 := 137) (pc' := 144) rfl (hb hby at_137) rfl (flt hc137).2.1 (by decide) (by decide) kt) ?_
    refine own_seg (T' := T8) (g' := (mkF m 149 #[.val (.int p1), .val (.int p2), .val (.int p3), .val (.int p4), .val (.ref b1), .val (.ref d), .val (.int (1 : Int32)), .val (.int (1 : Int32)), .val (.int (0 : Int32)), .val (.int (1 : Int32)), .val (.int (0 : Int32)), .val (.int (2 : Int32)), .val (.int (Int32.ofNat mm)), .val (.int (Int32.ofNat kk)), .val (.int (2 : Int32)), .val (.int (-1 : Int32)), .unset, .unset] [(.int (1 : Int32))])) (fun tg kt => ?_) ?_
    · show Steps p.tables e below (T8.setTop (mkF m 144 #[.val (.int p1), .val (.int p2), .val (.int p3), .val (.int p4), .val (.ref b1), .val (.ref d), .val (.int (1 : Int32)), .val (.int (1 : Int32)), .val (.int (0 : Int32)), .val (.int (1 : Int32)), .val (.int (0 : Int32)), .val (.int (2 : Int32)), .val (.int (Int32.ofNat mm)), .val (.int (Int32.ofNat kk)), .val (.int (2 : Int32)), .unset, .unset, .unset] [])) tg
      refine XS.iconst X8.here hx rfl (hb hby at_144) ?_
      show Steps p.tables e below (T8.setTop (mkF m 145 #[.val (.int p1), .val (.int p2), .val (.int p3), .val (.int p4), .val (.ref b1), .val (.ref d), .val (.int (1 : Int32)), .val (.int (1 : Int32)), .val (.int (0 : Int32)), .val (.int (1 : Int32)), .val (.int (0 : Int32)), .val (.int (2 : Int32)), .val (.int (Int32.ofNat mm)), .val (.int (Int32.ofNat kk)), .val (.int (2 : Int32)), .unset, .unset, .unset] [(.int (-1 : Int32))])) tg
      refine XS.istore X8.here hx rfl (hb hby at_145) rfl (l' := #[.val (.int p1), .val (.int p2), .val (.int p3), .val (.int p4), .val (.ref b1), .val (.ref d), .val (.int (1 : Int32)), .val (.int (1 : Int32)), .val (.int (0 : Int32)), .val (.int (1 : Int32)), .val (.int (0 : Int32)), .val (.int (2 : Int32)), .val (.int (Int32.ofNat mm)), .val (.int (Int32.ofNat kk)), .val (.int (2 : Int32)), .val (.int (-1 : Int32)), .unset, .unset]) rfl ?_
      show Steps p.tables e below (T8.setTop (mkF m 147 #[.val (.int p1), .val (.int p2), .val (.int p3), .val (.int p4), .val (.ref b1), .val (.ref d), .val (.int (1 : Int32)), .val (.int (1 : Int32)), .val (.int (0 : Int32)), .val (.int (1 : Int32)), .val (.int (0 : Int32)), .val (.int (2 : Int32)), .val (.int (Int32.ofNat mm)), .val (.int (Int32.ofNat kk)), .val (.int (2 : Int32)), .val (.int (-1 : Int32)), .unset, .unset] [])) tg
      refine XS.iload X8.here hx rfl (hb hby at_147) rfl ?_
      exact kt
    have hc149 : ¬ ((1 : Int32) = (0 : Int32)) := by decide
    refine own_seg (T' := T8) (g' := (mkF m 152 #[.val (.int p1), .val (.int p2), .val (.int p3), .val (.int p4), .val (.ref b1), .val (.ref d), .val (.int (1 : Int32)), .val (.int (1 : Int32)), .val (.int (0 : Int32)), .val (.int (1 : Int32)), .val (.int (0 : Int32)), .val (.int (2 : Int32)), .val (.int (Int32.ofNat mm)), .val (.int (Int32.ofNat kk)), .val (.int (2 : Int32)), .val (.int (-1 : Int32)), .unset, .unset] [])) (fun tg kt => XS.ifNo X8.here hx rfl (hb hby at_149) rfl ((if0 _ _).trans (feq hc149).1) kt) ?_
    refine own_seg (T' := T8) (g' := (mkF m 155 #[.val (.int p1), .val (.int p2), .val (.int p3), .val (.int p4), .val (.ref b1), .val (.ref d), .val (.int (1 : Int32)), .val (.int (1 : Int32)), .val (.int (0 : Int32)), .val (.int (1 : Int32)), .val (.int (0 : Int32)), .val (.int (2 : Int32)), .val (.int (Int32.ofNat mm)), .val (.int (Int32.ofNat kk)), .val (.int (2 : Int32)), .val (.int (-1 : Int32)), .unset, .unset] [(.int (Int32.ofNat kk)), (.int (1 : Int32))])) (fun tg kt => ?_) ?_
    · show Steps p.tables e below (T8.setTop (mkF m 152 #[.val (.int p1), .val (.int p2), .val (.int p3), .val (.int p4), .val (.ref b1), .val (.ref d), .val (.int (1 : Int32)), .val (.int (1 : Int32)), .val (.int (0 : Int32)), .val (.int (1 : Int32)), .val (.int (0 : Int32)), .val (.int (2 : Int32)), .val (.int (Int32.ofNat mm)), .val (.int (Int32.ofNat kk)), .val (.int (2 : Int32)), .val (.int (-1 : Int32)), .unset, .unset] [])) tg
      refine XS.iconst X8.here hx rfl (hb hby at_152) ?_
      show Steps p.tables e below (T8.setTop (mkF m 153 #[.val (.int p1), .val (.int p2), .val (.int p3), .val (.int p4), .val (.ref b1), .val (.ref d), .val (.int (1 : Int32)), .val (.int (1 : Int32)), .val (.int (0 : Int32)), .val (.int (1 : Int32)), .val (.int (0 : Int32)), .val (.int (2 : Int32)), .val (.int (Int32.ofNat mm)), .val (.int (Int32.ofNat kk)), .val (.int (2 : Int32)), .val (.int (-1 : Int32)), .unset, .unset] [(.int (1 : Int32))])) tg
      refine XS.iload X8.here hx rfl (hb hby at_153) rfl ?_
      exact kt
    by_cases hc155 : (1 : Int32) < (Int32.ofNat kk)
    · skip
      refine own_seg (T' := T8) (g' := (mkF m 158 #[.val (.int p1), .val (.int p2), .val (.int p3), .val (.int p4), .val (.ref b1), .val (.ref d), .val (.int (1 : Int32)), .val (.int (1 : Int32)), .val (.int (0 : Int32)), .val (.int (1 : Int32)), .val (.int (0 : Int32)), .val (.int (2 : Int32)), .val (.int (Int32.ofNat mm)), .val (.int (Int32.ofNat kk)), .val (.int (2 : Int32)), .val (.int (-1 : Int32)), .unset, .unset] [])) (fun tg kt => XS.icmpNo X8.here hx rfl (hb hby at_155) rfl (tlt hc155).2.1 kt) ?_
      refine own_seg (T' := T8) (g' := (mkF m 172 #[.val (.int p1), .val (.int p2), .val (.int p3), .val (.int p4), .val (.ref b1), .val (.ref d), .val (.int (1 : Int32)), .val (.int (1 : Int32)), .val (.int (0 : Int32)), .val (.int (1 : Int32)), .val (.int (0 : Int32)), .val (.int (2 : Int32)), .val (.int (Int32.ofNat mm)), .val (.int (Int32.ofNat kk)), .val (.int (2 : Int32)), .val (.int (-1 : Int32)), .val (.int (1 : Int32)), .unset] [(.int (0 : Int32))])) (fun tg kt => ?_) ?_
      · show Steps p.tables e below (T8.setTop (mkF m 158 #[.val (.int p1), .val (.int p2), .val (.int p3), .val (.int p4), .val (.ref b1), .val (.ref d), .val (.int (1 : Int32)), .val (.int (1 : Int32)), .val (.int (0 : Int32)), .val (.int (1 : Int32)), .val (.int (0 : Int32)), .val (.int (2 : Int32)), .val (.int (Int32.ofNat mm)), .val (.int (Int32.ofNat kk)), .val (.int (2 : Int32)), .val (.int (-1 : Int32)), .unset, .unset] [])) tg
        refine XS.iconst X8.here hx rfl (hb hby at_158) ?_
        show Steps p.tables e below (T8.setTop (mkF m 159 #[.val (.int p1), .val (.int p2), .val (.int p3), .val (.int p4), .val (.ref b1), .val (.ref d), .val (.int (1 : Int32)), .val (.int (1 : Int32)), .val (.int (0 : Int32)), .val (.int (1 : Int32)), .val (.int (0 : Int32)), .val (.int (2 : Int32)), .val (.int (Int32.ofNat mm)), .val (.int (Int32.ofNat kk)), .val (.int (2 : Int32)), .val (.int (-1 : Int32)), .unset, .unset] [(.int (1 : Int32))])) tg
        refine XS.goto X8.here hx rfl (pc0 := 159) (pc' := 168) rfl (hb hby at_159) (by decide) (by decide) ?_
        show Steps p.tables e below (T8.setTop (mkF m 168 #[.val (.int p1), .val (.int p2), .val (.int p3), .val (.int p4), .val (.ref b1), .val (.ref d), .val (.int (1 : Int32)), .val (.int (1 : Int32)), .val (.int (0 : Int32)), .val (.int (1 : Int32)), .val (.int (0 : Int32)), .val (.int (2 : Int32)), .val (.int (Int32.ofNat mm)), .val (.int (Int32.ofNat kk)), .val (.int (2 : Int32)), .val (.int (-1 : Int32)), .unset, .unset] [(.int (1 : Int32))])) tg
        refine XS.istore X8.here hx rfl (hb hby at_168) rfl (l' := #[.val (.int p1), .val (.int p2), .val (.int p3), .val (.int p4), .val (.ref b1), .val (.ref d), .val (.int (1 : Int32)), .val (.int (1 : Int32)), .val (.int (0 : Int32)), .val (.int (1 : Int32)), .val (.int (0 : Int32)), .val (.int (2 : Int32)), .val (.int (Int32.ofNat mm)), .val (.int (Int32.ofNat kk)), .val (.int (2 : Int32)), .val (.int (-1 : Int32)), .val (.int (1 : Int32)), .unset]) rfl ?_
        show Steps p.tables e below (T8.setTop (mkF m 170 #[.val (.int p1), .val (.int p2), .val (.int p3), .val (.int p4), .val (.ref b1), .val (.ref d), .val (.int (1 : Int32)), .val (.int (1 : Int32)), .val (.int (0 : Int32)), .val (.int (1 : Int32)), .val (.int (0 : Int32)), .val (.int (2 : Int32)), .val (.int (Int32.ofNat mm)), .val (.int (Int32.ofNat kk)), .val (.int (2 : Int32)), .val (.int (-1 : Int32)), .val (.int (1 : Int32)), .unset] [])) tg
        refine XS.iload X8.here hx rfl (hb hby at_170) rfl ?_
        exact kt
      have hc172 : (0 : Int32) = (0 : Int32) := by decide
      refine own_seg (T' := T8) (g' := (mkF m 191 #[.val (.int p1), .val (.int p2), .val (.int p3), .val (.int p4), .val (.ref b1), .val (.ref d), .val (.int (1 : Int32)), .val (.int (1 : Int32)), .val (.int (0 : Int32)), .val (.int (1 : Int32)), .val (.int (0 : Int32)), .val (.int (2 : Int32)), .val (.int (Int32.ofNat mm)), .val (.int (Int32.ofNat kk)), .val (.int (2 : Int32)), .val (.int (-1 : Int32)), .val (.int (1 : Int32)), .unset] [])) (fun tg kt => XS.ifYes X8.here hx rfl (pc0 := 172) (pc' := 191) rfl (hb hby at_172) rfl ((if0 _ _).trans (teq hc172).1) (by decide) (by decide) kt) ?_
      refine own_seg (T' := T8) (g' := (mkF m 193 #[.val (.int p1), .val (.int p2), .val (.int p3), .val (.int p4), .val (.ref b1), .val (.ref d), .val (.int (1 : Int32)), .val (.int (1 : Int32)), .val (.int (0 : Int32)), .val (.int (1 : Int32)), .val (.int (0 : Int32)), .val (.int (2 : Int32)), .val (.int (Int32.ofNat mm)), .val (.int (Int32.ofNat kk)), .val (.int (2 : Int32)), .val (.int (-1 : Int32)), .val (.int (1 : Int32)), .unset] [(.int p1), (.int p3)])) (fun tg kt => ?_) ?_
      · show Steps p.tables e below (T8.setTop (mkF m 191 #[.val (.int p1), .val (.int p2), .val (.int p3), .val (.int p4), .val (.ref b1), .val (.ref d), .val (.int (1 : Int32)), .val (.int (1 : Int32)), .val (.int (0 : Int32)), .val (.int (1 : Int32)), .val (.int (0 : Int32)), .val (.int (2 : Int32)), .val (.int (Int32.ofNat mm)), .val (.int (Int32.ofNat kk)), .val (.int (2 : Int32)), .val (.int (-1 : Int32)), .val (.int (1 : Int32)), .unset] [])) tg
        refine XS.iloadN X8.here hx rfl (hb hby at_191) rfl ?_
        show Steps p.tables e below (T8.setTop (mkF m 192 #[.val (.int p1), .val (.int p2), .val (.int p3), .val (.int p4), .val (.ref b1), .val (.ref d), .val (.int (1 : Int32)), .val (.int (1 : Int32)), .val (.int (0 : Int32)), .val (.int (1 : Int32)), .val (.int (0 : Int32)), .val (.int (2 : Int32)), .val (.int (Int32.ofNat mm)), .val (.int (Int32.ofNat kk)), .val (.int (2 : Int32)), .val (.int (-1 : Int32)), .val (.int (1 : Int32)), .unset] [(.int p3)])) tg
        refine XS.iloadN X8.here hx rfl (hb hby at_192) rfl ?_
        exact kt
      have hc193 : ¬ (p3 = p1) := hca
      refine own_seg (T' := T8) (g' := (mkF m 201 #[.val (.int p1), .val (.int p2), .val (.int p3), .val (.int p4), .val (.ref b1), .val (.ref d), .val (.int (1 : Int32)), .val (.int (1 : Int32)), .val (.int (0 : Int32)), .val (.int (1 : Int32)), .val (.int (0 : Int32)), .val (.int (2 : Int32)), .val (.int (Int32.ofNat mm)), .val (.int (Int32.ofNat kk)), .val (.int (2 : Int32)), .val (.int (-1 : Int32)), .val (.int (1 : Int32)), .unset] [])) (fun tg kt => XS.icmpYes X8.here hx rfl (pc0 := 193) (pc' := 201) rfl (hb hby at_193) rfl (feq hc193).2 (by decide) (by decide) kt) ?_
      refine own_seg (T' := T8) (g' := (mkF m 205 #[.val (.int p1), .val (.int p2), .val (.int p3), .val (.int p4), .val (.ref b1), .val (.ref d), .val (.int (1 : Int32)), .val (.int (1 : Int32)), .val (.int (0 : Int32)), .val (.int (1 : Int32)), .val (.int (0 : Int32)), .val (.int (2 : Int32)), .val (.int (Int32.ofNat mm)), .val (.int (Int32.ofNat kk)), .val (.int (2 : Int32)), .val (.int (-1 : Int32)), .val (.int (1 : Int32)), .val (.int (1 : Int32))] [])) (fun tg kt => ?_) ?_
      · show Steps p.tables e below (T8.setTop (mkF m 201 #[.val (.int p1), .val (.int p2), .val (.int p3), .val (.int p4), .val (.ref b1), .val (.ref d), .val (.int (1 : Int32)), .val (.int (1 : Int32)), .val (.int (0 : Int32)), .val (.int (1 : Int32)), .val (.int (0 : Int32)), .val (.int (2 : Int32)), .val (.int (Int32.ofNat mm)), .val (.int (Int32.ofNat kk)), .val (.int (2 : Int32)), .val (.int (-1 : Int32)), .val (.int (1 : Int32)), .unset] [])) tg
        refine XS.iload X8.here hx rfl (hb hby at_201) rfl ?_
        show Steps p.tables e below (T8.setTop (mkF m 203 #[.val (.int p1), .val (.int p2), .val (.int p3), .val (.int p4), .val (.ref b1), .val (.ref d), .val (.int (1 : Int32)), .val (.int (1 : Int32)), .val (.int (0 : Int32)), .val (.int (1 : Int32)), .val (.int (0 : Int32)), .val (.int (2 : Int32)), .val (.int (Int32.ofNat mm)), .val (.int (Int32.ofNat kk)), .val (.int (2 : Int32)), .val (.int (-1 : Int32)), .val (.int (1 : Int32)), .unset] [(.int (1 : Int32))])) tg
        refine XS.istore X8.here hx rfl (hb hby at_203) rfl (l' := #[.val (.int p1), .val (.int p2), .val (.int p3), .val (.int p4), .val (.ref b1), .val (.ref d), .val (.int (1 : Int32)), .val (.int (1 : Int32)), .val (.int (0 : Int32)), .val (.int (1 : Int32)), .val (.int (0 : Int32)), .val (.int (2 : Int32)), .val (.int (Int32.ofNat mm)), .val (.int (Int32.ofNat kk)), .val (.int (2 : Int32)), .val (.int (-1 : Int32)), .val (.int (1 : Int32)), .val (.int (1 : Int32))]) rfl ?_
        exact kt
      have kk3 : kk ≤ 3 := hTk.1
      exact sg205 hw p1 p2 p3 p4 b1 t1 t2 t3 d kk uk _ (1 : Int32) (0 : Int32) (1 : Int32) (0 : Int32) (2 : Int32) (Int32.ofNat mm) (2 : Int32) (-1 : Int32) (1 : Int32) (1 : Int32) K X8 e8 N8 Z7 P_a P_1 P_2 P_3 hTk rfl rfl (own_idx_miss (fun i hi e => by have z : ¬ 0 < kk := fun z => hc137 ((own_ltl (e := 0) (by omega) (by omega)).mpr z); rcases (by omega : i = 0 ∨ i = 1) with rfl | rfl <;> first | omega | exact hba e.symm | exact hca e.symm | exact hcb e.symm)) (own_idx_hit hTk (i := 1) ((own_ltl (e := 1) (by omega) (by omega)).mp hc155) rfl) (own_idx_hit hTk (i := 1) ((own_ltl (e := 1) (by omega) (by omega)).mp hc155) hcb.symm)
    · skip
      refine own_seg (T' := T8) (g' := (mkF m 162 #[.val (.int p1), .val (.int p2), .val (.int p3), .val (.int p4), .val (.ref b1), .val (.ref d), .val (.int (1 : Int32)), .val (.int (1 : Int32)), .val (.int (0 : Int32)), .val (.int (1 : Int32)), .val (.int (0 : Int32)), .val (.int (2 : Int32)), .val (.int (Int32.ofNat mm)), .val (.int (Int32.ofNat kk)), .val (.int (2 : Int32)), .val (.int (-1 : Int32)), .unset, .unset] [])) (fun tg kt => XS.icmpYes X8.here hx rfl (pc0 := 155) (pc' := 162) rfl (hb hby at_155) rfl (flt hc155).2.1 (by decide) (by decide) kt) ?_
      refine own_seg (T' := T8) (g' := (mkF m 172 #[.val (.int p1), .val (.int p2), .val (.int p3), .val (.int p4), .val (.ref b1), .val (.ref d), .val (.int (1 : Int32)), .val (.int (1 : Int32)), .val (.int (0 : Int32)), .val (.int (1 : Int32)), .val (.int (0 : Int32)), .val (.int (2 : Int32)), .val (.int (Int32.ofNat mm)), .val (.int (Int32.ofNat kk)), .val (.int (2 : Int32)), .val (.int (-1 : Int32)), .val (.int (-1 : Int32)), .unset] [(.int (0 : Int32))])) (fun tg kt => ?_) ?_
      · show Steps p.tables e below (T8.setTop (mkF m 162 #[.val (.int p1), .val (.int p2), .val (.int p3), .val (.int p4), .val (.ref b1), .val (.ref d), .val (.int (1 : Int32)), .val (.int (1 : Int32)), .val (.int (0 : Int32)), .val (.int (1 : Int32)), .val (.int (0 : Int32)), .val (.int (2 : Int32)), .val (.int (Int32.ofNat mm)), .val (.int (Int32.ofNat kk)), .val (.int (2 : Int32)), .val (.int (-1 : Int32)), .unset, .unset] [])) tg
        refine XS.iconst X8.here hx rfl (hb hby at_162) ?_
        show Steps p.tables e below (T8.setTop (mkF m 163 #[.val (.int p1), .val (.int p2), .val (.int p3), .val (.int p4), .val (.ref b1), .val (.ref d), .val (.int (1 : Int32)), .val (.int (1 : Int32)), .val (.int (0 : Int32)), .val (.int (1 : Int32)), .val (.int (0 : Int32)), .val (.int (2 : Int32)), .val (.int (Int32.ofNat mm)), .val (.int (Int32.ofNat kk)), .val (.int (2 : Int32)), .val (.int (-1 : Int32)), .unset, .unset] [(.int (-1 : Int32))])) tg
        refine XS.goto X8.here hx rfl (pc0 := 163) (pc' := 168) rfl (hb hby at_163) (by decide) (by decide) ?_
        show Steps p.tables e below (T8.setTop (mkF m 168 #[.val (.int p1), .val (.int p2), .val (.int p3), .val (.int p4), .val (.ref b1), .val (.ref d), .val (.int (1 : Int32)), .val (.int (1 : Int32)), .val (.int (0 : Int32)), .val (.int (1 : Int32)), .val (.int (0 : Int32)), .val (.int (2 : Int32)), .val (.int (Int32.ofNat mm)), .val (.int (Int32.ofNat kk)), .val (.int (2 : Int32)), .val (.int (-1 : Int32)), .unset, .unset] [(.int (-1 : Int32))])) tg
        refine XS.istore X8.here hx rfl (hb hby at_168) rfl (l' := #[.val (.int p1), .val (.int p2), .val (.int p3), .val (.int p4), .val (.ref b1), .val (.ref d), .val (.int (1 : Int32)), .val (.int (1 : Int32)), .val (.int (0 : Int32)), .val (.int (1 : Int32)), .val (.int (0 : Int32)), .val (.int (2 : Int32)), .val (.int (Int32.ofNat mm)), .val (.int (Int32.ofNat kk)), .val (.int (2 : Int32)), .val (.int (-1 : Int32)), .val (.int (-1 : Int32)), .unset]) rfl ?_
        show Steps p.tables e below (T8.setTop (mkF m 170 #[.val (.int p1), .val (.int p2), .val (.int p3), .val (.int p4), .val (.ref b1), .val (.ref d), .val (.int (1 : Int32)), .val (.int (1 : Int32)), .val (.int (0 : Int32)), .val (.int (1 : Int32)), .val (.int (0 : Int32)), .val (.int (2 : Int32)), .val (.int (Int32.ofNat mm)), .val (.int (Int32.ofNat kk)), .val (.int (2 : Int32)), .val (.int (-1 : Int32)), .val (.int (-1 : Int32)), .unset] [])) tg
        refine XS.iload X8.here hx rfl (hb hby at_170) rfl ?_
        exact kt
      have hc172 : (0 : Int32) = (0 : Int32) := by decide
      refine own_seg (T' := T8) (g' := (mkF m 191 #[.val (.int p1), .val (.int p2), .val (.int p3), .val (.int p4), .val (.ref b1), .val (.ref d), .val (.int (1 : Int32)), .val (.int (1 : Int32)), .val (.int (0 : Int32)), .val (.int (1 : Int32)), .val (.int (0 : Int32)), .val (.int (2 : Int32)), .val (.int (Int32.ofNat mm)), .val (.int (Int32.ofNat kk)), .val (.int (2 : Int32)), .val (.int (-1 : Int32)), .val (.int (-1 : Int32)), .unset] [])) (fun tg kt => XS.ifYes X8.here hx rfl (pc0 := 172) (pc' := 191) rfl (hb hby at_172) rfl ((if0 _ _).trans (teq hc172).1) (by decide) (by decide) kt) ?_
      refine own_seg (T' := T8) (g' := (mkF m 193 #[.val (.int p1), .val (.int p2), .val (.int p3), .val (.int p4), .val (.ref b1), .val (.ref d), .val (.int (1 : Int32)), .val (.int (1 : Int32)), .val (.int (0 : Int32)), .val (.int (1 : Int32)), .val (.int (0 : Int32)), .val (.int (2 : Int32)), .val (.int (Int32.ofNat mm)), .val (.int (Int32.ofNat kk)), .val (.int (2 : Int32)), .val (.int (-1 : Int32)), .val (.int (-1 : Int32)), .unset] [(.int p1), (.int p3)])) (fun tg kt => ?_) ?_
      · show Steps p.tables e below (T8.setTop (mkF m 191 #[.val (.int p1), .val (.int p2), .val (.int p3), .val (.int p4), .val (.ref b1), .val (.ref d), .val (.int (1 : Int32)), .val (.int (1 : Int32)), .val (.int (0 : Int32)), .val (.int (1 : Int32)), .val (.int (0 : Int32)), .val (.int (2 : Int32)), .val (.int (Int32.ofNat mm)), .val (.int (Int32.ofNat kk)), .val (.int (2 : Int32)), .val (.int (-1 : Int32)), .val (.int (-1 : Int32)), .unset] [])) tg
        refine XS.iloadN X8.here hx rfl (hb hby at_191) rfl ?_
        show Steps p.tables e below (T8.setTop (mkF m 192 #[.val (.int p1), .val (.int p2), .val (.int p3), .val (.int p4), .val (.ref b1), .val (.ref d), .val (.int (1 : Int32)), .val (.int (1 : Int32)), .val (.int (0 : Int32)), .val (.int (1 : Int32)), .val (.int (0 : Int32)), .val (.int (2 : Int32)), .val (.int (Int32.ofNat mm)), .val (.int (Int32.ofNat kk)), .val (.int (2 : Int32)), .val (.int (-1 : Int32)), .val (.int (-1 : Int32)), .unset] [(.int p3)])) tg
        refine XS.iloadN X8.here hx rfl (hb hby at_192) rfl ?_
        exact kt
      have hc193 : ¬ (p3 = p1) := hca
      refine own_seg (T' := T8) (g' := (mkF m 201 #[.val (.int p1), .val (.int p2), .val (.int p3), .val (.int p4), .val (.ref b1), .val (.ref d), .val (.int (1 : Int32)), .val (.int (1 : Int32)), .val (.int (0 : Int32)), .val (.int (1 : Int32)), .val (.int (0 : Int32)), .val (.int (2 : Int32)), .val (.int (Int32.ofNat mm)), .val (.int (Int32.ofNat kk)), .val (.int (2 : Int32)), .val (.int (-1 : Int32)), .val (.int (-1 : Int32)), .unset] [])) (fun tg kt => XS.icmpYes X8.here hx rfl (pc0 := 193) (pc' := 201) rfl (hb hby at_193) rfl (feq hc193).2 (by decide) (by decide) kt) ?_
      refine own_seg (T' := T8) (g' := (mkF m 205 #[.val (.int p1), .val (.int p2), .val (.int p3), .val (.int p4), .val (.ref b1), .val (.ref d), .val (.int (1 : Int32)), .val (.int (1 : Int32)), .val (.int (0 : Int32)), .val (.int (1 : Int32)), .val (.int (0 : Int32)), .val (.int (2 : Int32)), .val (.int (Int32.ofNat mm)), .val (.int (Int32.ofNat kk)), .val (.int (2 : Int32)), .val (.int (-1 : Int32)), .val (.int (-1 : Int32)), .val (.int (-1 : Int32))] [])) (fun tg kt => ?_) ?_
      · show Steps p.tables e below (T8.setTop (mkF m 201 #[.val (.int p1), .val (.int p2), .val (.int p3), .val (.int p4), .val (.ref b1), .val (.ref d), .val (.int (1 : Int32)), .val (.int (1 : Int32)), .val (.int (0 : Int32)), .val (.int (1 : Int32)), .val (.int (0 : Int32)), .val (.int (2 : Int32)), .val (.int (Int32.ofNat mm)), .val (.int (Int32.ofNat kk)), .val (.int (2 : Int32)), .val (.int (-1 : Int32)), .val (.int (-1 : Int32)), .unset] [])) tg
        refine XS.iload X8.here hx rfl (hb hby at_201) rfl ?_
        show Steps p.tables e below (T8.setTop (mkF m 203 #[.val (.int p1), .val (.int p2), .val (.int p3), .val (.int p4), .val (.ref b1), .val (.ref d), .val (.int (1 : Int32)), .val (.int (1 : Int32)), .val (.int (0 : Int32)), .val (.int (1 : Int32)), .val (.int (0 : Int32)), .val (.int (2 : Int32)), .val (.int (Int32.ofNat mm)), .val (.int (Int32.ofNat kk)), .val (.int (2 : Int32)), .val (.int (-1 : Int32)), .val (.int (-1 : Int32)), .unset] [(.int (-1 : Int32))])) tg
        refine XS.istore X8.here hx rfl (hb hby at_203) rfl (l' := #[.val (.int p1), .val (.int p2), .val (.int p3), .val (.int p4), .val (.ref b1), .val (.ref d), .val (.int (1 : Int32)), .val (.int (1 : Int32)), .val (.int (0 : Int32)), .val (.int (1 : Int32)), .val (.int (0 : Int32)), .val (.int (2 : Int32)), .val (.int (Int32.ofNat mm)), .val (.int (Int32.ofNat kk)), .val (.int (2 : Int32)), .val (.int (-1 : Int32)), .val (.int (-1 : Int32)), .val (.int (-1 : Int32))]) rfl ?_
        exact kt
      have kk3 : kk ≤ 3 := hTk.1
      exact sg205 hw p1 p2 p3 p4 b1 t1 t2 t3 d kk uk _ (1 : Int32) (0 : Int32) (1 : Int32) (0 : Int32) (2 : Int32) (Int32.ofNat mm) (2 : Int32) (-1 : Int32) (-1 : Int32) (-1 : Int32) K X8 e8 N8 Z7 P_a P_1 P_2 P_3 hTk rfl rfl (own_idx_miss (fun i hi e => by have z : ¬ 0 < kk := fun z => hc137 ((own_ltl (e := 0) (by omega) (by omega)).mpr z); rcases (by omega : i = 0 ∨ i = 1) with rfl | rfl <;> first | omega | exact hba e.symm | exact hca e.symm | exact hcb e.symm)) (own_idx_miss (fun i hi e => by have z : ¬ 1 < kk := fun z => hc155 ((own_ltl (e := 1) (by omega) (by omega)).mpr z); rcases (by omega : i = 0 ∨ i = 1) with rfl | rfl <;> first | omega | exact hba e.symm | exact hca e.symm | exact hcb e.symm)) (own_idx_miss (fun i hi e => by have z : ¬ 1 < kk := fun z => hc155 ((own_ltl (e := 1) (by omega) (by omega)).mpr z); rcases (by omega : i = 0 ∨ i = 1) with rfl | rfl <;> first | omega | exact hba e.symm | exact hca e.symm | exact hcb e.symm))
set_option maxRecDepth 65536 in
set_option maxHeartbeats 40000000 in
theorem rm0E (l : Launch) (Z : State) (a0 : Array Value) (hw : ∀ d ∈ tables_1, d.before a0 Z = true) (p1 p2 p3 p4 : Int32) (d : Addr) (h0 : Heap) (n0 : Nat) (Z0 : n0 ≤ h0.size) (hba : ¬ p2 = p1) (hca : ¬ p3 = p1) (hcb : ¬ p3 = p2) (hOld : Old Z n0 h0) (SE : Sta Z Z.heap "com/example/rhizome/rhizome/tableau/DependencySet" "EMPTY" "Lcom/example/rhizome/rhizome/tableau/DependencySet;" (.ref d)) (XE : Exa Z Z.heap d "com/example/rhizome/rhizome/tableau/DependencySet") :
    own_Met l Z x code maxLocals ret room_1 #[(.int p1), (.int p2), (.int p3), (.int p4)] h0 (own_Q1 n0) := by
  refine own_enter (plainFor_of_name own_pn0) (fun m => by first | (simp [entryFrame, mkF, argsToLocals, Value.category, maxLocals]; done) | rfl) (Ls := #[.val (.int p1), .val (.int p2), .val (.int p3), .val (.int p4), .unset, .unset, .unset, .unset, .unset, .unset, .unset, .unset, .unset, .unset, .unset, .unset, .unset, .unset]) ?_
  intro p e s m below meth c T0 K X0 e0
  have hx := K.1
  have hZ := K.2.1
  have hby := K.2.2.1
  have hown := K.2.2.2.2.1
  have N0 := Fr.nil n0
  show own_Fin p e below _ T0 (mkF m 0 #[.val (.int p1), .val (.int p2), .val (.int p3), .val (.int p4), .unset, .unset, .unset, .unset, .unset, .unset, .unset, .unset, .unset, .unset, .unset, .unset, .unset, .unset] [])
  refine own_newO K X0 e0 (hw _ (List.mem_of_getElem? (i := 0) rfl)) (hw _ (List.mem_of_getElem? (i := 1) rfl)) (hw _ (List.mem_of_getElem? (i := 2) rfl)) at_0 (by decide) (by decide) ?_
  intro T1 h1 b1 g1 X1 e1 E1 A1 D1
  have Od1 := Old.ext hOld E1
  have f_b1 : n0 ≤ b1 := Nat.le_trans Z0 (Nat.le_of_eq g1.symm)
  have Z1 : n0 ≤ h1.size := Nat.le_trans Z0 E1.1
  have O_b1_1 : own_Obj Z h1 b1 "com/example/rhizome/rhizome/tableau/Label" [("com/example/rhizome/rhizome/tableau/Label", "concepts", "[I", .null), ("com/example/rhizome/rhizome/tableau/Label", "dependencies", "[Lcom/example/rhizome/rhizome/tableau/DependencySet;", .null), ("com/example/rhizome/rhizome/tableau/Label", "slots", "[I", .null), ("com/example/rhizome/rhizome/tableau/Label", "size", "I", (.int (0 : Int32)))] := ⟨A1, by
    intro q hq
    simp only [List.mem_cons, List.not_mem_nil, or_false] at hq
    rcases hq with rfl | rfl | rfl | rfl
    · exact D1 (Or.inl (hw _ (List.mem_of_getElem? (i := 11) rfl))) (ty := (.array .int)) (by decide)
    · exact D1 (Or.inl (hw _ (List.mem_of_getElem? (i := 15) rfl))) (ty := (.array (.object "com/example/rhizome/rhizome/tableau/DependencySet"))) (by decide)
    · exact D1 (Or.inl (hw _ (List.mem_of_getElem? (i := 17) rfl))) (ty := (.array .int)) (by decide)
    · exact D1 (Or.inl (hw _ (List.mem_of_getElem? (i := 41) rfl))) (ty := .int) (by decide)⟩
  show own_Fin p e below _ T1 (mkF m 3 #[.val (.int p1), .val (.int p2), .val (.int p3), .val (.int p4), .unset, .unset, .unset, .unset, .unset, .unset, .unset, .unset, .unset, .unset, .unset, .unset, .unset, .unset] [(.ref b1)])
  refine own_seg (T' := T1) (g' := (mkF m 4 #[.val (.int p1), .val (.int p2), .val (.int p3), .val (.int p4), .unset, .unset, .unset, .unset, .unset, .unset, .unset, .unset, .unset, .unset, .unset, .unset, .unset, .unset] [(.ref b1), (.ref b1)])) (fun tg kt => ?_) ?_
  · show Steps p.tables e below (T1.setTop (mkF m 3 #[.val (.int p1), .val (.int p2), .val (.int p3), .val (.int p4), .unset, .unset, .unset, .unset, .unset, .unset, .unset, .unset, .unset, .unset, .unset, .unset, .unset, .unset] [(.ref b1)])) tg
    refine XS.dup X1.here hx rfl (hb hby at_3) rfl rfl ?_
    exact kt
  refine own_callI K X1 e1 (rmI l Z a0 hw b1 h1 n0 Z1 f_b1 O_b1_1) rfl (hw _ (List.mem_of_getElem? (i := 3) rfl)) (hw _ (List.mem_of_getElem? (i := 4) rfl)) (hw _ (List.mem_of_getElem? (i := 2) rfl)) (hw _ (List.mem_of_getElem? (i := 5) rfl)) (by decide) b1 [] [(.ref b1)] own_pd4 rfl rfl rfl rfl at_4 (by decide) (Nat.le_of_ble_eq_true rfl) (by decide) (by decide) ?_
  intro T2 L2 v2 X2 hQ2
  obtain ⟨h2, e2⟩ : ∃ z, T2.heap = z := ⟨_, rfl⟩
  rw [e2] at hQ2
  obtain ⟨t1, t2, t3, rfl, Nq2, Kq2, hD, f_t1, f_t2, f_t3, Oq_a, Oq_1, Oq_2, Oq_3⟩ := hQ2
  have N2 := Fr.app N0 Nq2
  have Od2 := Old.keep Od1 Kq2 (allS f_b1 all0)
  have Z2 : n0 ≤ h2.size := Nat.le_trans Z1 Kq2.1
  show own_Fin p e below _ T2 (mkF m 7 #[.val (.int p1), .val (.int p2), .val (.int p3), .val (.int p4), .unset, .unset, .unset, .unset, .unset, .unset, .unset, .unset, .unset, .unset, .unset, .unset, .unset, .unset] [(.ref b1)])
  refine own_seg (T' := T2) (g' := (mkF m 9 #[.val (.int p1), .val (.int p2), .val (.int p3), .val (.int p4), .val (.ref b1), .unset, .unset, .unset, .unset, .unset, .unset, .unset, .unset, .unset, .unset, .unset, .unset, .unset] [])) (fun tg kt => ?_) ?_
  · show Steps p.tables e below (T2.setTop (mkF m 7 #[.val (.int p1), .val (.int p2), .val (.int p3), .val (.int p4), .unset, .unset, .unset, .unset, .unset, .unset, .unset, .unset, .unset, .unset, .unset, .unset, .unset, .unset] [(.ref b1)])) tg
    refine XS.astore X2.here hx rfl (hb hby at_7) rfl rfl (l' := #[.val (.int p1), .val (.int p2), .val (.int p3), .val (.int p4), .val (.ref b1), .unset, .unset, .unset, .unset, .unset, .unset, .unset, .unset, .unset, .unset, .unset, .unset, .unset]) rfl ?_
    exact kt
  refine own_getS K X2 e2 (host := "") (Or.inl (hw _ (List.mem_of_getElem? (i := 18) rfl))) Via.refl (SE.ext Od2.2) at_9 ?_
  intro T3 X3 e3
  show own_Fin p e below _ T3 (mkF m 12 #[.val (.int p1), .val (.int p2), .val (.int p3), .val (.int p4), .val (.ref b1), .unset, .unset, .unset, .unset, .unset, .unset, .unset, .unset, .unset, .unset, .unset, .unset, .unset] [(.ref d)])
  refine own_seg (T' := T3) (g' := (mkF m 19 #[.val (.int p1), .val (.int p2), .val (.int p3), .val (.int p4), .val (.ref b1), .val (.ref d), .unset, .unset, .unset, .unset, .unset, .unset, .unset, .unset, .unset, .unset, .unset, .unset] [(.ref d), (.int p1), (.ref b1)])) (fun tg kt => ?_) ?_
  · show Steps p.tables e below (T3.setTop (mkF m 12 #[.val (.int p1), .val (.int p2), .val (.int p3), .val (.int p4), .val (.ref b1), .unset, .unset, .unset, .unset, .unset, .unset, .unset, .unset, .unset, .unset, .unset, .unset, .unset] [(.ref d)])) tg
    refine XS.astore X3.here hx rfl (hb hby at_12) rfl rfl (l' := #[.val (.int p1), .val (.int p2), .val (.int p3), .val (.int p4), .val (.ref b1), .val (.ref d), .unset, .unset, .unset, .unset, .unset, .unset, .unset, .unset, .unset, .unset, .unset, .unset]) rfl ?_
    show Steps p.tables e below (T3.setTop (mkF m 14 #[.val (.int p1), .val (.int p2), .val (.int p3), .val (.int p4), .val (.ref b1), .val (.ref d), .unset, .unset, .unset, .unset, .unset, .unset, .unset, .unset, .unset, .unset, .unset, .unset] [])) tg
    refine XS.aload X3.here hx rfl (hb hby at_14) rfl rfl ?_
    show Steps p.tables e below (T3.setTop (mkF m 16 #[.val (.int p1), .val (.int p2), .val (.int p3), .val (.int p4), .val (.ref b1), .val (.ref d), .unset, .unset, .unset, .unset, .unset, .unset, .unset, .unset, .unset, .unset, .unset, .unset] [(.ref b1)])) tg
    refine XS.iloadN X3.here hx rfl (hb hby at_16) rfl ?_
    show Steps p.tables e below (T3.setTop (mkF m 17 #[.val (.int p1), .val (.int p2), .val (.int p3), .val (.int p4), .val (.ref b1), .val (.ref d), .unset, .unset, .unset, .unset, .unset, .unset, .unset, .unset, .unset, .unset, .unset, .unset] [(.int p1), (.ref b1)])) tg
    refine XS.aload X3.here hx rfl (hb hby at_17) rfl rfl ?_
    exact kt
  have hr0 : own_idx (fun _ => (0 : Int32)) 0 p1 = -1 := own_idx_miss (fun i hi e => absurd hi (Nat.not_lt_zero _))
  refine own_callV K X3 e3 (rmA1 l Z a0 hw b1 t1 t2 t3 p1 d 0 (fun _ => (0 : Nat)) (fun _ => (0 : Int32)) h2 n0 Z2 Oq_a Oq_1 Oq_2 Oq_3 (XE.ext Od2.2) (own_Tab0 _) hr0 (by decide) hD f_b1 f_t1 f_t2 f_t3) (hw _ (List.mem_of_getElem? (i := 21) rfl)) (hw _ (List.mem_of_getElem? (i := 22) rfl)) (fun _ q => notFace_of_selects q) (hw _ (List.mem_of_getElem? (i := 24) rfl)) (hw _ (List.mem_of_getElem? (i := 23) rfl)) (hw _ (List.mem_of_getElem? (i := 2) rfl)) (hw _ (List.mem_of_getElem? (i := 25) rfl)) (by decide) b1 Oq_a.exa [(.int p1), (.ref d)] [] own_pd5 rfl rfl rfl rfl at_19 (by decide) (Nat.le_of_ble_eq_true rfl) (by decide) (by decide) ?_
  intro T4 L4 v4 X4 hQ4
  obtain ⟨h4, e4⟩ : ∃ z, T4.heap = z := ⟨_, rfl⟩
  rw [e4] at hQ4
  obtain ⟨rfl, Nq4, Kq4, Oq4_b1, Oq4_t1, Oq4_t2, Oq4_t3⟩ := hQ4
  have N4 := Fr.app N2 Nq4
  have Od4 := Old.keep Od2 Kq4 (allS f_b1 (allS f_t1 (allS f_t2 (allS f_t3 all0))))
  have Z4 : n0 ≤ h4.size := Nat.le_trans Z2 Kq4.1
  have hT1 := own_Tab_add (own_Tab0 _) (by decide) (own_idx_none (by decide) hr0)
  generalize own_un (fun _ => (0 : Nat)) (own_sk (fun _ => (0 : Nat)) 0 4 (own_H p1)) (0 + 1) = u1 at hT1 Oq4_t3
  show own_Fin p e below _ T4 (mkF m 22 #[.val (.int p1), .val (.int p2), .val (.int p3), .val (.int p4), .val (.ref b1), .val (.ref d), .unset, .unset, .unset, .unset, .unset, .unset, .unset, .unset, .unset, .unset, .unset, .unset] [(.int (1 : Int32))])
  refine own_seg (T' := T4) (g' := (mkF m 29 #[.val (.int p1), .val (.int p2), .val (.int p3), .val (.int p4), .val (.ref b1), .val (.ref d), .val (.int (1 : Int32)), .unset, .unset, .unset, .unset, .unset, .unset, .unset, .unset, .unset, .unset, .unset] [(.ref d), (.int p2), (.ref b1)])) (fun tg kt => ?_) ?_
  · show Steps p.tables e below (T4.setTop (mkF m 22 #[.val (.int p1), .val (.int p2), .val (.int p3), .val (.int p4), .val (.ref b1), .val (.ref d), .unset, .unset, .unset, .unset, .unset, .unset, .unset, .unset, .unset, .unset, .unset, .unset] [(.int (1 : Int32))])) tg
    refine XS.istore X4.here hx rfl (hb hby at_22) rfl (l' := #[.val (.int p1), .val (.int p2), .val (.int p3), .val (.int p4), .val (.ref b1), .val (.ref d), .val (.int (1 : Int32)), .unset, .unset, .unset, .unset, .unset, .unset, .unset, .unset, .unset, .unset, .unset]) rfl ?_
    show Steps p.tables e below (T4.setTop (mkF m 24 #[.val (.int p1), .val (.int p2), .val (.int p3), .val (.int p4), .val (.ref b1), .val (.ref d), .val (.int (1 : Int32)), .unset, .unset, .unset, .unset, .unset, .unset, .unset, .unset, .unset, .unset, .unset] [])) tg
    refine XS.aload X4.here hx rfl (hb hby at_24) rfl rfl ?_
    show Steps p.tables e below (T4.setTop (mkF m 26 #[.val (.int p1), .val (.int p2), .val (.int p3), .val (.int p4), .val (.ref b1), .val (.ref d), .val (.int (1 : Int32)), .unset, .unset, .unset, .unset, .unset, .unset, .unset, .unset, .unset, .unset, .unset] [(.ref b1)])) tg
    refine XS.iloadN X4.here hx rfl (hb hby at_26) rfl ?_
    show Steps p.tables e below (T4.setTop (mkF m 27 #[.val (.int p1), .val (.int p2), .val (.int p3), .val (.int p4), .val (.ref b1), .val (.ref d), .val (.int (1 : Int32)), .unset, .unset, .unset, .unset, .unset, .unset, .unset, .unset, .unset, .unset, .unset] [(.int p2), (.ref b1)])) tg
    refine XS.aload X4.here hx rfl (hb hby at_27) rfl rfl ?_
    exact kt
  have hr1 : own_idx (own_up (fun _ => (0 : Int32)) 0 p1) 1 p2 = -1 := own_idx_miss (fun i hi ee => by obtain rfl : i = 0 := (by omega); exact hba ee.symm)
  refine own_callV K X4 e4 (rmA1 l Z a0 hw b1 t1 t2 t3 p2 d 1 u1 (own_up (fun _ => (0 : Int32)) 0 p1) h4 n0 Z4 Oq4_b1 Oq4_t1 Oq4_t2 Oq4_t3 (XE.ext Od4.2) hT1 hr1 (by decide) hD f_b1 f_t1 f_t2 f_t3) (hw _ (List.mem_of_getElem? (i := 21) rfl)) (hw _ (List.mem_of_getElem? (i := 22) rfl)) (fun _ q => notFace_of_selects q) (hw _ (List.mem_of_getElem? (i := 24) rfl)) (hw _ (List.mem_of_getElem? (i := 23) rfl)) (hw _ (List.mem_of_getElem? (i := 2) rfl)) (hw _ (List.mem_of_getElem? (i := 25) rfl)) (by decide) b1 Oq4_b1.exa [(.int p2), (.ref d)] [] own_pd5 rfl rfl rfl rfl at_29 (by decide) (Nat.le_of_ble_eq_true rfl) (by decide) (by decide) ?_
  intro T5 L5 v5 X5 hQ5
  obtain ⟨h5, e5⟩ : ∃ z, T5.heap = z := ⟨_, rfl⟩
  rw [e5] at hQ5
  obtain ⟨rfl, Nq5, Kq5, Oq5_b1, Oq5_t1, Oq5_t2, Oq5_t3⟩ := hQ5
  have N5 := Fr.app N4 Nq5
  have Od5 := Old.keep Od4 Kq5 (allS f_b1 (allS f_t1 (allS f_t2 (allS f_t3 all0))))
  have Z5 : n0 ≤ h5.size := Nat.le_trans Z4 Kq5.1
  have hT2 := own_Tab_add hT1 (by decide) (own_idx_none (by decide) hr1)
  generalize own_un u1 (own_sk u1 0 4 (own_H p2)) (1 + 1) = u2 at hT2 Oq5_t3
  show own_Fin p e below _ T5 (mkF m 32 #[.val (.int p1), .val (.int p2), .val (.int p3), .val (.int p4), .val (.ref b1), .val (.ref d), .val (.int (1 : Int32)), .unset, .unset, .unset, .unset, .unset, .unset, .unset, .unset, .unset, .unset, .unset] [(.int (1 : Int32))])
  refine own_seg (T' := T5) (g' := (mkF m 39 #[.val (.int p1), .val (.int p2), .val (.int p3), .val (.int p4), .val (.ref b1), .val (.ref d), .val (.int (1 : Int32)), .val (.int (1 : Int32)), .unset, .unset, .unset, .unset, .unset, .unset, .unset, .unset, .unset, .unset] [(.ref d), (.int p3), (.ref b1)])) (fun tg kt => ?_) ?_
  · show Steps p.tables e below (T5.setTop (mkF m 32 #[.val (.int p1), .val (.int p2), .val (.int p3), .val (.int p4), .val (.ref b1), .val (.ref d), .val (.int (1 : Int32)), .unset, .unset, .unset, .unset, .unset, .unset, .unset, .unset, .unset, .unset, .unset] [(.int (1 : Int32))])) tg
    refine XS.istore X5.here hx rfl (hb hby at_32) rfl (l' := #[.val (.int p1), .val (.int p2), .val (.int p3), .val (.int p4), .val (.ref b1), .val (.ref d), .val (.int (1 : Int32)), .val (.int (1 : Int32)), .unset, .unset, .unset, .unset, .unset, .unset, .unset, .unset, .unset, .unset]) rfl ?_
    show Steps p.tables e below (T5.setTop (mkF m 34 #[.val (.int p1), .val (.int p2), .val (.int p3), .val (.int p4), .val (.ref b1), .val (.ref d), .val (.int (1 : Int32)), .val (.int (1 : Int32)), .unset, .unset, .unset, .unset, .unset, .unset, .unset, .unset, .unset, .unset] [])) tg
    refine XS.aload X5.here hx rfl (hb hby at_34) rfl rfl ?_
    show Steps p.tables e below (T5.setTop (mkF m 36 #[.val (.int p1), .val (.int p2), .val (.int p3), .val (.int p4), .val (.ref b1), .val (.ref d), .val (.int (1 : Int32)), .val (.int (1 : Int32)), .unset, .unset, .unset, .unset, .unset, .unset, .unset, .unset, .unset, .unset] [(.ref b1)])) tg
    refine XS.iloadN X5.here hx rfl (hb hby at_36) rfl ?_
    show Steps p.tables e below (T5.setTop (mkF m 37 #[.val (.int p1), .val (.int p2), .val (.int p3), .val (.int p4), .val (.ref b1), .val (.ref d), .val (.int (1 : Int32)), .val (.int (1 : Int32)), .unset, .unset, .unset, .unset, .unset, .unset, .unset, .unset, .unset, .unset] [(.int p3), (.ref b1)])) tg
    refine XS.aload X5.here hx rfl (hb hby at_37) rfl rfl ?_
    exact kt
  have hr2 : own_idx (own_up (own_up (fun _ => (0 : Int32)) 0 p1) 1 p2) 2 p3 = -1 := own_idx_miss (fun i hi ee => by rcases (by omega : i = 0 ∨ i = 1) with rfl | rfl; exact hca ee.symm; exact hcb ee.symm)
  refine own_callV K X5 e5 (rmA1 l Z a0 hw b1 t1 t2 t3 p3 d 2 u2 (own_up (own_up (fun _ => (0 : Int32)) 0 p1) 1 p2) h5 n0 Z5 Oq5_b1 Oq5_t1 Oq5_t2 Oq5_t3 (XE.ext Od5.2) hT2 hr2 (by decide) hD f_b1 f_t1 f_t2 f_t3) (hw _ (List.mem_of_getElem? (i := 21) rfl)) (hw _ (List.mem_of_getElem? (i := 22) rfl)) (fun _ q => notFace_of_selects q) (hw _ (List.mem_of_getElem? (i := 24) rfl)) (hw _ (List.mem_of_getElem? (i := 23) rfl)) (hw _ (List.mem_of_getElem? (i := 2) rfl)) (hw _ (List.mem_of_getElem? (i := 25) rfl)) (by decide) b1 Oq5_b1.exa [(.int p3), (.ref d)] [] own_pd5 rfl rfl rfl rfl at_39 (by decide) (Nat.le_of_ble_eq_true rfl) (by decide) (by decide) ?_
  intro T6 L6 v6 X6 hQ6
  obtain ⟨h6, e6⟩ : ∃ z, T6.heap = z := ⟨_, rfl⟩
  rw [e6] at hQ6
  obtain ⟨rfl, Nq6, Kq6, Oq6_b1, Oq6_t1, Oq6_t2, Oq6_t3⟩ := hQ6
  have N6 := Fr.app N5 Nq6
  have Od6 := Old.keep Od5 Kq6 (allS f_b1 (allS f_t1 (allS f_t2 (allS f_t3 all0))))
  have Z6 : n0 ≤ h6.size := Nat.le_trans Z5 Kq6.1
  have hT3 := own_Tab_add hT2 (by decide) (own_idx_none (by decide) hr2)
  generalize own_un u2 (own_sk u2 0 4 (own_H p3)) (2 + 1) = u3 at hT3 Oq6_t3
  show own_Fin p e below _ T6 (mkF m 42 #[.val (.int p1), .val (.int p2), .val (.int p3), .val (.int p4), .val (.ref b1), .val (.ref d), .val (.int (1 : Int32)), .val (.int (1 : Int32)), .unset, .unset, .unset, .unset, .unset, .unset, .unset, .unset, .unset, .unset] [(.int (1 : Int32))])
  refine own_seg (T' := T6) (g' := (mkF m 46 #[.val (.int p1), .val (.int p2), .val (.int p3), .val (.int p4), .val (.ref b1), .val (.ref d), .val (.int (1 : Int32)), .val (.int (1 : Int32)), .val (.int (1 : Int32)), .unset, .unset, .unset, .unset, .unset, .unset, .unset, .unset, .unset] [(.int p1), (.int p2)])) (fun tg kt => ?_) ?_
  · show Steps p.tables e below (T6.setTop (mkF m 42 #[.val (.int p1), .val (.int p2), .val (.int p3), .val (.int p4), .val (.ref b1), .val (.ref d), .val (.int (1 : Int32)), .val (.int (1 : Int32)), .unset, .unset, .unset, .unset, .unset, .unset, .unset, .unset, .unset, .unset] [(.int (1 : Int32))])) tg
    refine XS.istore X6.here hx rfl (hb hby at_42) rfl (l' := #[.val (.int p1), .val (.int p2), .val (.int p3), .val (.int p4), .val (.ref b1), .val (.ref d), .val (.int (1 : Int32)), .val (.int (1 : Int32)), .val (.int (1 : Int32)), .unset, .unset, .unset, .unset, .unset, .unset, .unset, .unset, .unset]) rfl ?_
    show Steps p.tables e below (T6.setTop (mkF m 44 #[.val (.int p1), .val (.int p2), .val (.int p3), .val (.int p4), .val (.ref b1), .val (.ref d), .val (.int (1 : Int32)), .val (.int (1 : Int32)), .val (.int (1 : Int32)), .unset, .unset, .unset, .unset, .unset, .unset, .unset, .unset, .unset] [])) tg
    refine XS.iloadN X6.here hx rfl (hb hby at_44) rfl ?_
    show Steps p.tables e below (T6.setTop (mkF m 45 #[.val (.int p1), .val (.int p2), .val (.int p3), .val (.int p4), .val (.ref b1), .val (.ref d), .val (.int (1 : Int32)), .val (.int (1 : Int32)), .val (.int (1 : Int32)), .unset, .unset, .unset, .unset, .unset, .unset, .unset, .unset, .unset] [(.int p2)])) tg
    refine XS.iloadN X6.here hx rfl (hb hby at_45) rfl ?_
    exact kt
  have hc46 : ¬ (p2 = p1) := hba
  refine own_seg (T' := T6) (g' := (mkF m 49 #[.val (.int p1), .val (.int p2), .val (.int p3), .val (.int p4), .val (.ref b1), .val (.ref d), .val (.int (1 : Int32)), .val (.int (1 : Int32)), .val (.int (1 : Int32)), .unset, .unset, .unset, .unset, .unset, .unset, .unset, .unset, .unset] [])) (fun tg kt => XS.icmpNo X6.here hx rfl (hb hby at_46) rfl (feq hc46).1 kt) ?_
  refine own_seg (T' := T6) (g' := (mkF m 58 #[.val (.int p1), .val (.int p2), .val (.int p3), .val (.int p4), .val (.ref b1), .val (.ref d), .val (.int (1 : Int32)), .val (.int (1 : Int32)), .val (.int (1 : Int32)), .val (.int (1 : Int32)), .unset, .unset, .unset, .unset, .unset, .unset, .unset, .unset] [(.int p1), (.int p3)])) (fun tg kt => ?_) ?_
  · show Steps p.tables e below (T6.setTop (mkF m 49 #[.val (.int p1), .val (.int p2), .val (.int p3), .val (.int p4), .val (.ref b1), .val (.ref d), .val (.int (1 : Int32)), .val (.int (1 : Int32)), .val (.int (1 : Int32)), .unset, .unset, .unset, .unset, .unset, .unset, .unset, .unset, .unset] [])) tg
    refine XS.iconst X6.here hx rfl (hb hby at_49) ?_
    show Steps p.tables e below (T6.setTop (mkF m 50 #[.val (.int p1), .val (.int p2), .val (.int p3), .val (.int p4), .val (.ref b1), .val (.ref d), .val (.int (1 : Int32)), .val (.int (1 : Int32)), .val (.int (1 : Int32)), .unset, .unset, .unset, .unset, .unset, .unset, .unset, .unset, .unset] [(.int (1 : Int32))])) tg
    refine XS.goto X6.here hx rfl (pc0 := 50) (pc' := 54) rfl (hb hby at_50) (by decide) (by decide) ?_
    show Steps p.tables e below (T6.setTop (mkF m 54 #[.val (.int p1), .val (.int p2), .val (.int p3), .val (.int p4), .val (.ref b1), .val (.ref d), .val (.int (1 : Int32)), .val (.int (1 : Int32)), .val (.int (1 : Int32)), .unset, .unset, .unset, .unset, .unset, .unset, .unset, .unset, .unset] [(.int (1 : Int32))])) tg
    refine XS.istore X6.here hx rfl (hb hby at_54) rfl (l' := #[.val (.int p1), .val (.int p2), .val (.int p3), .val (.int p4), .val (.ref b1), .val (.ref d), .val (.int (1 : Int32)), .val (.int (1 : Int32)), .val (.int (1 : Int32)), .val (.int (1 : Int32)), .unset, .unset, .unset, .unset, .unset, .unset, .unset, .unset]) rfl ?_
    show Steps p.tables e below (T6.setTop (mkF m 56 #[.val (.int p1), .val (.int p2), .val (.int p3), .val (.int p4), .val (.ref b1), .val (.ref d), .val (.int (1 : Int32)), .val (.int (1 : Int32)), .val (.int (1 : Int32)), .val (.int (1 : Int32)), .unset, .unset, .unset, .unset, .unset, .unset, .unset, .unset] [])) tg
    refine XS.iloadN X6.here hx rfl (hb hby at_56) rfl ?_
    show Steps p.tables e below (T6.setTop (mkF m 57 #[.val (.int p1), .val (.int p2), .val (.int p3), .val (.int p4), .val (.ref b1), .val (.ref d), .val (.int (1 : Int32)), .val (.int (1 : Int32)), .val (.int (1 : Int32)), .val (.int (1 : Int32)), .unset, .unset, .unset, .unset, .unset, .unset, .unset, .unset] [(.int p3)])) tg
    refine XS.iloadN X6.here hx rfl (hb hby at_57) rfl ?_
    exact kt
  have hc58 : ¬ (p3 = p1) := hca
  refine own_seg (T' := T6) (g' := (mkF m 61 #[.val (.int p1), .val (.int p2), .val (.int p3), .val (.int p4), .val (.ref b1), .val (.ref d), .val (.int (1 : Int32)), .val (.int (1 : Int32)), .val (.int (1 : Int32)), .val (.int (1 : Int32)), .unset, .unset, .unset, .unset, .unset, .unset, .unset, .unset] [])) (fun tg kt => XS.icmpNo X6.here hx rfl (hb hby at_58) rfl (feq hc58).1 kt) ?_
  refine own_seg (T' := T6) (g' := (mkF m 63 #[.val (.int p1), .val (.int p2), .val (.int p3), .val (.int p4), .val (.ref b1), .val (.ref d), .val (.int (1 : Int32)), .val (.int (1 : Int32)), .val (.int (1 : Int32)), .val (.int (1 : Int32)), .unset, .unset, .unset, .unset, .unset, .unset, .unset, .unset] [(.int p2), (.int p3)])) (fun tg kt => ?_) ?_
  · show Steps p.tables e below (T6.setTop (mkF m 61 #[.val (.int p1), .val (.int p2), .val (.int p3), .val (.int p4), .val (.ref b1), .val (.ref d), .val (.int (1 : Int32)), .val (.int (1 : Int32)), .val (.int (1 : Int32)), .val (.int (1 : Int32)), .unset, .unset, .unset, .unset, .unset, .unset, .unset, .unset] [])) tg
    refine XS.iloadN X6.here hx rfl (hb hby at_61) rfl ?_
    show Steps p.tables e below (T6.setTop (mkF m 62 #[.val (.int p1), .val (.int p2), .val (.int p3), .val (.int p4), .val (.ref b1), .val (.ref d), .val (.int (1 : Int32)), .val (.int (1 : Int32)), .val (.int (1 : Int32)), .val (.int (1 : Int32)), .unset, .unset, .unset, .unset, .unset, .unset, .unset, .unset] [(.int p3)])) tg
    refine XS.iloadN X6.here hx rfl (hb hby at_62) rfl ?_
    exact kt
  have hc63 : ¬ (p3 = p2) := hcb
  refine own_seg (T' := T6) (g' := (mkF m 66 #[.val (.int p1), .val (.int p2), .val (.int p3), .val (.int p4), .val (.ref b1), .val (.ref d), .val (.int (1 : Int32)), .val (.int (1 : Int32)), .val (.int (1 : Int32)), .val (.int (1 : Int32)), .unset, .unset, .unset, .unset, .unset, .unset, .unset, .unset] [])) (fun tg kt => XS.icmpNo X6.here hx rfl (hb hby at_63) rfl (feq hc63).1 kt) ?_
  refine own_seg (T' := T6) (g' := (mkF m 76 #[.val (.int p1), .val (.int p2), .val (.int p3), .val (.int p4), .val (.ref b1), .val (.ref d), .val (.int (1 : Int32)), .val (.int (1 : Int32)), .val (.int (1 : Int32)), .val (.int (1 : Int32)), .val (.int (1 : Int32)), .unset, .unset, .unset, .unset, .unset, .unset, .unset] [(.int (1 : Int32)), (.int (1 : Int32))])) (fun tg kt => ?_) ?_
  · show Steps p.tables e below (T6.setTop (mkF m 66 #[.val (.int p1), .val (.int p2), .val (.int p3), .val (.int p4), .val (.ref b1), .val (.ref d), .val (.int (1 : Int32)), .val (.int (1 : Int32)), .val (.int (1 : Int32)), .val (.int (1 : Int32)), .unset, .unset, .unset, .unset, .unset, .unset, .unset, .unset] [])) tg
    refine XS.iconst X6.here hx rfl (hb hby at_66) ?_
    show Steps p.tables e below (T6.setTop (mkF m 67 #[.val (.int p1), .val (.int p2), .val (.int p3), .val (.int p4), .val (.ref b1), .val (.ref d), .val (.int (1 : Int32)), .val (.int (1 : Int32)), .val (.int (1 : Int32)), .val (.int (1 : Int32)), .unset, .unset, .unset, .unset, .unset, .unset, .unset, .unset] [(.int (1 : Int32))])) tg
    refine XS.goto X6.here hx rfl (pc0 := 67) (pc' := 71) rfl (hb hby at_67) (by decide) (by decide) ?_
    show Steps p.tables e below (T6.setTop (mkF m 71 #[.val (.int p1), .val (.int p2), .val (.int p3), .val (.int p4), .val (.ref b1), .val (.ref d), .val (.int (1 : Int32)), .val (.int (1 : Int32)), .val (.int (1 : Int32)), .val (.int (1 : Int32)), .unset, .unset, .unset, .unset, .unset, .unset, .unset, .unset] [(.int (1 : Int32))])) tg
    refine XS.istore X6.here hx rfl (hb hby at_71) rfl (l' := #[.val (.int p1), .val (.int p2), .val (.int p3), .val (.int p4), .val (.ref b1), .val (.ref d), .val (.int (1 : Int32)), .val (.int (1 : Int32)), .val (.int (1 : Int32)), .val (.int (1 : Int32)), .val (.int (1 : Int32)), .unset, .unset, .unset, .unset, .unset, .unset, .unset]) rfl ?_
    show Steps p.tables e below (T6.setTop (mkF m 73 #[.val (.int p1), .val (.int p2), .val (.int p3), .val (.int p4), .val (.ref b1), .val (.ref d), .val (.int (1 : Int32)), .val (.int (1 : Int32)), .val (.int (1 : Int32)), .val (.int (1 : Int32)), .val (.int (1 : Int32)), .unset, .unset, .unset, .unset, .unset, .unset, .unset] [])) tg
    refine XS.iconst X6.here hx rfl (hb hby at_73) ?_
    show Steps p.tables e below (T6.setTop (mkF m 74 #[.val (.int p1), .val (.int p2), .val (.int p3), .val (.int p4), .val (.ref b1), .val (.ref d), .val (.int (1 : Int32)), .val (.int (1 : Int32)), .val (.int (1 : Int32)), .val (.int (1 : Int32)), .val (.int (1 : Int32)), .unset, .unset, .unset, .unset, .unset, .unset, .unset] [(.int (1 : Int32))])) tg
    refine XS.iload X6.here hx rfl (hb hby at_74) rfl ?_
    exact kt
  have hc76 : ¬ ((1 : Int32) = (0 : Int32)) := by decide
  refine own_seg (T' := T6) (g' := (mkF m 79 #[.val (.int p1), .val (.int p2), .val (.int p3), .val (.int p4), .val (.ref b1), .val (.ref d), .val (.int (1 : Int32)), .val (.int (1 : Int32)), .val (.int (1 : Int32)), .val (.int (1 : Int32)), .val (.int (1 : Int32)), .unset, .unset, .unset, .unset, .unset, .unset, .unset] [(.int (1 : Int32))])) (fun tg kt => XS.ifNo X6.here hx rfl (hb hby at_76) rfl ((if0 _ _).trans (feq hc76).1) kt) ?_
  refine own_seg (T' := T6) (g' := (mkF m 87 #[.val (.int p1), .val (.int p2), .val (.int p3), .val (.int p4), .val (.ref b1), .val (.ref d), .val (.int (1 : Int32)), .val (.int (1 : Int32)), .val (.int (1 : Int32)), .val (.int (1 : Int32)), .val (.int (1 : Int32)), .unset, .unset, .unset, .unset, .unset, .unset, .unset] [(.int (1 : Int32)), (.int (2 : Int32))])) (fun tg kt => ?_) ?_
  · show Steps p.tables e below (T6.setTop (mkF m 79 #[.val (.int p1), .val (.int p2), .val (.int p3), .val (.int p4), .val (.ref b1), .val (.ref d), .val (.int (1 : Int32)), .val (.int (1 : Int32)), .val (.int (1 : Int32)), .val (.int (1 : Int32)), .val (.int (1 : Int32)), .unset, .unset, .unset, .unset, .unset, .unset, .unset] [(.int (1 : Int32))])) tg
    refine XS.iconst X6.here hx rfl (hb hby at_79) ?_
    show Steps p.tables e below (T6.setTop (mkF m 80 #[.val (.int p1), .val (.int p2), .val (.int p3), .val (.int p4), .val (.ref b1), .val (.ref d), .val (.int (1 : Int32)), .val (.int (1 : Int32)), .val (.int (1 : Int32)), .val (.int (1 : Int32)), .val (.int (1 : Int32)), .unset, .unset, .unset, .unset, .unset, .unset, .unset] [(.int (1 : Int32)), (.int (1 : Int32))])) tg
    refine XS.goto X6.here hx rfl (pc0 := 80) (pc' := 84) rfl (hb hby at_80) (by decide) (by decide) ?_
    show Steps p.tables e below (T6.setTop (mkF m 84 #[.val (.int p1), .val (.int p2), .val (.int p3), .val (.int p4), .val (.ref b1), .val (.ref d), .val (.int (1 : Int32)), .val (.int (1 : Int32)), .val (.int (1 : Int32)), .val (.int (1 : Int32)), .val (.int (1 : Int32)), .unset, .unset, .unset, .unset, .unset, .unset, .unset] [(.int (1 : Int32)), (.int (1 : Int32))])) tg
    refine XS.iadd X6.here hx rfl (hb hby at_84) rfl ?_
    show Steps p.tables e below (T6.setTop (mkF m 85 #[.val (.int p1), .val (.int p2), .val (.int p3), .val (.int p4), .val (.ref b1), .val (.ref d), .val (.int (1 : Int32)), .val (.int (1 : Int32)), .val (.int (1 : Int32)), .val (.int (1 : Int32)), .val (.int (1 : Int32)), .unset, .unset, .unset, .unset, .unset, .unset, .unset] [(.int (2 : Int32))])) tg
    refine XS.iload X6.here hx rfl (hb hby at_85) rfl ?_
    exact kt
  have hc87 : ¬ ((1 : Int32) = (0 : Int32)) := by decide
  refine own_seg (T' := T6) (g' := (mkF m 90 #[.val (.int p1), .val (.int p2), .val (.int p3), .val (.int p4), .val (.ref b1), .val (.ref d), .val (.int (1 : Int32)), .val (.int (1 : Int32)), .val (.int (1 : Int32)), .val (.int (1 : Int32)), .val (.int (1 : Int32)), .unset, .unset, .unset, .unset, .unset, .unset, .unset] [(.int (2 : Int32))])) (fun tg kt => XS.ifNo X6.here hx rfl (hb hby at_87) rfl ((if0 _ _).trans (feq hc87).1) kt) ?_
  refine own_seg (T' := T6) (g' := (mkF m 106 #[.val (.int p1), .val (.int p2), .val (.int p3), .val (.int p4), .val (.ref b1), .val (.ref d), .val (.int (1 : Int32)), .val (.int (1 : Int32)), .val (.int (1 : Int32)), .val (.int (1 : Int32)), .val (.int (1 : Int32)), .val (.int (3 : Int32)), .val (.int ((p4 &&& (2147483647 : Int32)) % (5 : Int32))), .unset, .unset, .unset, .unset, .unset] [])) (fun tg kt => ?_) ?_
  · show Steps p.tables e below (T6.setTop (mkF m 90 #[.val (.int p1), .val (.int p2), .val (.int p3), .val (.int p4), .val (.ref b1), .val (.ref d), .val (.int (1 : Int32)), .val (.int (1 : Int32)), .val (.int (1 : Int32)), .val (.int (1 : Int32)), .val (.int (1 : Int32)), .unset, .unset, .unset, .unset, .unset, .unset, .unset] [(.int (2 : Int32))])) tg
    refine XS.iconst X6.here hx rfl (hb hby at_90) ?_
    show Steps p.tables e below (T6.setTop (mkF m 91 #[.val (.int p1), .val (.int p2), .val (.int p3), .val (.int p4), .val (.ref b1), .val (.ref d), .val (.int (1 : Int32)), .val (.int (1 : Int32)), .val (.int (1 : Int32)), .val (.int (1 : Int32)), .val (.int (1 : Int32)), .unset, .unset, .unset, .unset, .unset, .unset, .unset] [(.int (1 : Int32)), (.int (2 : Int32))])) tg
    refine XS.goto X6.here hx rfl (pc0 := 91) (pc' := 95) rfl (hb hby at_91) (by decide) (by decide) ?_
    show Steps p.tables e below (T6.setTop (mkF m 95 #[.val (.int p1), .val (.int p2), .val (.int p3), .val (.int p4), .val (.ref b1), .val (.ref d), .val (.int (1 : Int32)), .val (.int (1 : Int32)), .val (.int (1 : Int32)), .val (.int (1 : Int32)), .val (.int (1 : Int32)), .unset, .unset, .unset, .unset, .unset, .unset, .unset] [(.int (1 : Int32)), (.int (2 : Int32))])) tg
    refine XS.iadd X6.here hx rfl (hb hby at_95) rfl ?_
    show Steps p.tables e below (T6.setTop (mkF m 96 #[.val (.int p1), .val (.int p2), .val (.int p3), .val (.int p4), .val (.ref b1), .val (.ref d), .val (.int (1 : Int32)), .val (.int (1 : Int32)), .val (.int (1 : Int32)), .val (.int (1 : Int32)), .val (.int (1 : Int32)), .unset, .unset, .unset, .unset, .unset, .unset, .unset] [(.int (3 : Int32))])) tg
    refine XS.istore X6.here hx rfl (hb hby at_96) rfl (l' := #[.val (.int p1), .val (.int p2), .val (.int p3), .val (.int p4), .val (.ref b1), .val (.ref d), .val (.int (1 : Int32)), .val (.int (1 : Int32)), .val (.int (1 : Int32)), .val (.int (1 : Int32)), .val (.int (1 : Int32)), .val (.int (3 : Int32)), .unset, .unset, .unset, .unset, .unset, .unset]) rfl ?_
    show Steps p.tables e below (T6.setTop (mkF m 98 #[.val (.int p1), .val (.int p2), .val (.int p3), .val (.int p4), .val (.ref b1), .val (.ref d), .val (.int (1 : Int32)), .val (.int (1 : Int32)), .val (.int (1 : Int32)), .val (.int (1 : Int32)), .val (.int (1 : Int32)), .val (.int (3 : Int32)), .unset, .unset, .unset, .unset, .unset, .unset] [])) tg
    refine XS.iloadN X6.here hx rfl (hb hby at_98) rfl ?_
    show Steps p.tables e below (T6.setTop (mkF m 99 #[.val (.int p1), .val (.int p2), .val (.int p3), .val (.int p4), .val (.ref b1), .val (.ref d), .val (.int (1 : Int32)), .val (.int (1 : Int32)), .val (.int (1 : Int32)), .val (.int (1 : Int32)), .val (.int (1 : Int32)), .val (.int (3 : Int32)), .unset, .unset, .unset, .unset, .unset, .unset] [(.int p4)])) tg
    refine X6.ldcInt hx hown (mvT hZ (hw _ (List.mem_of_getElem? (i := 47) rfl))) (g := (mkF m 99 #[.val (.int p1), .val (.int p2), .val (.int p3), .val (.int p4), .val (.ref b1), .val (.ref d), .val (.int (1 : Int32)), .val (.int (1 : Int32)), .val (.int (1 : Int32)), .val (.int (1 : Int32)), .val (.int (1 : Int32)), .val (.int (3 : Int32)), .unset, .unset, .unset, .unset, .unset, .unset] [(.int p4)])) rfl (hb hby at_99) _ ?_
    show Steps p.tables e below (T6.setTop (mkF m 101 #[.val (.int p1), .val (.int p2), .val (.int p3), .val (.int p4), .val (.ref b1), .val (.ref d), .val (.int (1 : Int32)), .val (.int (1 : Int32)), .val (.int (1 : Int32)), .val (.int (1 : Int32)), .val (.int (1 : Int32)), .val (.int (3 : Int32)), .unset, .unset, .unset, .unset, .unset, .unset] [(.int (2147483647 : Int32)), (.int p4)])) tg
    refine XS.iand X6.here hx rfl (hb hby at_101) rfl ?_
    show Steps p.tables e below (T6.setTop (mkF m 102 #[.val (.int p1), .val (.int p2), .val (.int p3), .val (.int p4), .val (.ref b1), .val (.ref d), .val (.int (1 : Int32)), .val (.int (1 : Int32)), .val (.int (1 : Int32)), .val (.int (1 : Int32)), .val (.int (1 : Int32)), .val (.int (3 : Int32)), .unset, .unset, .unset, .unset, .unset, .unset] [(.int (p4 &&& (2147483647 : Int32)))])) tg
    refine XS.iconst X6.here hx rfl (hb hby at_102) ?_
    show Steps p.tables e below (T6.setTop (mkF m 103 #[.val (.int p1), .val (.int p2), .val (.int p3), .val (.int p4), .val (.ref b1), .val (.ref d), .val (.int (1 : Int32)), .val (.int (1 : Int32)), .val (.int (1 : Int32)), .val (.int (1 : Int32)), .val (.int (1 : Int32)), .val (.int (3 : Int32)), .unset, .unset, .unset, .unset, .unset, .unset] [(.int (5 : Int32)), (.int (p4 &&& (2147483647 : Int32)))])) tg
    refine iremM X6 hx rfl (hb hby at_103) rfl (by decide) ?_
    show Steps p.tables e below (T6.setTop (mkF m 104 #[.val (.int p1), .val (.int p2), .val (.int p3), .val (.int p4), .val (.ref b1), .val (.ref d), .val (.int (1 : Int32)), .val (.int (1 : Int32)), .val (.int (1 : Int32)), .val (.int (1 : Int32)), .val (.int (1 : Int32)), .val (.int (3 : Int32)), .unset, .unset, .unset, .unset, .unset, .unset] [(.int ((p4 &&& (2147483647 : Int32)) % (5 : Int32)))])) tg
    refine XS.istore X6.here hx rfl (hb hby at_104) rfl (l' := #[.val (.int p1), .val (.int p2), .val (.int p3), .val (.int p4), .val (.ref b1), .val (.ref d), .val (.int (1 : Int32)), .val (.int (1 : Int32)), .val (.int (1 : Int32)), .val (.int (1 : Int32)), .val (.int (1 : Int32)), .val (.int (3 : Int32)), .val (.int ((p4 &&& (2147483647 : Int32)) % (5 : Int32))), .unset, .unset, .unset, .unset, .unset]) rfl ?_
    exact kt
  obtain ⟨mm, hmm4, hmm⟩ := own_k5 p4
  rw [hmm]
  refine own_seg (T' := T6) (g' := (mkF m 110 #[.val (.int p1), .val (.int p2), .val (.int p3), .val (.int p4), .val (.ref b1), .val (.ref d), .val (.int (1 : Int32)), .val (.int (1 : Int32)), .val (.int (1 : Int32)), .val (.int (1 : Int32)), .val (.int (1 : Int32)), .val (.int (3 : Int32)), .val (.int (Int32.ofNat mm)), .unset, .unset, .unset, .unset, .unset] [(.int (Int32.ofNat mm)), (.ref b1)])) (fun tg kt => ?_) ?_
  · show Steps p.tables e below (T6.setTop (mkF m 106 #[.val (.int p1), .val (.int p2), .val (.int p3), .val (.int p4), .val (.ref b1), .val (.ref d), .val (.int (1 : Int32)), .val (.int (1 : Int32)), .val (.int (1 : Int32)), .val (.int (1 : Int32)), .val (.int (1 : Int32)), .val (.int (3 : Int32)), .val (.int (Int32.ofNat mm)), .unset, .unset, .unset, .unset, .unset] [])) tg
    refine XS.aload X6.here hx rfl (hb hby at_106) rfl rfl ?_
    show Steps p.tables e below (T6.setTop (mkF m 108 #[.val (.int p1), .val (.int p2), .val (.int p3), .val (.int p4), .val (.ref b1), .val (.ref d), .val (.int (1 : Int32)), .val (.int (1 : Int32)), .val (.int (1 : Int32)), .val (.int (1 : Int32)), .val (.int (1 : Int32)), .val (.int (3 : Int32)), .val (.int (Int32.ofNat mm)), .unset, .unset, .unset, .unset, .unset] [(.ref b1)])) tg
    refine XS.iload X6.here hx rfl (hb hby at_108) rfl ?_
    exact kt
  refine own_callV K X6 e6 (rmT l Z a0 hw b1 t1 t2 t3 mm 3 u3 (own_up (own_up (own_up (fun _ => (0 : Int32)) 0 p1) 1 p2) 2 p3) h6 n0 Z6 Oq6_b1 Oq6_t1 Oq6_t2 Oq6_t3 hD f_b1 f_t1 f_t2 f_t3 (by omega) hT3) (hw _ (List.mem_of_getElem? (i := 48) rfl)) (hw _ (List.mem_of_getElem? (i := 49) rfl)) (fun _ q => notFace_of_selects q) (hw _ (List.mem_of_getElem? (i := 51) rfl)) (hw _ (List.mem_of_getElem? (i := 50) rfl)) (hw _ (List.mem_of_getElem? (i := 2) rfl)) (hw _ (List.mem_of_getElem? (i := 52) rfl)) (by decide) b1 Oq6_b1.exa [(.int (Int32.ofNat mm))] [] own_pd2 rfl rfl rfl rfl at_110 (by decide) (Nat.le_of_ble_eq_true rfl) (by decide) (by decide) ?_
  intro T7 L7 v7 X7 hQ7
  obtain ⟨h7, e7⟩ : ∃ z, T7.heap = z := ⟨_, rfl⟩
  rw [e7] at hQ7
  obtain ⟨kk, uk, rfl, Nq7, Kq7, hkk, hTk, P_a, P_1, P_2, P_3⟩ := hQ7
  have N7 := Fr.app N6 Nq7
  have Od7 := Old.keep Od6 Kq7 (allS f_b1 (allS f_t1 (allS f_t2 (allS f_t3 all0))))
  have Z7 : n0 ≤ h7.size := Nat.le_trans Z6 Kq7.1
  show own_Fin p e below _ T7 (mkF m 113 #[.val (.int p1), .val (.int p2), .val (.int p3), .val (.int p4), .val (.ref b1), .val (.ref d), .val (.int (1 : Int32)), .val (.int (1 : Int32)), .val (.int (1 : Int32)), .val (.int (1 : Int32)), .val (.int (1 : Int32)), .val (.int (3 : Int32)), .val (.int (Int32.ofNat mm)), .unset, .unset, .unset, .unset, .unset] [])
  refine own_seg (T' := T7) (g' := (mkF m 117 #[.val (.int p1), .val (.int p2), .val (.int p3), .val (.int p4), .val (.ref b1), .val (.ref d), .val (.int (1 : Int32)), .val (.int (1 : Int32)), .val (.int (1 : Int32)), .val (.int (1 : Int32)), .val (.int (1 : Int32)), .val (.int (3 : Int32)), .val (.int (Int32.ofNat mm)), .unset, .unset, .unset, .unset, .unset] [(.int (Int32.ofNat mm)), (.int (3 : Int32))])) (fun tg kt => ?_) ?_
  · show Steps p.tables e below (T7.setTop (mkF m 113 #[.val (.int p1), .val (.int p2), .val (.int p3), .val (.int p4), .val (.ref b1), .val (.ref d), .val (.int (1 : Int32)), .val (.int (1 : Int32)), .val (.int (1 : Int32)), .val (.int (1 : Int32)), .val (.int (1 : Int32)), .val (.int (3 : Int32)), .val (.int (Int32.ofNat mm)), .unset, .unset, .unset, .unset, .unset] [])) tg
    refine XS.iload X7.here hx rfl (hb hby at_113) rfl ?_
    show Steps p.tables e below (T7.setTop (mkF m 115 #[.val (.int p1), .val (.int p2), .val (.int p3), .val (.int p4), .val (.ref b1), .val (.ref d), .val (.int (1 : Int32)), .val (.int (1 : Int32)), .val (.int (1 : Int32)), .val (.int (1 : Int32)), .val (.int (1 : Int32)), .val (.int (3 : Int32)), .val (.int (Int32.ofNat mm)), .unset, .unset, .unset, .unset, .unset] [(.int (3 : Int32))])) tg
    refine XS.iload X7.here hx rfl (hb hby at_115) rfl ?_
    exact kt
  have hmn : own_min (3 : Int32) (Int32.ofNat mm) = Int32.ofNat kk := by
    rw [hkk]
    rcases (by omega : mm = 0 ∨ mm = 1 ∨ mm = 2 ∨ mm = 3 ∨ mm = 4) with rfl | rfl | rfl | rfl | rfl <;> decide
  refine own_callS K X7 e7 (rmM l Z a0 hw (3 : Int32) (Int32.ofNat mm) h7 n0 Z7) (hw _ (List.mem_of_getElem? (i := 53) rfl)) (hw _ (List.mem_of_getElem? (i := 54) rfl)) (hw _ (List.mem_of_getElem? (i := 55) rfl)) (hw _ (List.mem_of_getElem? (i := 56) rfl)) (by decide) [(.int (3 : Int32)), (.int (Int32.ofNat mm))] [] own_pd6 rfl rfl rfl rfl at_117 (by decide) (Nat.le_of_ble_eq_true rfl) (by decide) (by decide) ?_
  intro T8 L8 v8 X8 hQ8
  obtain ⟨rfl, Nq8, e8⟩ := hQ8
  rw [hmn]
  have N8 := Fr.app N7 Nq8
  show own_Fin p e below _ T8 (mkF m 120 #[.val (.int p1), .val (.int p2), .val (.int p3), .val (.int p4), .val (.ref b1), .val (.ref d), .val (.int (1 : Int32)), .val (.int (1 : Int32)), .val (.int (1 : Int32)), .val (.int (1 : Int32)), .val (.int (1 : Int32)), .val (.int (3 : Int32)), .val (.int (Int32.ofNat mm)), .unset, .unset, .unset, .unset, .unset] [(.int (Int32.ofNat kk))])
  refine own_seg (T' := T8) (g' := (mkF m 124 #[.val (.int p1), .val (.int p2), .val (.int p3), .val (.int p4), .val (.ref b1), .val (.ref d), .val (.int (1 : Int32)), .val (.int (1 : Int32)), .val (.int (1 : Int32)), .val (.int (1 : Int32)), .val (.int (1 : Int32)), .val (.int (3 : Int32)), .val (.int (Int32.ofNat mm)), .val (.int (Int32.ofNat kk)), .unset, .unset, .unset, .unset] [(.int (1 : Int32))])) (fun tg kt => ?_) ?_
  · show Steps p.tables e below (T8.setTop (mkF m 120 #[.val (.int p1), .val (.int p2), .val (.int p3), .val (.int p4), .val (.ref b1), .val (.ref d), .val (.int (1 : Int32)), .val (.int (1 : Int32)), .val (.int (1 : Int32)), .val (.int (1 : Int32)), .val (.int (1 : Int32)), .val (.int (3 : Int32)), .val (.int (Int32.ofNat mm)), .unset, .unset, .unset, .unset, .unset] [(.int (Int32.ofNat kk))])) tg
    refine XS.istore X8.here hx rfl (hb hby at_120) rfl (l' := #[.val (.int p1), .val (.int p2), .val (.int p3), .val (.int p4), .val (.ref b1), .val (.ref d), .val (.int (1 : Int32)), .val (.int (1 : Int32)), .val (.int (1 : Int32)), .val (.int (1 : Int32)), .val (.int (1 : Int32)), .val (.int (3 : Int32)), .val (.int (Int32.ofNat mm)), .val (.int (Int32.ofNat kk)), .unset, .unset, .unset, .unset]) rfl ?_
    show Steps p.tables e below (T8.setTop (mkF m 122 #[.val (.int p1), .val (.int p2), .val (.int p3), .val (.int p4), .val (.ref b1), .val (.ref d), .val (.int (1 : Int32)), .val (.int (1 : Int32)), .val (.int (1 : Int32)), .val (.int (1 : Int32)), .val (.int (1 : Int32)), .val (.int (3 : Int32)), .val (.int (Int32.ofNat mm)), .val (.int (Int32.ofNat kk)), .unset, .unset, .unset, .unset] [])) tg
    refine XS.iload X8.here hx rfl (hb hby at_122) rfl ?_
    exact kt
  have hc124 : ¬ ((1 : Int32) = (0 : Int32)) := by decide
  refine own_seg (T' := T8) (g' := (mkF m 127 #[.val (.int p1), .val (.int p2), .val (.int p3), .val (.int p4), .val (.ref b1), .val (.ref d), .val (.int (1 : Int32)), .val (.int (1 : Int32)), .val (.int (1 : Int32)), .val (.int (1 : Int32)), .val (.int (1 : Int32)), .val (.int (3 : Int32)), .val (.int (Int32.ofNat mm)), .val (.int (Int32.ofNat kk)), .unset, .unset, .unset, .unset] [])) (fun tg kt => XS.ifNo X8.here hx rfl (hb hby at_124) rfl ((if0 _ _).trans (feq hc124).1) kt) ?_
  refine own_seg (T' := T8) (g' := (mkF m 137 #[.val (.int p1), .val (.int p2), .val (.int p3), .val (.int p4), .val (.ref b1), .val (.ref d), .val (.int (1 : Int32)), .val (.int (1 : Int32)), .val (.int (1 : Int32)), .val (.int (1 : Int32)), .val (.int (1 : Int32)), .val (.int (3 : Int32)), .val (.int (Int32.ofNat mm)), .val (.int (Int32.ofNat kk)), .val (.int (2 : Int32)), .unset, .unset, .unset] [(.int (Int32.ofNat kk)), (.int (0 : Int32))])) (fun tg kt => ?_) ?_
  · show Steps p.tables e below (T8.setTop (mkF m 127 #[.val (.int p1), .val (.int p2), .val (.int p3), .val (.int p4), .val (.ref b1), .val (.ref d), .val (.int (1 : Int32)), .val (.int (1 : Int32)), .val (.int (1 : Int32)), .val (.int (1 : Int32)), .val (.int (1 : Int32)), .val (.int (3 : Int32)), .val (.int (Int32.ofNat mm)), .val (.int (Int32.ofNat kk)), .unset, .unset, .unset, .unset] [])) tg
    refine XS.iconst X8.here hx rfl (hb hby at_127) ?_
    show Steps p.tables e below (T8.setTop (mkF m 128 #[.val (.int p1), .val (.int p2), .val (.int p3), .val (.int p4), .val (.ref b1), .val (.ref d), .val (.int (1 : Int32)), .val (.int (1 : Int32)), .val (.int (1 : Int32)), .val (.int (1 : Int32)), .val (.int (1 : Int32)), .val (.int (3 : Int32)), .val (.int (Int32.ofNat mm)), .val (.int (Int32.ofNat kk)), .unset, .unset, .unset, .unset] [(.int (2 : Int32))])) tg
    refine XS.goto X8.here hx rfl (pc0 := 128) (pc' := 132) rfl (hb hby at_128) (by decide) (by decide) ?_
    show Steps p.tables e below (T8.setTop (mkF m 132 #[.val (.int p1), .val (.int p2), .val (.int p3), .val (.int p4), .val (.ref b1), .val (.ref d), .val (.int (1 : Int32)), .val (.int (1 : Int32)), .val (.int (1 : Int32)), .val (.int (1 : Int32)), .val (.int (1 : Int32)), .val (.int (3 : Int32)), .val (.int (Int32.ofNat mm)), .val (.int (Int32.ofNat kk)), .unset, .unset, .unset, .unset] [(.int (2 : Int32))])) tg
    refine XS.istore X8.here hx rfl (hb hby at_132) rfl (l' := #[.val (.int p1), .val (.int p2), .val (.int p3), .val (.int p4), .val (.ref b1), .val (.ref d), .val (.int (1 : Int32)), .val (.int (1 : Int32)), .val (.int (1 : Int32)), .val (.int (1 : Int32)), .val (.int (1 : Int32)), .val (.int (3 : Int32)), .val (.int (Int32.ofNat mm)), .val (.int (Int32.ofNat kk)), .val (.int (2 : Int32)), .unset, .unset, .unset]) rfl ?_
    show Steps p.tables e below (T8.setTop (mkF m 134 #[.val (.int p1), .val (.int p2), .val (.int p3), .val (.int p4), .val (.ref b1), .val (.ref d), .val (.int (1 : Int32)), .val (.int (1 : Int32)), .val (.int (1 : Int32)), .val (.int (1 : Int32)), .val (.int (1 : Int32)), .val (.int (3 : Int32)), .val (.int (Int32.ofNat mm)), .val (.int (Int32.ofNat kk)), .val (.int (2 : Int32)), .unset, .unset, .unset] [])) tg
    refine XS.iconst X8.here hx rfl (hb hby at_134) ?_
    show Steps p.tables e below (T8.setTop (mkF m 135 #[.val (.int p1), .val (.int p2), .val (.int p3), .val (.int p4), .val (.ref b1), .val (.ref d), .val (.int (1 : Int32)), .val (.int (1 : Int32)), .val (.int (1 : Int32)), .val (.int (1 : Int32)), .val (.int (1 : Int32)), .val (.int (3 : Int32)), .val (.int (Int32.ofNat mm)), .val (.int (Int32.ofNat kk)), .val (.int (2 : Int32)), .unset, .unset, .unset] [(.int (0 : Int32))])) tg
    refine XS.iload X8.here hx rfl (hb hby at_135) rfl ?_
    exact kt
  by_cases hc137 : (0 : Int32) < (Int32.ofNat kk)
  · skip
    refine own_seg (T' := T8) (g' := (mkF m 140 #[.val (.int p1), .val (.int p2), .val (.int p3), .val (.int p4), .val (.ref b1), .val (.ref d), .val (.int (1 : Int32)), .val (.int (1 : Int32)), .val (.int (1 : Int32)), .val (.int (1 : Int32)), .val (.int (1 : Int32)), .val (.int (3 : Int32)), .val (.int (Int32.ofNat mm)), .val (.int (Int32.ofNat kk)), .val (.int (2 : Int32)), .unset, .unset, .unset] [])) (fun tg kt => XS.icmpNo X8.here hx rfl (hb hby at_137) rfl (tlt hc137).2.1 kt) ?_
    refine own_seg (T' := T8) (g' := (mkF m 149 #[.val (.int p1), .val (.int p2), .val (.int p3), .val (.int p4), .val (.ref b1), .val (.ref d), .val (.int (1 : Int32)), .val (.int (1 : Int32)), .val (.int (1 : Int32)), .val (.int (1 : Int32)), .val (.int (1 : Int32)), .val (.int (3 : Int32)), .val (.int (Int32.ofNat mm)), .val (.int (Int32.ofNat kk)), .val (.int (2 : Int32)), .val (.int (0 : Int32)), .unset, .unset] [(.int (1 : Int32))])) (fun tg kt => ?_) ?_
    · show Steps p.tables e below (T8.setTop (mkF m 140 #[.val (.int p1), .val (.int p2), .val (.int p3), .val (.int p4), .val (.ref b1), .val (.ref d), .val (.int (1 : Int32)), .val (.int (1 : Int32)), .val (.int (1 : Int32)), .val (.int (1 : Int32)), .val (.int (1 : Int32)), .val (.int (3 : Int32)), .val (.int (Int32.ofNat mm)), .val (.int (Int32.ofNat kk)), .val (.int (2 : Int32)), .unset, .unset, .unset] [])) tg
      refine XS.iconst X8.here hx rfl (hb hby at_140) ?_
      show Steps p.tables e below (T8.setTop (mkF m 141 #[.val (.int p1), .val (.int p2), .val (.int p3), .val (.int p4), .val (.ref b1), .val (.ref d), .val (.int (1 : Int32)), .val (.int (1 : Int32)), .val (.int (1 : Int32)), .val (.int (1 : Int32)), .val (.int (1 : Int32)), .val (.int (3 : Int32)), .val (.int (Int32.ofNat mm)), .val (.int (Int32.ofNat kk)), .val (.int (2 : Int32)), .unset, .unset, .unset] [(.int (0 : Int32))])) tg
      refine XS.goto X8.here hx rfl (pc0 := 141) (pc' := 145) rfl (hb hby at_141) (by decide) (by decide) ?_
      show Steps p.tables e below (T8.setTop (mkF m 145 #[.val (.int p1), .val (.int p2), .val (.int p3), .val (.int p4), .val (.ref b1), .val (.ref d), .val (.int (1 : Int32)), .val (.int (1 : Int32)), .val (.int (1 : Int32)), .val (.int (1 : Int32)), .val (.int (1 : Int32)), .val (.int (3 : Int32)), .val (.int (Int32.ofNat mm)), .val (.int (Int32.ofNat kk)), .val (.int (2 : Int32)), .unset, .unset, .unset] [(.int (0 : Int32))])) tg
      refine XS.istore X8.here hx rfl (hb hby at_145) rfl (l' := #[.val (.int p1), .val (.int p2), .val (.int p3), .val (.int p4), .val (.ref b1), .val (.ref d), .val (.int (1 : Int32)), .val (.int (1 : Int32)), .val (.int (1 : Int32)), .val (.int (1 : Int32)), .val (.int (1 : Int32)), .val (.int (3 : Int32)), .val (.int (Int32.ofNat mm)), .val (.int (Int32.ofNat kk)), .val (.int (2 : Int32)), .val (.int (0 : Int32)), .unset, .unset]) rfl ?_
      show Steps p.tables e below (T8.setTop (mkF m 147 #[.val (.int p1), .val (.int p2), .val (.int p3), .val (.int p4), .val (.ref b1), .val (.ref d), .val (.int (1 : Int32)), .val (.int (1 : Int32)), .val (.int (1 : Int32)), .val (.int (1 : Int32)), .val (.int (1 : Int32)), .val (.int (3 : Int32)), .val (.int (Int32.ofNat mm)), .val (.int (Int32.ofNat kk)), .val (.int (2 : Int32)), .val (.int (0 : Int32)), .unset, .unset] [])) tg
      refine XS.iload X8.here hx rfl (hb hby at_147) rfl ?_
      exact kt
    have hc149 : ¬ ((1 : Int32) = (0 : Int32)) := by decide
    refine own_seg (T' := T8) (g' := (mkF m 152 #[.val (.int p1), .val (.int p2), .val (.int p3), .val (.int p4), .val (.ref b1), .val (.ref d), .val (.int (1 : Int32)), .val (.int (1 : Int32)), .val (.int (1 : Int32)), .val (.int (1 : Int32)), .val (.int (1 : Int32)), .val (.int (3 : Int32)), .val (.int (Int32.ofNat mm)), .val (.int (Int32.ofNat kk)), .val (.int (2 : Int32)), .val (.int (0 : Int32)), .unset, .unset] [])) (fun tg kt => XS.ifNo X8.here hx rfl (hb hby at_149) rfl ((if0 _ _).trans (feq hc149).1) kt) ?_
    refine own_seg (T' := T8) (g' := (mkF m 155 #[.val (.int p1), .val (.int p2), .val (.int p3), .val (.int p4), .val (.ref b1), .val (.ref d), .val (.int (1 : Int32)), .val (.int (1 : Int32)), .val (.int (1 : Int32)), .val (.int (1 : Int32)), .val (.int (1 : Int32)), .val (.int (3 : Int32)), .val (.int (Int32.ofNat mm)), .val (.int (Int32.ofNat kk)), .val (.int (2 : Int32)), .val (.int (0 : Int32)), .unset, .unset] [(.int (Int32.ofNat kk)), (.int (1 : Int32))])) (fun tg kt => ?_) ?_
    · show Steps p.tables e below (T8.setTop (mkF m 152 #[.val (.int p1), .val (.int p2), .val (.int p3), .val (.int p4), .val (.ref b1), .val (.ref d), .val (.int (1 : Int32)), .val (.int (1 : Int32)), .val (.int (1 : Int32)), .val (.int (1 : Int32)), .val (.int (1 : Int32)), .val (.int (3 : Int32)), .val (.int (Int32.ofNat mm)), .val (.int (Int32.ofNat kk)), .val (.int (2 : Int32)), .val (.int (0 : Int32)), .unset, .unset] [])) tg
      refine XS.iconst X8.here hx rfl (hb hby at_152) ?_
      show Steps p.tables e below (T8.setTop (mkF m 153 #[.val (.int p1), .val (.int p2), .val (.int p3), .val (.int p4), .val (.ref b1), .val (.ref d), .val (.int (1 : Int32)), .val (.int (1 : Int32)), .val (.int (1 : Int32)), .val (.int (1 : Int32)), .val (.int (1 : Int32)), .val (.int (3 : Int32)), .val (.int (Int32.ofNat mm)), .val (.int (Int32.ofNat kk)), .val (.int (2 : Int32)), .val (.int (0 : Int32)), .unset, .unset] [(.int (1 : Int32))])) tg
      refine XS.iload X8.here hx rfl (hb hby at_153) rfl ?_
      exact kt
    by_cases hc155 : (1 : Int32) < (Int32.ofNat kk)
    · skip
      refine own_seg (T' := T8) (g' := (mkF m 158 #[.val (.int p1), .val (.int p2), .val (.int p3), .val (.int p4), .val (.ref b1), .val (.ref d), .val (.int (1 : Int32)), .val (.int (1 : Int32)), .val (.int (1 : Int32)), .val (.int (1 : Int32)), .val (.int (1 : Int32)), .val (.int (3 : Int32)), .val (.int (Int32.ofNat mm)), .val (.int (Int32.ofNat kk)), .val (.int (2 : Int32)), .val (.int (0 : Int32)), .unset, .unset] [])) (fun tg kt => XS.icmpNo X8.here hx rfl (hb hby at_155) rfl (tlt hc155).2.1 kt) ?_
      refine own_seg (T' := T8) (g' := (mkF m 172 #[.val (.int p1), .val (.int p2), .val (.int p3), .val (.int p4), .val (.ref b1), .val (.ref d), .val (.int (1 : Int32)), .val (.int (1 : Int32)), .val (.int (1 : Int32)), .val (.int (1 : Int32)), .val (.int (1 : Int32)), .val (.int (3 : Int32)), .val (.int (Int32.ofNat mm)), .val (.int (Int32.ofNat kk)), .val (.int (2 : Int32)), .val (.int (0 : Int32)), .val (.int (1 : Int32)), .unset] [(.int (1 : Int32))])) (fun tg kt => ?_) ?_
      · show Steps p.tables e below (T8.setTop (mkF m 158 #[.val (.int p1), .val (.int p2), .val (.int p3), .val (.int p4), .val (.ref b1), .val (.ref d), .val (.int (1 : Int32)), .val (.int (1 : Int32)), .val (.int (1 : Int32)), .val (.int (1 : Int32)), .val (.int (1 : Int32)), .val (.int (3 : Int32)), .val (.int (Int32.ofNat mm)), .val (.int (Int32.ofNat kk)), .val (.int (2 : Int32)), .val (.int (0 : Int32)), .unset, .unset] [])) tg
        refine XS.iconst X8.here hx rfl (hb hby at_158) ?_
        show Steps p.tables e below (T8.setTop (mkF m 159 #[.val (.int p1), .val (.int p2), .val (.int p3), .val (.int p4), .val (.ref b1), .val (.ref d), .val (.int (1 : Int32)), .val (.int (1 : Int32)), .val (.int (1 : Int32)), .val (.int (1 : Int32)), .val (.int (1 : Int32)), .val (.int (3 : Int32)), .val (.int (Int32.ofNat mm)), .val (.int (Int32.ofNat kk)), .val (.int (2 : Int32)), .val (.int (0 : Int32)), .unset, .unset] [(.int (1 : Int32))])) tg
        refine XS.goto X8.here hx rfl (pc0 := 159) (pc' := 168) rfl (hb hby at_159) (by decide) (by decide) ?_
        show Steps p.tables e below (T8.setTop (mkF m 168 #[.val (.int p1), .val (.int p2), .val (.int p3), .val (.int p4), .val (.ref b1), .val (.ref d), .val (.int (1 : Int32)), .val (.int (1 : Int32)), .val (.int (1 : Int32)), .val (.int (1 : Int32)), .val (.int (1 : Int32)), .val (.int (3 : Int32)), .val (.int (Int32.ofNat mm)), .val (.int (Int32.ofNat kk)), .val (.int (2 : Int32)), .val (.int (0 : Int32)), .unset, .unset] [(.int (1 : Int32))])) tg
        refine XS.istore X8.here hx rfl (hb hby at_168) rfl (l' := #[.val (.int p1), .val (.int p2), .val (.int p3), .val (.int p4), .val (.ref b1), .val (.ref d), .val (.int (1 : Int32)), .val (.int (1 : Int32)), .val (.int (1 : Int32)), .val (.int (1 : Int32)), .val (.int (1 : Int32)), .val (.int (3 : Int32)), .val (.int (Int32.ofNat mm)), .val (.int (Int32.ofNat kk)), .val (.int (2 : Int32)), .val (.int (0 : Int32)), .val (.int (1 : Int32)), .unset]) rfl ?_
        show Steps p.tables e below (T8.setTop (mkF m 170 #[.val (.int p1), .val (.int p2), .val (.int p3), .val (.int p4), .val (.ref b1), .val (.ref d), .val (.int (1 : Int32)), .val (.int (1 : Int32)), .val (.int (1 : Int32)), .val (.int (1 : Int32)), .val (.int (1 : Int32)), .val (.int (3 : Int32)), .val (.int (Int32.ofNat mm)), .val (.int (Int32.ofNat kk)), .val (.int (2 : Int32)), .val (.int (0 : Int32)), .val (.int (1 : Int32)), .unset] [])) tg
        refine XS.iload X8.here hx rfl (hb hby at_170) rfl ?_
        exact kt
      have hc172 : ¬ ((1 : Int32) = (0 : Int32)) := by decide
      refine own_seg (T' := T8) (g' := (mkF m 175 #[.val (.int p1), .val (.int p2), .val (.int p3), .val (.int p4), .val (.ref b1), .val (.ref d), .val (.int (1 : Int32)), .val (.int (1 : Int32)), .val (.int (1 : Int32)), .val (.int (1 : Int32)), .val (.int (1 : Int32)), .val (.int (3 : Int32)), .val (.int (Int32.ofNat mm)), .val (.int (Int32.ofNat kk)), .val (.int (2 : Int32)), .val (.int (0 : Int32)), .val (.int (1 : Int32)), .unset] [])) (fun tg kt => XS.ifNo X8.here hx rfl (hb hby at_172) rfl ((if0 _ _).trans (feq hc172).1) kt) ?_
      refine own_seg (T' := T8) (g' := (mkF m 179 #[.val (.int p1), .val (.int p2), .val (.int p3), .val (.int p4), .val (.ref b1), .val (.ref d), .val (.int (1 : Int32)), .val (.int (1 : Int32)), .val (.int (1 : Int32)), .val (.int (1 : Int32)), .val (.int (1 : Int32)), .val (.int (3 : Int32)), .val (.int (Int32.ofNat mm)), .val (.int (Int32.ofNat kk)), .val (.int (2 : Int32)), .val (.int (0 : Int32)), .val (.int (1 : Int32)), .unset] [(.int (Int32.ofNat kk)), (.int (2 : Int32))])) (fun tg kt => ?_) ?_
      · show Steps p.tables e below (T8.setTop (mkF m 175 #[.val (.int p1), .val (.int p2), .val (.int p3), .val (.int p4), .val (.ref b1), .val (.ref d), .val (.int (1 : Int32)), .val (.int (1 : Int32)), .val (.int (1 : Int32)), .val (.int (1 : Int32)), .val (.int (1 : Int32)), .val (.int (3 : Int32)), .val (.int (Int32.ofNat mm)), .val (.int (Int32.ofNat kk)), .val (.int (2 : Int32)), .val (.int (0 : Int32)), .val (.int (1 : Int32)), .unset] [])) tg
        refine XS.iload X8.here hx rfl (hb hby at_175) rfl ?_
        show Steps p.tables e below (T8.setTop (mkF m 177 #[.val (.int p1), .val (.int p2), .val (.int p3), .val (.int p4), .val (.ref b1), .val (.ref d), .val (.int (1 : Int32)), .val (.int (1 : Int32)), .val (.int (1 : Int32)), .val (.int (1 : Int32)), .val (.int (1 : Int32)), .val (.int (3 : Int32)), .val (.int (Int32.ofNat mm)), .val (.int (Int32.ofNat kk)), .val (.int (2 : Int32)), .val (.int (0 : Int32)), .val (.int (1 : Int32)), .unset] [(.int (2 : Int32))])) tg
        refine XS.iload X8.here hx rfl (hb hby at_177) rfl ?_
        exact kt
      by_cases hc179 : (2 : Int32) < (Int32.ofNat kk)
      · skip
        refine own_seg (T' := T8) (g' := (mkF m 182 #[.val (.int p1), .val (.int p2), .val (.int p3), .val (.int p4), .val (.ref b1), .val (.ref d), .val (.int (1 : Int32)), .val (.int (1 : Int32)), .val (.int (1 : Int32)), .val (.int (1 : Int32)), .val (.int (1 : Int32)), .val (.int (3 : Int32)), .val (.int (Int32.ofNat mm)), .val (.int (Int32.ofNat kk)), .val (.int (2 : Int32)), .val (.int (0 : Int32)), .val (.int (1 : Int32)), .unset] [])) (fun tg kt => XS.icmpNo X8.here hx rfl (hb hby at_179) rfl (tlt hc179).2.1 kt) ?_
        refine own_seg (T' := T8) (g' := (mkF m 205 #[.val (.int p1), .val (.int p2), .val (.int p3), .val (.int p4), .val (.ref b1), .val (.ref d), .val (.int (1 : Int32)), .val (.int (1 : Int32)), .val (.int (1 : Int32)), .val (.int (1 : Int32)), .val (.int (1 : Int32)), .val (.int (3 : Int32)), .val (.int (Int32.ofNat mm)), .val (.int (Int32.ofNat kk)), .val (.int (2 : Int32)), .val (.int (0 : Int32)), .val (.int (1 : Int32)), .val (.int (2 : Int32))] [])) (fun tg kt => ?_) ?_
        · show Steps p.tables e below (T8.setTop (mkF m 182 #[.val (.int p1), .val (.int p2), .val (.int p3), .val (.int p4), .val (.ref b1), .val (.ref d), .val (.int (1 : Int32)), .val (.int (1 : Int32)), .val (.int (1 : Int32)), .val (.int (1 : Int32)), .val (.int (1 : Int32)), .val (.int (3 : Int32)), .val (.int (Int32.ofNat mm)), .val (.int (Int32.ofNat kk)), .val (.int (2 : Int32)), .val (.int (0 : Int32)), .val (.int (1 : Int32)), .unset] [])) tg
          refine XS.iload X8.here hx rfl (hb hby at_182) rfl ?_
          show Steps p.tables e below (T8.setTop (mkF m 184 #[.val (.int p1), .val (.int p2), .val (.int p3), .val (.int p4), .val (.ref b1), .val (.ref d), .val (.int (1 : Int32)), .val (.int (1 : Int32)), .val (.int (1 : Int32)), .val (.int (1 : Int32)), .val (.int (1 : Int32)), .val (.int (3 : Int32)), .val (.int (Int32.ofNat mm)), .val (.int (Int32.ofNat kk)), .val (.int (2 : Int32)), .val (.int (0 : Int32)), .val (.int (1 : Int32)), .unset] [(.int (2 : Int32))])) tg
          refine XS.goto X8.here hx rfl (pc0 := 184) (pc' := 203) rfl (hb hby at_184) (by decide) (by decide) ?_
          show Steps p.tables e below (T8.setTop (mkF m 203 #[.val (.int p1), .val (.int p2), .val (.int p3), .val (.int p4), .val (.ref b1), .val (.ref d), .val (.int (1 : Int32)), .val (.int (1 : Int32)), .val (.int (1 : Int32)), .val (.int (1 : Int32)), .val (.int (1 : Int32)), .val (.int (3 : Int32)), .val (.int (Int32.ofNat mm)), .val (.int (Int32.ofNat kk)), .val (.int (2 : Int32)), .val (.int (0 : Int32)), .val (.int (1 : Int32)), .unset] [(.int (2 : Int32))])) tg
          refine XS.istore X8.here hx rfl (hb hby at_203) rfl (l' := #[.val (.int p1), .val (.int p2), .val (.int p3), .val (.int p4), .val (.ref b1), .val (.ref d), .val (.int (1 : Int32)), .val (.int (1 : Int32)), .val (.int (1 : Int32)), .val (.int (1 : Int32)), .val (.int (1 : Int32)), .val (.int (3 : Int32)), .val (.int (Int32.ofNat mm)), .val (.int (Int32.ofNat kk)), .val (.int (2 : Int32)), .val (.int (0 : Int32)), .val (.int (1 : Int32)), .val (.int (2 : Int32))]) rfl ?_
          exact kt
        have kk3 : kk ≤ 3 := hTk.1
        exact sg205 hw p1 p2 p3 p4 b1 t1 t2 t3 d kk uk _ (1 : Int32) (1 : Int32) (1 : Int32) (1 : Int32) (3 : Int32) (Int32.ofNat mm) (2 : Int32) (0 : Int32) (1 : Int32) (2 : Int32) K X8 e8 N8 Z7 P_a P_1 P_2 P_3 hTk rfl rfl (own_idx_hit hTk (i := 0) ((own_ltl (e := 0) (by omega) (by omega)).mp hc137) rfl) (own_idx_hit hTk (i := 1) ((own_ltl (e := 1) (by omega) (by omega)).mp hc155) rfl) (own_idx_hit hTk (i := 2) ((own_ltl (e := 2) (by omega) (by omega)).mp hc179) rfl)
      · skip
        refine own_seg (T' := T8) (g' := (mkF m 187 #[.val (.int p1), .val (.int p2), .val (.int p3), .val (.int p4), .val (.ref b1), .val (.ref d), .val (.int (1 : Int32)), .val (.int (1 : Int32)), .val (.int (1 : Int32)), .val (.int (1 : Int32)), .val (.int (1 : Int32)), .val (.int (3 : Int32)), .val (.int (Int32.ofNat mm)), .val (.int (Int32.ofNat kk)), .val (.int (2 : Int32)), .val (.int (0 : Int32)), .val (.int (1 : Int32)), .unset] [])) (fun tg kt => XS.icmpYes X8.here hx rfl (pc0 := 179) (pc' := 187) rfl (hb hby at_179) rfl (flt hc179).2.1 (by decide) (by decide) kt) ?_
        refine own_seg (T' := T8) (g' := (mkF m 205 #[.val (.int p1), .val (.int p2), .val (.int p3), .val (.int p4), .val (.ref b1), .val (.ref d), .val (.int (1 : Int32)), .val (.int (1 : Int32)), .val (.int (1 : Int32)), .val (.int (1 : Int32)), .val (.int (1 : Int32)), .val (.int (3 : Int32)), .val (.int (Int32.ofNat mm)), .val (.int (Int32.ofNat kk)), .val (.int (2 : Int32)), .val (.int (0 : Int32)), .val (.int (1 : Int32)), .val (.int (-1 : Int32))] [])) (fun tg kt => ?_) ?_
        · show Steps p.tables e below (T8.setTop (mkF m 187 #[.val (.int p1), .val (.int p2), .val (.int p3), .val (.int p4), .val (.ref b1), .val (.ref d), .val (.int (1 : Int32)), .val (.int (1 : Int32)), .val (.int (1 : Int32)), .val (.int (1 : Int32)), .val (.int (1 : Int32)), .val (.int (3 : Int32)), .val (.int (Int32.ofNat mm)), .val (.int (Int32.ofNat kk)), .val (.int (2 : Int32)), .val (.int (0 : Int32)), .val (.int (1 : Int32)), .unset] [])) tg
          refine XS.iconst X8.here hx rfl (hb hby at_187) ?_
          show Steps p.tables e below (T8.setTop (mkF m 188 #[.val (.int p1), .val (.int p2), .val (.int p3), .val (.int p4), .val (.ref b1), .val (.ref d), .val (.int (1 : Int32)), .val (.int (1 : Int32)), .val (.int (1 : Int32)), .val (.int (1 : Int32)), .val (.int (1 : Int32)), .val (.int (3 : Int32)), .val (.int (Int32.ofNat mm)), .val (.int (Int32.ofNat kk)), .val (.int (2 : Int32)), .val (.int (0 : Int32)), .val (.int (1 : Int32)), .unset] [(.int (-1 : Int32))])) tg
          refine XS.goto X8.here hx rfl (pc0 := 188) (pc' := 203) rfl (hb hby at_188) (by decide) (by decide) ?_
          show Steps p.tables e below (T8.setTop (mkF m 203 #[.val (.int p1), .val (.int p2), .val (.int p3), .val (.int p4), .val (.ref b1), .val (.ref d), .val (.int (1 : Int32)), .val (.int (1 : Int32)), .val (.int (1 : Int32)), .val (.int (1 : Int32)), .val (.int (1 : Int32)), .val (.int (3 : Int32)), .val (.int (Int32.ofNat mm)), .val (.int (Int32.ofNat kk)), .val (.int (2 : Int32)), .val (.int (0 : Int32)), .val (.int (1 : Int32)), .unset] [(.int (-1 : Int32))])) tg
          refine XS.istore X8.here hx rfl (hb hby at_203) rfl (l' := #[.val (.int p1), .val (.int p2), .val (.int p3), .val (.int p4), .val (.ref b1), .val (.ref d), .val (.int (1 : Int32)), .val (.int (1 : Int32)), .val (.int (1 : Int32)), .val (.int (1 : Int32)), .val (.int (1 : Int32)), .val (.int (3 : Int32)), .val (.int (Int32.ofNat mm)), .val (.int (Int32.ofNat kk)), .val (.int (2 : Int32)), .val (.int (0 : Int32)), .val (.int (1 : Int32)), .val (.int (-1 : Int32))]) rfl ?_
          exact kt
        have kk3 : kk ≤ 3 := hTk.1
        exact sg205 hw p1 p2 p3 p4 b1 t1 t2 t3 d kk uk _ (1 : Int32) (1 : Int32) (1 : Int32) (1 : Int32) (3 : Int32) (Int32.ofNat mm) (2 : Int32) (0 : Int32) (1 : Int32) (-1 : Int32) K X8 e8 N8 Z7 P_a P_1 P_2 P_3 hTk rfl rfl (own_idx_hit hTk (i := 0) ((own_ltl (e := 0) (by omega) (by omega)).mp hc137) rfl) (own_idx_hit hTk (i := 1) ((own_ltl (e := 1) (by omega) (by omega)).mp hc155) rfl) (own_idx_miss (fun i hi e => by have z : ¬ 2 < kk := fun z => hc179 ((own_ltl (e := 2) (by omega) (by omega)).mpr z); rcases (by omega : i = 0 ∨ i = 1) with rfl | rfl <;> first | omega | exact hba e.symm | exact hca e.symm | exact hcb e.symm))
    · skip
      refine own_seg (T' := T8) (g' := (mkF m 162 #[.val (.int p1), .val (.int p2), .val (.int p3), .val (.int p4), .val (.ref b1), .val (.ref d), .val (.int (1 : Int32)), .val (.int (1 : Int32)), .val (.int (1 : Int32)), .val (.int (1 : Int32)), .val (.int (1 : Int32)), .val (.int (3 : Int32)), .val (.int (Int32.ofNat mm)), .val (.int (Int32.ofNat kk)), .val (.int (2 : Int32)), .val (.int (0 : Int32)), .unset, .unset] [])) (fun tg kt => XS.icmpYes X8.here hx rfl (pc0 := 155) (pc' := 162) rfl (hb hby at_155) rfl (flt hc155).2.1 (by decide) (by decide) kt) ?_
      refine own_seg (T' := T8) (g' := (mkF m 172 #[.val (.int p1), .val (.int p2), .val (.int p3), .val (.int p4), .val (.ref b1), .val (.ref d), .val (.int (1 : Int32)), .val (.int (1 : Int32)), .val (.int (1 : Int32)), .val (.int (1 : Int32)), .val (.int (1 : Int32)), .val (.int (3 : Int32)), .val (.int (Int32.ofNat mm)), .val (.int (Int32.ofNat kk)), .val (.int (2 : Int32)), .val (.int (0 : Int32)), .val (.int (-1 : Int32)), .unset] [(.int (1 : Int32))])) (fun tg kt => ?_) ?_
      · show Steps p.tables e below (T8.setTop (mkF m 162 #[.val (.int p1), .val (.int p2), .val (.int p3), .val (.int p4), .val (.ref b1), .val (.ref d), .val (.int (1 : Int32)), .val (.int (1 : Int32)), .val (.int (1 : Int32)), .val (.int (1 : Int32)), .val (.int (1 : Int32)), .val (.int (3 : Int32)), .val (.int (Int32.ofNat mm)), .val (.int (Int32.ofNat kk)), .val (.int (2 : Int32)), .val (.int (0 : Int32)), .unset, .unset] [])) tg
        refine XS.iconst X8.here hx rfl (hb hby at_162) ?_
        show Steps p.tables e below (T8.setTop (mkF m 163 #[.val (.int p1), .val (.int p2), .val (.int p3), .val (.int p4), .val (.ref b1), .val (.ref d), .val (.int (1 : Int32)), .val (.int (1 : Int32)), .val (.int (1 : Int32)), .val (.int (1 : Int32)), .val (.int (1 : Int32)), .val (.int (3 : Int32)), .val (.int (Int32.ofNat mm)), .val (.int (Int32.ofNat kk)), .val (.int (2 : Int32)), .val (.int (0 : Int32)), .unset, .unset] [(.int (-1 : Int32))])) tg
        refine XS.goto X8.here hx rfl (pc0 := 163) (pc' := 168) rfl (hb hby at_163) (by decide) (by decide) ?_
        show Steps p.tables e below (T8.setTop (mkF m 168 #[.val (.int p1), .val (.int p2), .val (.int p3), .val (.int p4), .val (.ref b1), .val (.ref d), .val (.int (1 : Int32)), .val (.int (1 : Int32)), .val (.int (1 : Int32)), .val (.int (1 : Int32)), .val (.int (1 : Int32)), .val (.int (3 : Int32)), .val (.int (Int32.ofNat mm)), .val (.int (Int32.ofNat kk)), .val (.int (2 : Int32)), .val (.int (0 : Int32)), .unset, .unset] [(.int (-1 : Int32))])) tg
        refine XS.istore X8.here hx rfl (hb hby at_168) rfl (l' := #[.val (.int p1), .val (.int p2), .val (.int p3), .val (.int p4), .val (.ref b1), .val (.ref d), .val (.int (1 : Int32)), .val (.int (1 : Int32)), .val (.int (1 : Int32)), .val (.int (1 : Int32)), .val (.int (1 : Int32)), .val (.int (3 : Int32)), .val (.int (Int32.ofNat mm)), .val (.int (Int32.ofNat kk)), .val (.int (2 : Int32)), .val (.int (0 : Int32)), .val (.int (-1 : Int32)), .unset]) rfl ?_
        show Steps p.tables e below (T8.setTop (mkF m 170 #[.val (.int p1), .val (.int p2), .val (.int p3), .val (.int p4), .val (.ref b1), .val (.ref d), .val (.int (1 : Int32)), .val (.int (1 : Int32)), .val (.int (1 : Int32)), .val (.int (1 : Int32)), .val (.int (1 : Int32)), .val (.int (3 : Int32)), .val (.int (Int32.ofNat mm)), .val (.int (Int32.ofNat kk)), .val (.int (2 : Int32)), .val (.int (0 : Int32)), .val (.int (-1 : Int32)), .unset] [])) tg
        refine XS.iload X8.here hx rfl (hb hby at_170) rfl ?_
        exact kt
      have hc172 : ¬ ((1 : Int32) = (0 : Int32)) := by decide
      refine own_seg (T' := T8) (g' := (mkF m 175 #[.val (.int p1), .val (.int p2), .val (.int p3), .val (.int p4), .val (.ref b1), .val (.ref d), .val (.int (1 : Int32)), .val (.int (1 : Int32)), .val (.int (1 : Int32)), .val (.int (1 : Int32)), .val (.int (1 : Int32)), .val (.int (3 : Int32)), .val (.int (Int32.ofNat mm)), .val (.int (Int32.ofNat kk)), .val (.int (2 : Int32)), .val (.int (0 : Int32)), .val (.int (-1 : Int32)), .unset] [])) (fun tg kt => XS.ifNo X8.here hx rfl (hb hby at_172) rfl ((if0 _ _).trans (feq hc172).1) kt) ?_
      refine own_seg (T' := T8) (g' := (mkF m 179 #[.val (.int p1), .val (.int p2), .val (.int p3), .val (.int p4), .val (.ref b1), .val (.ref d), .val (.int (1 : Int32)), .val (.int (1 : Int32)), .val (.int (1 : Int32)), .val (.int (1 : Int32)), .val (.int (1 : Int32)), .val (.int (3 : Int32)), .val (.int (Int32.ofNat mm)), .val (.int (Int32.ofNat kk)), .val (.int (2 : Int32)), .val (.int (0 : Int32)), .val (.int (-1 : Int32)), .unset] [(.int (Int32.ofNat kk)), (.int (2 : Int32))])) (fun tg kt => ?_) ?_
      · show Steps p.tables e below (T8.setTop (mkF m 175 #[.val (.int p1), .val (.int p2), .val (.int p3), .val (.int p4), .val (.ref b1), .val (.ref d), .val (.int (1 : Int32)), .val (.int (1 : Int32)), .val (.int (1 : Int32)), .val (.int (1 : Int32)), .val (.int (1 : Int32)), .val (.int (3 : Int32)), .val (.int (Int32.ofNat mm)), .val (.int (Int32.ofNat kk)), .val (.int (2 : Int32)), .val (.int (0 : Int32)), .val (.int (-1 : Int32)), .unset] [])) tg
        refine XS.iload X8.here hx rfl (hb hby at_175) rfl ?_
        show Steps p.tables e below (T8.setTop (mkF m 177 #[.val (.int p1), .val (.int p2), .val (.int p3), .val (.int p4), .val (.ref b1), .val (.ref d), .val (.int (1 : Int32)), .val (.int (1 : Int32)), .val (.int (1 : Int32)), .val (.int (1 : Int32)), .val (.int (1 : Int32)), .val (.int (3 : Int32)), .val (.int (Int32.ofNat mm)), .val (.int (Int32.ofNat kk)), .val (.int (2 : Int32)), .val (.int (0 : Int32)), .val (.int (-1 : Int32)), .unset] [(.int (2 : Int32))])) tg
        refine XS.iload X8.here hx rfl (hb hby at_177) rfl ?_
        exact kt
      by_cases hc179 : (2 : Int32) < (Int32.ofNat kk)
      · skip
        refine own_seg (T' := T8) (g' := (mkF m 182 #[.val (.int p1), .val (.int p2), .val (.int p3), .val (.int p4), .val (.ref b1), .val (.ref d), .val (.int (1 : Int32)), .val (.int (1 : Int32)), .val (.int (1 : Int32)), .val (.int (1 : Int32)), .val (.int (1 : Int32)), .val (.int (3 : Int32)), .val (.int (Int32.ofNat mm)), .val (.int (Int32.ofNat kk)), .val (.int (2 : Int32)), .val (.int (0 : Int32)), .val (.int (-1 : Int32)), .unset] [])) (fun tg kt => XS.icmpNo X8.here hx rfl (hb hby at_179) rfl (tlt hc179).2.1 kt) ?_
        refine own_seg (T' := T8) (g' := (mkF m 205 #[.val (.int p1), .val (.int p2), .val (.int p3), .val (.int p4), .val (.ref b1), .val (.ref d), .val (.int (1 : Int32)), .val (.int (1 : Int32)), .val (.int (1 : Int32)), .val (.int (1 : Int32)), .val (.int (1 : Int32)), .val (.int (3 : Int32)), .val (.int (Int32.ofNat mm)), .val (.int (Int32.ofNat kk)), .val (.int (2 : Int32)), .val (.int (0 : Int32)), .val (.int (-1 : Int32)), .val (.int (2 : Int32))] [])) (fun tg kt => ?_) ?_
        · show Steps p.tables e below (T8.setTop (mkF m 182 #[.val (.int p1), .val (.int p2), .val (.int p3), .val (.int p4), .val (.ref b1), .val (.ref d), .val (.int (1 : Int32)), .val (.int (1 : Int32)), .val (.int (1 : Int32)), .val (.int (1 : Int32)), .val (.int (1 : Int32)), .val (.int (3 : Int32)), .val (.int (Int32.ofNat mm)), .val (.int (Int32.ofNat kk)), .val (.int (2 : Int32)), .val (.int (0 : Int32)), .val (.int (-1 : Int32)), .unset] [])) tg
          refine XS.iload X8.here hx rfl (hb hby at_182) rfl ?_
          show Steps p.tables e below (T8.setTop (mkF m 184 #[.val (.int p1), .val (.int p2), .val (.int p3), .val (.int p4), .val (.ref b1), .val (.ref d), .val (.int (1 : Int32)), .val (.int (1 : Int32)), .val (.int (1 : Int32)), .val (.int (1 : Int32)), .val (.int (1 : Int32)), .val (.int (3 : Int32)), .val (.int (Int32.ofNat mm)), .val (.int (Int32.ofNat kk)), .val (.int (2 : Int32)), .val (.int (0 : Int32)), .val (.int (-1 : Int32)), .unset] [(.int (2 : Int32))])) tg
          refine XS.goto X8.here hx rfl (pc0 := 184) (pc' := 203) rfl (hb hby at_184) (by decide) (by decide) ?_
          show Steps p.tables e below (T8.setTop (mkF m 203 #[.val (.int p1), .val (.int p2), .val (.int p3), .val (.int p4), .val (.ref b1), .val (.ref d), .val (.int (1 : Int32)), .val (.int (1 : Int32)), .val (.int (1 : Int32)), .val (.int (1 : Int32)), .val (.int (1 : Int32)), .val (.int (3 : Int32)), .val (.int (Int32.ofNat mm)), .val (.int (Int32.ofNat kk)), .val (.int (2 : Int32)), .val (.int (0 : Int32)), .val (.int (-1 : Int32)), .unset] [(.int (2 : Int32))])) tg
          refine XS.istore X8.here hx rfl (hb hby at_203) rfl (l' := #[.val (.int p1), .val (.int p2), .val (.int p3), .val (.int p4), .val (.ref b1), .val (.ref d), .val (.int (1 : Int32)), .val (.int (1 : Int32)), .val (.int (1 : Int32)), .val (.int (1 : Int32)), .val (.int (1 : Int32)), .val (.int (3 : Int32)), .val (.int (Int32.ofNat mm)), .val (.int (Int32.ofNat kk)), .val (.int (2 : Int32)), .val (.int (0 : Int32)), .val (.int (-1 : Int32)), .val (.int (2 : Int32))]) rfl ?_
          exact kt
        have kk3 : kk ≤ 3 := hTk.1
        exact sg205 hw p1 p2 p3 p4 b1 t1 t2 t3 d kk uk _ (1 : Int32) (1 : Int32) (1 : Int32) (1 : Int32) (3 : Int32) (Int32.ofNat mm) (2 : Int32) (0 : Int32) (-1 : Int32) (2 : Int32) K X8 e8 N8 Z7 P_a P_1 P_2 P_3 hTk rfl rfl (own_idx_hit hTk (i := 0) ((own_ltl (e := 0) (by omega) (by omega)).mp hc137) rfl) (own_idx_miss (fun i hi e => by have z : ¬ 1 < kk := fun z => hc155 ((own_ltl (e := 1) (by omega) (by omega)).mpr z); rcases (by omega : i = 0 ∨ i = 1) with rfl | rfl <;> first | omega | exact hba e.symm | exact hca e.symm | exact hcb e.symm)) (own_idx_hit hTk (i := 2) ((own_ltl (e := 2) (by omega) (by omega)).mp hc179) rfl)
      · skip
        refine own_seg (T' := T8) (g' := (mkF m 187 #[.val (.int p1), .val (.int p2), .val (.int p3), .val (.int p4), .val (.ref b1), .val (.ref d), .val (.int (1 : Int32)), .val (.int (1 : Int32)), .val (.int (1 : Int32)), .val (.int (1 : Int32)), .val (.int (1 : Int32)), .val (.int (3 : Int32)), .val (.int (Int32.ofNat mm)), .val (.int (Int32.ofNat kk)), .val (.int (2 : Int32)), .val (.int (0 : Int32)), .val (.int (-1 : Int32)), .unset] [])) (fun tg kt => XS.icmpYes X8.here hx rfl (pc0 := 179) (pc' := 187) rfl (hb hby at_179) rfl (flt hc179).2.1 (by decide) (by decide) kt) ?_
        refine own_seg (T' := T8) (g' := (mkF m 205 #[.val (.int p1), .val (.int p2), .val (.int p3), .val (.int p4), .val (.ref b1), .val (.ref d), .val (.int (1 : Int32)), .val (.int (1 : Int32)), .val (.int (1 : Int32)), .val (.int (1 : Int32)), .val (.int (1 : Int32)), .val (.int (3 : Int32)), .val (.int (Int32.ofNat mm)), .val (.int (Int32.ofNat kk)), .val (.int (2 : Int32)), .val (.int (0 : Int32)), .val (.int (-1 : Int32)), .val (.int (-1 : Int32))] [])) (fun tg kt => ?_) ?_
        · show Steps p.tables e below (T8.setTop (mkF m 187 #[.val (.int p1), .val (.int p2), .val (.int p3), .val (.int p4), .val (.ref b1), .val (.ref d), .val (.int (1 : Int32)), .val (.int (1 : Int32)), .val (.int (1 : Int32)), .val (.int (1 : Int32)), .val (.int (1 : Int32)), .val (.int (3 : Int32)), .val (.int (Int32.ofNat mm)), .val (.int (Int32.ofNat kk)), .val (.int (2 : Int32)), .val (.int (0 : Int32)), .val (.int (-1 : Int32)), .unset] [])) tg
          refine XS.iconst X8.here hx rfl (hb hby at_187) ?_
          show Steps p.tables e below (T8.setTop (mkF m 188 #[.val (.int p1), .val (.int p2), .val (.int p3), .val (.int p4), .val (.ref b1), .val (.ref d), .val (.int (1 : Int32)), .val (.int (1 : Int32)), .val (.int (1 : Int32)), .val (.int (1 : Int32)), .val (.int (1 : Int32)), .val (.int (3 : Int32)), .val (.int (Int32.ofNat mm)), .val (.int (Int32.ofNat kk)), .val (.int (2 : Int32)), .val (.int (0 : Int32)), .val (.int (-1 : Int32)), .unset] [(.int (-1 : Int32))])) tg
          refine XS.goto X8.here hx rfl (pc0 := 188) (pc' := 203) rfl (hb hby at_188) (by decide) (by decide) ?_
          show Steps p.tables e below (T8.setTop (mkF m 203 #[.val (.int p1), .val (.int p2), .val (.int p3), .val (.int p4), .val (.ref b1), .val (.ref d), .val (.int (1 : Int32)), .val (.int (1 : Int32)), .val (.int (1 : Int32)), .val (.int (1 : Int32)), .val (.int (1 : Int32)), .val (.int (3 : Int32)), .val (.int (Int32.ofNat mm)), .val (.int (Int32.ofNat kk)), .val (.int (2 : Int32)), .val (.int (0 : Int32)), .val (.int (-1 : Int32)), .unset] [(.int (-1 : Int32))])) tg
          refine XS.istore X8.here hx rfl (hb hby at_203) rfl (l' := #[.val (.int p1), .val (.int p2), .val (.int p3), .val (.int p4), .val (.ref b1), .val (.ref d), .val (.int (1 : Int32)), .val (.int (1 : Int32)), .val (.int (1 : Int32)), .val (.int (1 : Int32)), .val (.int (1 : Int32)), .val (.int (3 : Int32)), .val (.int (Int32.ofNat mm)), .val (.int (Int32.ofNat kk)), .val (.int (2 : Int32)), .val (.int (0 : Int32)), .val (.int (-1 : Int32)), .val (.int (-1 : Int32))]) rfl ?_
          exact kt
        have kk3 : kk ≤ 3 := hTk.1
        exact sg205 hw p1 p2 p3 p4 b1 t1 t2 t3 d kk uk _ (1 : Int32) (1 : Int32) (1 : Int32) (1 : Int32) (3 : Int32) (Int32.ofNat mm) (2 : Int32) (0 : Int32) (-1 : Int32) (-1 : Int32) K X8 e8 N8 Z7 P_a P_1 P_2 P_3 hTk rfl rfl (own_idx_hit hTk (i := 0) ((own_ltl (e := 0) (by omega) (by omega)).mp hc137) rfl) (own_idx_miss (fun i hi e => by have z : ¬ 1 < kk := fun z => hc155 ((own_ltl (e := 1) (by omega) (by omega)).mpr z); rcases (by omega : i = 0 ∨ i = 1) with rfl | rfl <;> first | omega | exact hba e.symm | exact hca e.symm | exact hcb e.symm)) (own_idx_miss (fun i hi e => by have z : ¬ 2 < kk := fun z => hc179 ((own_ltl (e := 2) (by omega) (by omega)).mpr z); rcases (by omega : i = 0 ∨ i = 1) with rfl | rfl <;> first | omega | exact hba e.symm | exact hca e.symm | exact hcb e.symm))
  · skip
    refine own_seg (T' := T8) (g' := (mkF m 144 #[.val (.int p1), .val (.int p2), .val (.int p3), .val (.int p4), .val (.ref b1), .val (.ref d), .val (.int (1 : Int32)), .val (.int (1 : Int32)), .val (.int (1 : Int32)), .val (.int (1 : Int32)), .val (.int (1 : Int32)), .val (.int (3 : Int32)), .val (.int (Int32.ofNat mm)), .val (.int (Int32.ofNat kk)), .val (.int (2 : Int32)), .unset, .unset, .unset] [])) (fun tg kt => XS.icmpYes X8.here hx rfl (pc0 := 137) (pc' := 144) rfl (hb hby at_137) rfl (flt hc137).2.1 (by decide) (by decide) kt) ?_
    refine own_seg (T' := T8) (g' := (mkF m 149 #[.val (.int p1), .val (.int p2), .val (.int p3), .val (.int p4), .val (.ref b1), .val (.ref d), .val (.int (1 : Int32)), .val (.int (1 : Int32)), .val (.int (1 : Int32)), .val (.int (1 : Int32)), .val (.int (1 : Int32)), .val (.int (3 : Int32)), .val (.int (Int32.ofNat mm)), .val (.int (Int32.ofNat kk)), .val (.int (2 : Int32)), .val (.int (-1 : Int32)), .unset, .unset] [(.int (1 : Int32))])) (fun tg kt => ?_) ?_
    · show Steps p.tables e below (T8.setTop (mkF m 144 #[.val (.int p1), .val (.int p2), .val (.int p3), .val (.int p4), .val (.ref b1), .val (.ref d), .val (.int (1 : Int32)), .val (.int (1 : Int32)), .val (.int (1 : Int32)), .val (.int (1 : Int32)), .val (.int (1 : Int32)), .val (.int (3 : Int32)), .val (.int (Int32.ofNat mm)), .val (.int (Int32.ofNat kk)), .val (.int (2 : Int32)), .unset, .unset, .unset] [])) tg
      refine XS.iconst X8.here hx rfl (hb hby at_144) ?_
      show Steps p.tables e below (T8.setTop (mkF m 145 #[.val (.int p1), .val (.int p2), .val (.int p3), .val (.int p4), .val (.ref b1), .val (.ref d), .val (.int (1 : Int32)), .val (.int (1 : Int32)), .val (.int (1 : Int32)), .val (.int (1 : Int32)), .val (.int (1 : Int32)), .val (.int (3 : Int32)), .val (.int (Int32.ofNat mm)), .val (.int (Int32.ofNat kk)), .val (.int (2 : Int32)), .unset, .unset, .unset] [(.int (-1 : Int32))])) tg
      refine XS.istore X8.here hx rfl (hb hby at_145) rfl (l' := #[.val (.int p1), .val (.int p2), .val (.int p3), .val (.int p4), .val (.ref b1), .val (.ref d), .val (.int (1 : Int32)), .val (.int (1 : Int32)), .val (.int (1 : Int32)), .val (.int (1 : Int32)), .val (.int (1 : Int32)), .val (.int (3 : Int32)), .val (.int (Int32.ofNat mm)), .val (.int (Int32.ofNat kk)), .val (.int (2 : Int32)), .val (.int (-1 : Int32)), .unset, .unset]) rfl ?_
      show Steps p.tables e below (T8.setTop (mkF m 147 #[.val (.int p1), .val (.int p2), .val (.int p3), .val (.int p4), .val (.ref b1), .val (.ref d), .val (.int (1 : Int32)), .val (.int (1 : Int32)), .val (.int (1 : Int32)), .val (.int (1 : Int32)), .val (.int (1 : Int32)), .val (.int (3 : Int32)), .val (.int (Int32.ofNat mm)), .val (.int (Int32.ofNat kk)), .val (.int (2 : Int32)), .val (.int (-1 : Int32)), .unset, .unset] [])) tg
      refine XS.iload X8.here hx rfl (hb hby at_147) rfl ?_
      exact kt
    have hc149 : ¬ ((1 : Int32) = (0 : Int32)) := by decide
    refine own_seg (T' := T8) (g' := (mkF m 152 #[.val (.int p1), .val (.int p2), .val (.int p3), .val (.int p4), .val (.ref b1), .val (.ref d), .val (.int (1 : Int32)), .val (.int (1 : Int32)), .val (.int (1 : Int32)), .val (.int (1 : Int32)), .val (.int (1 : Int32)), .val (.int (3 : Int32)), .val (.int (Int32.ofNat mm)), .val (.int (Int32.ofNat kk)), .val (.int (2 : Int32)), .val (.int (-1 : Int32)), .unset, .unset] [])) (fun tg kt => XS.ifNo X8.here hx rfl (hb hby at_149) rfl ((if0 _ _).trans (feq hc149).1) kt) ?_
    refine own_seg (T' := T8) (g' := (mkF m 155 #[.val (.int p1), .val (.int p2), .val (.int p3), .val (.int p4), .val (.ref b1), .val (.ref d), .val (.int (1 : Int32)), .val (.int (1 : Int32)), .val (.int (1 : Int32)), .val (.int (1 : Int32)), .val (.int (1 : Int32)), .val (.int (3 : Int32)), .val (.int (Int32.ofNat mm)), .val (.int (Int32.ofNat kk)), .val (.int (2 : Int32)), .val (.int (-1 : Int32)), .unset, .unset] [(.int (Int32.ofNat kk)), (.int (1 : Int32))])) (fun tg kt => ?_) ?_
    · show Steps p.tables e below (T8.setTop (mkF m 152 #[.val (.int p1), .val (.int p2), .val (.int p3), .val (.int p4), .val (.ref b1), .val (.ref d), .val (.int (1 : Int32)), .val (.int (1 : Int32)), .val (.int (1 : Int32)), .val (.int (1 : Int32)), .val (.int (1 : Int32)), .val (.int (3 : Int32)), .val (.int (Int32.ofNat mm)), .val (.int (Int32.ofNat kk)), .val (.int (2 : Int32)), .val (.int (-1 : Int32)), .unset, .unset] [])) tg
      refine XS.iconst X8.here hx rfl (hb hby at_152) ?_
      show Steps p.tables e below (T8.setTop (mkF m 153 #[.val (.int p1), .val (.int p2), .val (.int p3), .val (.int p4), .val (.ref b1), .val (.ref d), .val (.int (1 : Int32)), .val (.int (1 : Int32)), .val (.int (1 : Int32)), .val (.int (1 : Int32)), .val (.int (1 : Int32)), .val (.int (3 : Int32)), .val (.int (Int32.ofNat mm)), .val (.int (Int32.ofNat kk)), .val (.int (2 : Int32)), .val (.int (-1 : Int32)), .unset, .unset] [(.int (1 : Int32))])) tg
      refine XS.iload X8.here hx rfl (hb hby at_153) rfl ?_
      exact kt
    by_cases hc155 : (1 : Int32) < (Int32.ofNat kk)
    · skip
      refine own_seg (T' := T8) (g' := (mkF m 158 #[.val (.int p1), .val (.int p2), .val (.int p3), .val (.int p4), .val (.ref b1), .val (.ref d), .val (.int (1 : Int32)), .val (.int (1 : Int32)), .val (.int (1 : Int32)), .val (.int (1 : Int32)), .val (.int (1 : Int32)), .val (.int (3 : Int32)), .val (.int (Int32.ofNat mm)), .val (.int (Int32.ofNat kk)), .val (.int (2 : Int32)), .val (.int (-1 : Int32)), .unset, .unset] [])) (fun tg kt => XS.icmpNo X8.here hx rfl (hb hby at_155) rfl (tlt hc155).2.1 kt) ?_
      refine own_seg (T' := T8) (g' := (mkF m 172 #[.val (.int p1), .val (.int p2), .val (.int p3), .val (.int p4), .val (.ref b1), .val (.ref d), .val (.int (1 : Int32)), .val (.int (1 : Int32)), .val (.int (1 : Int32)), .val (.int (1 : Int32)), .val (.int (1 : Int32)), .val (.int (3 : Int32)), .val (.int (Int32.ofNat mm)), .val (.int (Int32.ofNat kk)), .val (.int (2 : Int32)), .val (.int (-1 : Int32)), .val (.int (1 : Int32)), .unset] [(.int (1 : Int32))])) (fun tg kt => ?_) ?_
      · show Steps p.tables e below (T8.setTop (mkF m 158 #[.val (.int p1), .val (.int p2), .val (.int p3), .val (.int p4), .val (.ref b1), .val (.ref d), .val (.int (1 : Int32)), .val (.int (1 : Int32)), .val (.int (1 : Int32)), .val (.int (1 : Int32)), .val (.int (1 : Int32)), .val (.int (3 : Int32)), .val (.int (Int32.ofNat mm)), .val (.int (Int32.ofNat kk)), .val (.int (2 : Int32)), .val (.int (-1 : Int32)), .unset, .unset] [])) tg
        refine XS.iconst X8.here hx rfl (hb hby at_158) ?_
        show Steps p.tables e below (T8.setTop (mkF m 159 #[.val (.int p1), .val (.int p2), .val (.int p3), .val (.int p4), .val (.ref b1), .val (.ref d), .val (.int (1 : Int32)), .val (.int (1 : Int32)), .val (.int (1 : Int32)), .val (.int (1 : Int32)), .val (.int (1 : Int32)), .val (.int (3 : Int32)), .val (.int (Int32.ofNat mm)), .val (.int (Int32.ofNat kk)), .val (.int (2 : Int32)), .val (.int (-1 : Int32)), .unset, .unset] [(.int (1 : Int32))])) tg
        refine XS.goto X8.here hx rfl (pc0 := 159) (pc' := 168) rfl (hb hby at_159) (by decide) (by decide) ?_
        show Steps p.tables e below (T8.setTop (mkF m 168 #[.val (.int p1), .val (.int p2), .val (.int p3), .val (.int p4), .val (.ref b1), .val (.ref d), .val (.int (1 : Int32)), .val (.int (1 : Int32)), .val (.int (1 : Int32)), .val (.int (1 : Int32)), .val (.int (1 : Int32)), .val (.int (3 : Int32)), .val (.int (Int32.ofNat mm)), .val (.int (Int32.ofNat kk)), .val (.int (2 : Int32)), .val (.int (-1 : Int32)), .unset, .unset] [(.int (1 : Int32))])) tg
        refine XS.istore X8.here hx rfl (hb hby at_168) rfl (l' := #[.val (.int p1), .val (.int p2), .val (.int p3), .val (.int p4), .val (.ref b1), .val (.ref d), .val (.int (1 : Int32)), .val (.int (1 : Int32)), .val (.int (1 : Int32)), .val (.int (1 : Int32)), .val (.int (1 : Int32)), .val (.int (3 : Int32)), .val (.int (Int32.ofNat mm)), .val (.int (Int32.ofNat kk)), .val (.int (2 : Int32)), .val (.int (-1 : Int32)), .val (.int (1 : Int32)), .unset]) rfl ?_
        show Steps p.tables e below (T8.setTop (mkF m 170 #[.val (.int p1), .val (.int p2), .val (.int p3), .val (.int p4), .val (.ref b1), .val (.ref d), .val (.int (1 : Int32)), .val (.int (1 : Int32)), .val (.int (1 : Int32)), .val (.int (1 : Int32)), .val (.int (1 : Int32)), .val (.int (3 : Int32)), .val (.int (Int32.ofNat mm)), .val (.int (Int32.ofNat kk)), .val (.int (2 : Int32)), .val (.int (-1 : Int32)), .val (.int (1 : Int32)), .unset] [])) tg
        refine XS.iload X8.here hx rfl (hb hby at_170) rfl ?_
        exact kt
      have hc172 : ¬ ((1 : Int32) = (0 : Int32)) := by decide
      refine own_seg (T' := T8) (g' := (mkF m 175 #[.val (.int p1), .val (.int p2), .val (.int p3), .val (.int p4), .val (.ref b1), .val (.ref d), .val (.int (1 : Int32)), .val (.int (1 : Int32)), .val (.int (1 : Int32)), .val (.int (1 : Int32)), .val (.int (1 : Int32)), .val (.int (3 : Int32)), .val (.int (Int32.ofNat mm)), .val (.int (Int32.ofNat kk)), .val (.int (2 : Int32)), .val (.int (-1 : Int32)), .val (.int (1 : Int32)), .unset] [])) (fun tg kt => XS.ifNo X8.here hx rfl (hb hby at_172) rfl ((if0 _ _).trans (feq hc172).1) kt) ?_
      refine own_seg (T' := T8) (g' := (mkF m 179 #[.val (.int p1), .val (.int p2), .val (.int p3), .val (.int p4), .val (.ref b1), .val (.ref d), .val (.int (1 : Int32)), .val (.int (1 : Int32)), .val (.int (1 : Int32)), .val (.int (1 : Int32)), .val (.int (1 : Int32)), .val (.int (3 : Int32)), .val (.int (Int32.ofNat mm)), .val (.int (Int32.ofNat kk)), .val (.int (2 : Int32)), .val (.int (-1 : Int32)), .val (.int (1 : Int32)), .unset] [(.int (Int32.ofNat kk)), (.int (2 : Int32))])) (fun tg kt => ?_) ?_
      · show Steps p.tables e below (T8.setTop (mkF m 175 #[.val (.int p1), .val (.int p2), .val (.int p3), .val (.int p4), .val (.ref b1), .val (.ref d), .val (.int (1 : Int32)), .val (.int (1 : Int32)), .val (.int (1 : Int32)), .val (.int (1 : Int32)), .val (.int (1 : Int32)), .val (.int (3 : Int32)), .val (.int (Int32.ofNat mm)), .val (.int (Int32.ofNat kk)), .val (.int (2 : Int32)), .val (.int (-1 : Int32)), .val (.int (1 : Int32)), .unset] [])) tg
        refine XS.iload X8.here hx rfl (hb hby at_175) rfl ?_
        show Steps p.tables e below (T8.setTop (mkF m 177 #[.val (.int p1), .val (.int p2), .val (.int p3), .val (.int p4), .val (.ref b1), .val (.ref d), .val (.int (1 : Int32)), .val (.int (1 : Int32)), .val (.int (1 : Int32)), .val (.int (1 : Int32)), .val (.int (1 : Int32)), .val (.int (3 : Int32)), .val (.int (Int32.ofNat mm)), .val (.int (Int32.ofNat kk)), .val (.int (2 : Int32)), .val (.int (-1 : Int32)), .val (.int (1 : Int32)), .unset] [(.int (2 : Int32))])) tg
        refine XS.iload X8.here hx rfl (hb hby at_177) rfl ?_
        exact kt
      by_cases hc179 : (2 : Int32) < (Int32.ofNat kk)
      · skip
        refine own_seg (T' := T8) (g' := (mkF m 182 #[.val (.int p1), .val (.int p2), .val (.int p3), .val (.int p4), .val (.ref b1), .val (.ref d), .val (.int (1 : Int32)), .val (.int (1 : Int32)), .val (.int (1 : Int32)), .val (.int (1 : Int32)), .val (.int (1 : Int32)), .val (.int (3 : Int32)), .val (.int (Int32.ofNat mm)), .val (.int (Int32.ofNat kk)), .val (.int (2 : Int32)), .val (.int (-1 : Int32)), .val (.int (1 : Int32)), .unset] [])) (fun tg kt => XS.icmpNo X8.here hx rfl (hb hby at_179) rfl (tlt hc179).2.1 kt) ?_
        refine own_seg (T' := T8) (g' := (mkF m 205 #[.val (.int p1), .val (.int p2), .val (.int p3), .val (.int p4), .val (.ref b1), .val (.ref d), .val (.int (1 : Int32)), .val (.int (1 : Int32)), .val (.int (1 : Int32)), .val (.int (1 : Int32)), .val (.int (1 : Int32)), .val (.int (3 : Int32)), .val (.int (Int32.ofNat mm)), .val (.int (Int32.ofNat kk)), .val (.int (2 : Int32)), .val (.int (-1 : Int32)), .val (.int (1 : Int32)), .val (.int (2 : Int32))] [])) (fun tg kt => ?_) ?_
        · show Steps p.tables e below (T8.setTop (mkF m 182 #[.val (.int p1), .val (.int p2), .val (.int p3), .val (.int p4), .val (.ref b1), .val (.ref d), .val (.int (1 : Int32)), .val (.int (1 : Int32)), .val (.int (1 : Int32)), .val (.int (1 : Int32)), .val (.int (1 : Int32)), .val (.int (3 : Int32)), .val (.int (Int32.ofNat mm)), .val (.int (Int32.ofNat kk)), .val (.int (2 : Int32)), .val (.int (-1 : Int32)), .val (.int (1 : Int32)), .unset] [])) tg
          refine XS.iload X8.here hx rfl (hb hby at_182) rfl ?_
          show Steps p.tables e below (T8.setTop (mkF m 184 #[.val (.int p1), .val (.int p2), .val (.int p3), .val (.int p4), .val (.ref b1), .val (.ref d), .val (.int (1 : Int32)), .val (.int (1 : Int32)), .val (.int (1 : Int32)), .val (.int (1 : Int32)), .val (.int (1 : Int32)), .val (.int (3 : Int32)), .val (.int (Int32.ofNat mm)), .val (.int (Int32.ofNat kk)), .val (.int (2 : Int32)), .val (.int (-1 : Int32)), .val (.int (1 : Int32)), .unset] [(.int (2 : Int32))])) tg
          refine XS.goto X8.here hx rfl (pc0 := 184) (pc' := 203) rfl (hb hby at_184) (by decide) (by decide) ?_
          show Steps p.tables e below (T8.setTop (mkF m 203 #[.val (.int p1), .val (.int p2), .val (.int p3), .val (.int p4), .val (.ref b1), .val (.ref d), .val (.int (1 : Int32)), .val (.int (1 : Int32)), .val (.int (1 : Int32)), .val (.int (1 : Int32)), .val (.int (1 : Int32)), .val (.int (3 : Int32)), .val (.int (Int32.ofNat mm)), .val (.int (Int32.ofNat kk)), .val (.int (2 : Int32)), .val (.int (-1 : Int32)), .val (.int (1 : Int32)), .unset] [(.int (2 : Int32))])) tg
          refine XS.istore X8.here hx rfl (hb hby at_203) rfl (l' := #[.val (.int p1), .val (.int p2), .val (.int p3), .val (.int p4), .val (.ref b1), .val (.ref d), .val (.int (1 : Int32)), .val (.int (1 : Int32)), .val (.int (1 : Int32)), .val (.int (1 : Int32)), .val (.int (1 : Int32)), .val (.int (3 : Int32)), .val (.int (Int32.ofNat mm)), .val (.int (Int32.ofNat kk)), .val (.int (2 : Int32)), .val (.int (-1 : Int32)), .val (.int (1 : Int32)), .val (.int (2 : Int32))]) rfl ?_
          exact kt
        have kk3 : kk ≤ 3 := hTk.1
        exact sg205 hw p1 p2 p3 p4 b1 t1 t2 t3 d kk uk _ (1 : Int32) (1 : Int32) (1 : Int32) (1 : Int32) (3 : Int32) (Int32.ofNat mm) (2 : Int32) (-1 : Int32) (1 : Int32) (2 : Int32) K X8 e8 N8 Z7 P_a P_1 P_2 P_3 hTk rfl rfl (own_idx_miss (fun i hi e => by have z : ¬ 0 < kk := fun z => hc137 ((own_ltl (e := 0) (by omega) (by omega)).mpr z); rcases (by omega : i = 0 ∨ i = 1) with rfl | rfl <;> first | omega | exact hba e.symm | exact hca e.symm | exact hcb e.symm)) (own_idx_hit hTk (i := 1) ((own_ltl (e := 1) (by omega) (by omega)).mp hc155) rfl) (own_idx_hit hTk (i := 2) ((own_ltl (e := 2) (by omega) (by omega)).mp hc179) rfl)
      · skip
        refine own_seg (T' := T8) (g' := (mkF m 187 #[.val (.int p1), .val (.int p2), .val (.int p3), .val (.int p4), .val (.ref b1), .val (.ref d), .val (.int (1 : Int32)), .val (.int (1 : Int32)), .val (.int (1 : Int32)), .val (.int (1 : Int32)), .val (.int (1 : Int32)), .val (.int (3 : Int32)), .val (.int (Int32.ofNat mm)), .val (.int (Int32.ofNat kk)), .val (.int (2 : Int32)), .val (.int (-1 : Int32)), .val (.int (1 : Int32)), .unset] [])) (fun tg kt => XS.icmpYes X8.here hx rfl (pc0 := 179) (pc' := 187) rfl (hb hby at_179) rfl (flt hc179).2.1 (by decide) (by decide) kt) ?_
        refine own_seg (T' := T8) (g' := (mkF m 205 #[.val (.int p1), .val (.int p2), .val (.int p3), .val (.int p4), .val (.ref b1), .val (.ref d), .val (.int (1 : Int32)), .val (.int (1 : Int32)), .val (.int (1 : Int32)), .val (.int (1 : Int32)), .val (.int (1 : Int32)), .val (.int (3 : Int32)), .val (.int (Int32.ofNat mm)), .val (.int (Int32.ofNat kk)), .val (.int (2 : Int32)), .val (.int (-1 : Int32)), .val (.int (1 : Int32)), .val (.int (-1 : Int32))] [])) (fun tg kt => ?_) ?_
        · show Steps p.tables e below (T8.setTop (mkF m 187 #[.val (.int p1), .val (.int p2), .val (.int p3), .val (.int p4), .val (.ref b1), .val (.ref d), .val (.int (1 : Int32)), .val (.int (1 : Int32)), .val (.int (1 : Int32)), .val (.int (1 : Int32)), .val (.int (1 : Int32)), .val (.int (3 : Int32)), .val (.int (Int32.ofNat mm)), .val (.int (Int32.ofNat kk)), .val (.int (2 : Int32)), .val (.int (-1 : Int32)), .val (.int (1 : Int32)), .unset] [])) tg
          refine XS.iconst X8.here hx rfl (hb hby at_187) ?_
          show Steps p.tables e below (T8.setTop (mkF m 188 #[.val (.int p1), .val (.int p2), .val (.int p3), .val (.int p4), .val (.ref b1), .val (.ref d), .val (.int (1 : Int32)), .val (.int (1 : Int32)), .val (.int (1 : Int32)), .val (.int (1 : Int32)), .val (.int (1 : Int32)), .val (.int (3 : Int32)), .val (.int (Int32.ofNat mm)), .val (.int (Int32.ofNat kk)), .val (.int (2 : Int32)), .val (.int (-1 : Int32)), .val (.int (1 : Int32)), .unset] [(.int (-1 : Int32))])) tg
          refine XS.goto X8.here hx rfl (pc0 := 188) (pc' := 203) rfl (hb hby at_188) (by decide) (by decide) ?_
          show Steps p.tables e below (T8.setTop (mkF m 203 #[.val (.int p1), .val (.int p2), .val (.int p3), .val (.int p4), .val (.ref b1), .val (.ref d), .val (.int (1 : Int32)), .val (.int (1 : Int32)), .val (.int (1 : Int32)), .val (.int (1 : Int32)), .val (.int (1 : Int32)), .val (.int (3 : Int32)), .val (.int (Int32.ofNat mm)), .val (.int (Int32.ofNat kk)), .val (.int (2 : Int32)), .val (.int (-1 : Int32)), .val (.int (1 : Int32)), .unset] [(.int (-1 : Int32))])) tg
          refine XS.istore X8.here hx rfl (hb hby at_203) rfl (l' := #[.val (.int p1), .val (.int p2), .val (.int p3), .val (.int p4), .val (.ref b1), .val (.ref d), .val (.int (1 : Int32)), .val (.int (1 : Int32)), .val (.int (1 : Int32)), .val (.int (1 : Int32)), .val (.int (1 : Int32)), .val (.int (3 : Int32)), .val (.int (Int32.ofNat mm)), .val (.int (Int32.ofNat kk)), .val (.int (2 : Int32)), .val (.int (-1 : Int32)), .val (.int (1 : Int32)), .val (.int (-1 : Int32))]) rfl ?_
          exact kt
        have kk3 : kk ≤ 3 := hTk.1
        exact sg205 hw p1 p2 p3 p4 b1 t1 t2 t3 d kk uk _ (1 : Int32) (1 : Int32) (1 : Int32) (1 : Int32) (3 : Int32) (Int32.ofNat mm) (2 : Int32) (-1 : Int32) (1 : Int32) (-1 : Int32) K X8 e8 N8 Z7 P_a P_1 P_2 P_3 hTk rfl rfl (own_idx_miss (fun i hi e => by have z : ¬ 0 < kk := fun z => hc137 ((own_ltl (e := 0) (by omega) (by omega)).mpr z); rcases (by omega : i = 0 ∨ i = 1) with rfl | rfl <;> first | omega | exact hba e.symm | exact hca e.symm | exact hcb e.symm)) (own_idx_hit hTk (i := 1) ((own_ltl (e := 1) (by omega) (by omega)).mp hc155) rfl) (own_idx_miss (fun i hi e => by have z : ¬ 2 < kk := fun z => hc179 ((own_ltl (e := 2) (by omega) (by omega)).mpr z); rcases (by omega : i = 0 ∨ i = 1) with rfl | rfl <;> first | omega | exact hba e.symm | exact hca e.symm | exact hcb e.symm))
    · skip
      refine own_seg (T' := T8) (g' := (mkF m 162 #[.val (.int p1), .val (.int p2), .val (.int p3), .val (.int p4), .val (.ref b1), .val (.ref d), .val (.int (1 : Int32)), .val (.int (1 : Int32)), .val (.int (1 : Int32)), .val (.int (1 : Int32)), .val (.int (1 : Int32)), .val (.int (3 : Int32)), .val (.int (Int32.ofNat mm)), .val (.int (Int32.ofNat kk)), .val (.int (2 : Int32)), .val (.int (-1 : Int32)), .unset, .unset] [])) (fun tg kt => XS.icmpYes X8.here hx rfl (pc0 := 155) (pc' := 162) rfl (hb hby at_155) rfl (flt hc155).2.1 (by decide) (by decide) kt) ?_
      refine own_seg (T' := T8) (g' := (mkF m 172 #[.val (.int p1), .val (.int p2), .val (.int p3), .val (.int p4), .val (.ref b1), .val (.ref d), .val (.int (1 : Int32)), .val (.int (1 : Int32)), .val (.int (1 : Int32)), .val (.int (1 : Int32)), .val (.int (1 : Int32)), .val (.int (3 : Int32)), .val (.int (Int32.ofNat mm)), .val (.int (Int32.ofNat kk)), .val (.int (2 : Int32)), .val (.int (-1 : Int32)), .val (.int (-1 : Int32)), .unset] [(.int (1 : Int32))])) (fun tg kt => ?_) ?_
      · show Steps p.tables e below (T8.setTop (mkF m 162 #[.val (.int p1), .val (.int p2), .val (.int p3), .val (.int p4), .val (.ref b1), .val (.ref d), .val (.int (1 : Int32)), .val (.int (1 : Int32)), .val (.int (1 : Int32)), .val (.int (1 : Int32)), .val (.int (1 : Int32)), .val (.int (3 : Int32)), .val (.int (Int32.ofNat mm)), .val (.int (Int32.ofNat kk)), .val (.int (2 : Int32)), .val (.int (-1 : Int32)), .unset, .unset] [])) tg
        refine XS.iconst X8.here hx rfl (hb hby at_162) ?_
        show Steps p.tables e below (T8.setTop (mkF m 163 #[.val (.int p1), .val (.int p2), .val (.int p3), .val (.int p4), .val (.ref b1), .val (.ref d), .val (.int (1 : Int32)), .val (.int (1 : Int32)), .val (.int (1 : Int32)), .val (.int (1 : Int32)), .val (.int (1 : Int32)), .val (.int (3 : Int32)), .val (.int (Int32.ofNat mm)), .val (.int (Int32.ofNat kk)), .val (.int (2 : Int32)), .val (.int (-1 : Int32)), .unset, .unset] [(.int (-1 : Int32))])) tg
        refine XS.goto X8.here hx rfl (pc0 := 163) (pc' := 168) rfl (hb hby at_163) (by decide) (by decide) ?_
        show Steps p.tables e below (T8.setTop (mkF m 168 #[.val (.int p1), .val (.int p2), .val (.int p3), .val (.int p4), .val (.ref b1), .val (.ref d), .val (.int (1 : Int32)), .val (.int (1 : Int32)), .val (.int (1 : Int32)), .val (.int (1 : Int32)), .val (.int (1 : Int32)), .val (.int (3 : Int32)), .val (.int (Int32.ofNat mm)), .val (.int (Int32.ofNat kk)), .val (.int (2 : Int32)), .val (.int (-1 : Int32)), .unset, .unset] [(.int (-1 : Int32))])) tg
        refine XS.istore X8.here hx rfl (hb hby at_168) rfl (l' := #[.val (.int p1), .val (.int p2), .val (.int p3), .val (.int p4), .val (.ref b1), .val (.ref d), .val (.int (1 : Int32)), .val (.int (1 : Int32)), .val (.int (1 : Int32)), .val (.int (1 : Int32)), .val (.int (1 : Int32)), .val (.int (3 : Int32)), .val (.int (Int32.ofNat mm)), .val (.int (Int32.ofNat kk)), .val (.int (2 : Int32)), .val (.int (-1 : Int32)), .val (.int (-1 : Int32)), .unset]) rfl ?_
        show Steps p.tables e below (T8.setTop (mkF m 170 #[.val (.int p1), .val (.int p2), .val (.int p3), .val (.int p4), .val (.ref b1), .val (.ref d), .val (.int (1 : Int32)), .val (.int (1 : Int32)), .val (.int (1 : Int32)), .val (.int (1 : Int32)), .val (.int (1 : Int32)), .val (.int (3 : Int32)), .val (.int (Int32.ofNat mm)), .val (.int (Int32.ofNat kk)), .val (.int (2 : Int32)), .val (.int (-1 : Int32)), .val (.int (-1 : Int32)), .unset] [])) tg
        refine XS.iload X8.here hx rfl (hb hby at_170) rfl ?_
        exact kt
      have hc172 : ¬ ((1 : Int32) = (0 : Int32)) := by decide
      refine own_seg (T' := T8) (g' := (mkF m 175 #[.val (.int p1), .val (.int p2), .val (.int p3), .val (.int p4), .val (.ref b1), .val (.ref d), .val (.int (1 : Int32)), .val (.int (1 : Int32)), .val (.int (1 : Int32)), .val (.int (1 : Int32)), .val (.int (1 : Int32)), .val (.int (3 : Int32)), .val (.int (Int32.ofNat mm)), .val (.int (Int32.ofNat kk)), .val (.int (2 : Int32)), .val (.int (-1 : Int32)), .val (.int (-1 : Int32)), .unset] [])) (fun tg kt => XS.ifNo X8.here hx rfl (hb hby at_172) rfl ((if0 _ _).trans (feq hc172).1) kt) ?_
      refine own_seg (T' := T8) (g' := (mkF m 179 #[.val (.int p1), .val (.int p2), .val (.int p3), .val (.int p4), .val (.ref b1), .val (.ref d), .val (.int (1 : Int32)), .val (.int (1 : Int32)), .val (.int (1 : Int32)), .val (.int (1 : Int32)), .val (.int (1 : Int32)), .val (.int (3 : Int32)), .val (.int (Int32.ofNat mm)), .val (.int (Int32.ofNat kk)), .val (.int (2 : Int32)), .val (.int (-1 : Int32)), .val (.int (-1 : Int32)), .unset] [(.int (Int32.ofNat kk)), (.int (2 : Int32))])) (fun tg kt => ?_) ?_
      · show Steps p.tables e below (T8.setTop (mkF m 175 #[.val (.int p1), .val (.int p2), .val (.int p3), .val (.int p4), .val (.ref b1), .val (.ref d), .val (.int (1 : Int32)), .val (.int (1 : Int32)), .val (.int (1 : Int32)), .val (.int (1 : Int32)), .val (.int (1 : Int32)), .val (.int (3 : Int32)), .val (.int (Int32.ofNat mm)), .val (.int (Int32.ofNat kk)), .val (.int (2 : Int32)), .val (.int (-1 : Int32)), .val (.int (-1 : Int32)), .unset] [])) tg
        refine XS.iload X8.here hx rfl (hb hby at_175) rfl ?_
        show Steps p.tables e below (T8.setTop (mkF m 177 #[.val (.int p1), .val (.int p2), .val (.int p3), .val (.int p4), .val (.ref b1), .val (.ref d), .val (.int (1 : Int32)), .val (.int (1 : Int32)), .val (.int (1 : Int32)), .val (.int (1 : Int32)), .val (.int (1 : Int32)), .val (.int (3 : Int32)), .val (.int (Int32.ofNat mm)), .val (.int (Int32.ofNat kk)), .val (.int (2 : Int32)), .val (.int (-1 : Int32)), .val (.int (-1 : Int32)), .unset] [(.int (2 : Int32))])) tg
        refine XS.iload X8.here hx rfl (hb hby at_177) rfl ?_
        exact kt
      by_cases hc179 : (2 : Int32) < (Int32.ofNat kk)
      · skip
        refine own_seg (T' := T8) (g' := (mkF m 182 #[.val (.int p1), .val (.int p2), .val (.int p3), .val (.int p4), .val (.ref b1), .val (.ref d), .val (.int (1 : Int32)), .val (.int (1 : Int32)), .val (.int (1 : Int32)), .val (.int (1 : Int32)), .val (.int (1 : Int32)), .val (.int (3 : Int32)), .val (.int (Int32.ofNat mm)), .val (.int (Int32.ofNat kk)), .val (.int (2 : Int32)), .val (.int (-1 : Int32)), .val (.int (-1 : Int32)), .unset] [])) (fun tg kt => XS.icmpNo X8.here hx rfl (hb hby at_179) rfl (tlt hc179).2.1 kt) ?_
        refine own_seg (T' := T8) (g' := (mkF m 205 #[.val (.int p1), .val (.int p2), .val (.int p3), .val (.int p4), .val (.ref b1), .val (.ref d), .val (.int (1 : Int32)), .val (.int (1 : Int32)), .val (.int (1 : Int32)), .val (.int (1 : Int32)), .val (.int (1 : Int32)), .val (.int (3 : Int32)), .val (.int (Int32.ofNat mm)), .val (.int (Int32.ofNat kk)), .val (.int (2 : Int32)), .val (.int (-1 : Int32)), .val (.int (-1 : Int32)), .val (.int (2 : Int32))] [])) (fun tg kt => ?_) ?_
        · show Steps p.tables e below (T8.setTop (mkF m 182 #[.val (.int p1), .val (.int p2), .val (.int p3), .val (.int p4), .val (.ref b1), .val (.ref d), .val (.int (1 : Int32)), .val (.int (1 : Int32)), .val (.int (1 : Int32)), .val (.int (1 : Int32)), .val (.int (1 : Int32)), .val (.int (3 : Int32)), .val (.int (Int32.ofNat mm)), .val (.int (Int32.ofNat kk)), .val (.int (2 : Int32)), .val (.int (-1 : Int32)), .val (.int (-1 : Int32)), .unset] [])) tg
          refine XS.iload X8.here hx rfl (hb hby at_182) rfl ?_
          show Steps p.tables e below (T8.setTop (mkF m 184 #[.val (.int p1), .val (.int p2), .val (.int p3), .val (.int p4), .val (.ref b1), .val (.ref d), .val (.int (1 : Int32)), .val (.int (1 : Int32)), .val (.int (1 : Int32)), .val (.int (1 : Int32)), .val (.int (1 : Int32)), .val (.int (3 : Int32)), .val (.int (Int32.ofNat mm)), .val (.int (Int32.ofNat kk)), .val (.int (2 : Int32)), .val (.int (-1 : Int32)), .val (.int (-1 : Int32)), .unset] [(.int (2 : Int32))])) tg
          refine XS.goto X8.here hx rfl (pc0 := 184) (pc' := 203) rfl (hb hby at_184) (by decide) (by decide) ?_
          show Steps p.tables e below (T8.setTop (mkF m 203 #[.val (.int p1), .val (.int p2), .val (.int p3), .val (.int p4), .val (.ref b1), .val (.ref d), .val (.int (1 : Int32)), .val (.int (1 : Int32)), .val (.int (1 : Int32)), .val (.int (1 : Int32)), .val (.int (1 : Int32)), .val (.int (3 : Int32)), .val (.int (Int32.ofNat mm)), .val (.int (Int32.ofNat kk)), .val (.int (2 : Int32)), .val (.int (-1 : Int32)), .val (.int (-1 : Int32)), .unset] [(.int (2 : Int32))])) tg
          refine XS.istore X8.here hx rfl (hb hby at_203) rfl (l' := #[.val (.int p1), .val (.int p2), .val (.int p3), .val (.int p4), .val (.ref b1), .val (.ref d), .val (.int (1 : Int32)), .val (.int (1 : Int32)), .val (.int (1 : Int32)), .val (.int (1 : Int32)), .val (.int (1 : Int32)), .val (.int (3 : Int32)), .val (.int (Int32.ofNat mm)), .val (.int (Int32.ofNat kk)), .val (.int (2 : Int32)), .val (.int (-1 : Int32)), .val (.int (-1 : Int32)), .val (.int (2 : Int32))]) rfl ?_
          exact kt
        have kk3 : kk ≤ 3 := hTk.1
        exact sg205 hw p1 p2 p3 p4 b1 t1 t2 t3 d kk uk _ (1 : Int32) (1 : Int32) (1 : Int32) (1 : Int32) (3 : Int32) (Int32.ofNat mm) (2 : Int32) (-1 : Int32) (-1 : Int32) (2 : Int32) K X8 e8 N8 Z7 P_a P_1 P_2 P_3 hTk rfl rfl (own_idx_miss (fun i hi e => by have z : ¬ 0 < kk := fun z => hc137 ((own_ltl (e := 0) (by omega) (by omega)).mpr z); rcases (by omega : i = 0 ∨ i = 1) with rfl | rfl <;> first | omega | exact hba e.symm | exact hca e.symm | exact hcb e.symm)) (own_idx_miss (fun i hi e => by have z : ¬ 1 < kk := fun z => hc155 ((own_ltl (e := 1) (by omega) (by omega)).mpr z); rcases (by omega : i = 0 ∨ i = 1) with rfl | rfl <;> first | omega | exact hba e.symm | exact hca e.symm | exact hcb e.symm)) (own_idx_hit hTk (i := 2) ((own_ltl (e := 2) (by omega) (by omega)).mp hc179) rfl)
      · skip
        refine own_seg (T' := T8) (g' := (mkF m 187 #[.val (.int p1), .val (.int p2), .val (.int p3), .val (.int p4), .val (.ref b1), .val (.ref d), .val (.int (1 : Int32)), .val (.int (1 : Int32)), .val (.int (1 : Int32)), .val (.int (1 : Int32)), .val (.int (1 : Int32)), .val (.int (3 : Int32)), .val (.int (Int32.ofNat mm)), .val (.int (Int32.ofNat kk)), .val (.int (2 : Int32)), .val (.int (-1 : Int32)), .val (.int (-1 : Int32)), .unset] [])) (fun tg kt => XS.icmpYes X8.here hx rfl (pc0 := 179) (pc' := 187) rfl (hb hby at_179) rfl (flt hc179).2.1 (by decide) (by decide) kt) ?_
        refine own_seg (T' := T8) (g' := (mkF m 205 #[.val (.int p1), .val (.int p2), .val (.int p3), .val (.int p4), .val (.ref b1), .val (.ref d), .val (.int (1 : Int32)), .val (.int (1 : Int32)), .val (.int (1 : Int32)), .val (.int (1 : Int32)), .val (.int (1 : Int32)), .val (.int (3 : Int32)), .val (.int (Int32.ofNat mm)), .val (.int (Int32.ofNat kk)), .val (.int (2 : Int32)), .val (.int (-1 : Int32)), .val (.int (-1 : Int32)), .val (.int (-1 : Int32))] [])) (fun tg kt => ?_) ?_
        · show Steps p.tables e below (T8.setTop (mkF m 187 #[.val (.int p1), .val (.int p2), .val (.int p3), .val (.int p4), .val (.ref b1), .val (.ref d), .val (.int (1 : Int32)), .val (.int (1 : Int32)), .val (.int (1 : Int32)), .val (.int (1 : Int32)), .val (.int (1 : Int32)), .val (.int (3 : Int32)), .val (.int (Int32.ofNat mm)), .val (.int (Int32.ofNat kk)), .val (.int (2 : Int32)), .val (.int (-1 : Int32)), .val (.int (-1 : Int32)), .unset] [])) tg
          refine XS.iconst X8.here hx rfl (hb hby at_187) ?_
          show Steps p.tables e below (T8.setTop (mkF m 188 #[.val (.int p1), .val (.int p2), .val (.int p3), .val (.int p4), .val (.ref b1), .val (.ref d), .val (.int (1 : Int32)), .val (.int (1 : Int32)), .val (.int (1 : Int32)), .val (.int (1 : Int32)), .val (.int (1 : Int32)), .val (.int (3 : Int32)), .val (.int (Int32.ofNat mm)), .val (.int (Int32.ofNat kk)), .val (.int (2 : Int32)), .val (.int (-1 : Int32)), .val (.int (-1 : Int32)), .unset] [(.int (-1 : Int32))])) tg
          refine XS.goto X8.here hx rfl (pc0 := 188) (pc' := 203) rfl (hb hby at_188) (by decide) (by decide) ?_
          show Steps p.tables e below (T8.setTop (mkF m 203 #[.val (.int p1), .val (.int p2), .val (.int p3), .val (.int p4), .val (.ref b1), .val (.ref d), .val (.int (1 : Int32)), .val (.int (1 : Int32)), .val (.int (1 : Int32)), .val (.int (1 : Int32)), .val (.int (1 : Int32)), .val (.int (3 : Int32)), .val (.int (Int32.ofNat mm)), .val (.int (Int32.ofNat kk)), .val (.int (2 : Int32)), .val (.int (-1 : Int32)), .val (.int (-1 : Int32)), .unset] [(.int (-1 : Int32))])) tg
          refine XS.istore X8.here hx rfl (hb hby at_203) rfl (l' := #[.val (.int p1), .val (.int p2), .val (.int p3), .val (.int p4), .val (.ref b1), .val (.ref d), .val (.int (1 : Int32)), .val (.int (1 : Int32)), .val (.int (1 : Int32)), .val (.int (1 : Int32)), .val (.int (1 : Int32)), .val (.int (3 : Int32)), .val (.int (Int32.ofNat mm)), .val (.int (Int32.ofNat kk)), .val (.int (2 : Int32)), .val (.int (-1 : Int32)), .val (.int (-1 : Int32)), .val (.int (-1 : Int32))]) rfl ?_
          exact kt
        have kk3 : kk ≤ 3 := hTk.1
        exact sg205 hw p1 p2 p3 p4 b1 t1 t2 t3 d kk uk _ (1 : Int32) (1 : Int32) (1 : Int32) (1 : Int32) (3 : Int32) (Int32.ofNat mm) (2 : Int32) (-1 : Int32) (-1 : Int32) (-1 : Int32) K X8 e8 N8 Z7 P_a P_1 P_2 P_3 hTk rfl rfl (own_idx_miss (fun i hi e => by have z : ¬ 0 < kk := fun z => hc137 ((own_ltl (e := 0) (by omega) (by omega)).mpr z); rcases (by omega : i = 0 ∨ i = 1) with rfl | rfl <;> first | omega | exact hba e.symm | exact hca e.symm | exact hcb e.symm)) (own_idx_miss (fun i hi e => by have z : ¬ 1 < kk := fun z => hc155 ((own_ltl (e := 1) (by omega) (by omega)).mpr z); rcases (by omega : i = 0 ∨ i = 1) with rfl | rfl <;> first | omega | exact hba e.symm | exact hca e.symm | exact hcb e.symm)) (own_idx_miss (fun i hi e => by have z : ¬ 2 < kk := fun z => hc179 ((own_ltl (e := 2) (by omega) (by omega)).mpr z); rcases (by omega : i = 0 ∨ i = 1) with rfl | rfl <;> first | omega | exact hba e.symm | exact hca e.symm | exact hcb e.symm))
theorem rm0 (l : Launch) (Z : State) (a0 : Array Value) (hw : ∀ d ∈ tables_1, d.before a0 Z = true) (p1 p2 p3 p4 : Int32) (d : Addr) (h0 : Heap) (n0 : Nat) (Z0 : n0 ≤ h0.size) (hOld : Old Z n0 h0) (SE : Sta Z Z.heap "com/example/rhizome/rhizome/tableau/DependencySet" "EMPTY" "Lcom/example/rhizome/rhizome/tableau/DependencySet;" (.ref d)) (XE : Exa Z Z.heap d "com/example/rhizome/rhizome/tableau/DependencySet") :
    own_Met l Z x code maxLocals ret room_1 #[(.int p1), (.int p2), (.int p3), (.int p4)] h0 (own_Q1 n0) := by
  by_cases hba : p2 = p1
  · by_cases hca : p3 = p1
    · exact rm0A l Z a0 hw p1 p2 p3 p4 d h0 n0 Z0 hba hca hOld SE XE
    · exact rm0B l Z a0 hw p1 p2 p3 p4 d h0 n0 Z0 hba hca hOld SE XE
  · by_cases hca : p3 = p1
    · exact rm0C l Z a0 hw p1 p2 p3 p4 d h0 n0 Z0 hba hca hOld SE XE
    · by_cases hcb : p3 = p2
      · exact rm0D l Z a0 hw p1 p2 p3 p4 d h0 n0 Z0 hba hca hcb hOld SE XE
      · exact rm0E l Z a0 hw p1 p2 p3 p4 d h0 n0 Z0 hba hca hcb hOld SE XE
set_option maxRecDepth 65536 in
set_option maxHeartbeats 40000000 in
theorem own_comes {Post : Tables → Env → Array Value → State → Outcome → State → Prop} (hpost : ∀ tb e args s v u, (limb_1_1.after args s (.returned v) u = true ∧ limb_1_2.after args s (.returned v) u = true) → FrameEnd s (.returned v) u (Jvm.fieldLocs frame_1_writes args s ++ Jvm.arrayLocs frame_1_arrays args s ++ Jvm.staticLocs frame_1_statics s) 16 256 → Post tb e args s (.returned v) u) :
    ArmFor flags0 classFile x code maxLocals ret World_1 tables_1 room_1 Calls_1 rest_1 Pre_1 Post := by
  intro l hfl _ _ p e ha hc hk s m args below hf hA hF happ hP
  obtain ⟨hcalls, hrest, hpre⟩ := hP
  obtain ⟨-, -, -, hnamed, -, -, -, hat⟩ := (Spec.applies_iff hf).mp happ
  obtain ⟨hg, hn⟩ := and_e (Cond.before_iff.mp (show (Jvm.Cond.and given_1 narrow_1).before args s = true from hpre))
  obtain ⟨q1, q2⟩ := and_e hg
  obtain ⟨q3, q4⟩ := and_e q2
  obtain ⟨q5, q6⟩ := and_e q4
  obtain ⟨q7, q8⟩ := and_e q6
  obtain ⟨w0, w1, w2, w3, rfl⟩ : ∃ w0 w1 w2 w3 : Value, args = #[w0, w1, w2, w3] := by
    have hs : args.size = 4 := by simpa [Cond.value, given_1] using q1
    obtain ⟨L⟩ := args
    match L, hs with
    | [w0, w1, w2, w3], _ => exact ⟨w0, w1, w2, w3, rfl⟩
  have hw := fun d (hd : d ∈ tables_1) => atoms_spec (ws := Jvm.Cond.code x code maxLocals ret :: tables_1) hat d (List.mem_cons_of_mem _ hd)
  obtain ⟨i0, ei0⟩ := is_v q3
  obtain rfl : w0 = (.int i0) := Option.some.inj ei0
  obtain ⟨i1, ei1⟩ := is_v q5
  obtain rfl : w1 = (.int i1) := Option.some.inj ei1
  obtain ⟨i2, ei2⟩ := is_v q7
  obtain rfl : w2 = (.int i2) := Option.some.inj ei2
  obtain ⟨i3, ei3⟩ := is_v q8
  obtain rfl : w3 = (.int i3) := Option.some.inj ei3
  obtain ⟨d, ed⟩ := exa_v hn
  have XE := Exa.start ed hn
  have SE := Sta.start ed (Or.inr ⟨(hw _ (List.mem_of_getElem? (i := 19) rfl)), (hw _ (List.mem_of_getElem? (i := 20) rfl))⟩)
  obtain ⟨n, o, h1, h2, h3, _, L, rfl, ⟨rfl, N⟩, hq⟩ := rm0 l s _ hw i0 i1 i2 i3 d s.heap s.heap.size (Nat.le_refl _) (Old.start s) SE XE tables_1 p e ha hc hk s m _ below hf ((Spec.applies_iff_loose hf).mp happ).1 ⟨rfl, State.Warmed39.refl s, rfl⟩ trivial
  exact ⟨n, _, h1, h2, h3, hpost _ _ _ _ _ _ ⟨Cond.after_iff.mpr rfl, Cond.after_iff.mpr (eq_i res_at (Term.int_eval (1)) rfl)⟩ ⟨hq.1, hq.2.1, (hq.2.2.sift fun y hy => Or.inr (N y hy)).mono (by decide) (by decide)⟩⟩
theorem main_1_1 : Claimed_1_1 := own_comes fun _ _ _ _ _ _ h hF => ⟨h.1, hF⟩
theorem main_1_2 : Claimed_1_2 := own_comes fun _ _ _ _ _ _ h hF => ⟨h.2, hF⟩
end Jvm.Pilot.@@N@@
namespace Jvm.Pilot.@@N@@
open Jvm Jvm.ClassFile Sem Op Lib Jvm.Free Jvm.Stand Jvm.Pilot.@@N@@.Jvm.D
/-! MADE BY PROGRAM (witnessworld.py) out of the Statement's table words and the real class files: 12 classes; the members and pool entries that the words name. The judged class is class 1, her method 1. -/
namespace start1
open Jvm.ClassFile
def u (s : String) : CpInfo := .utf8 (stringToUtf16 s)
/-- a pool by its gaps: so many unusable entries, then the entry; so many at the end -/
def gap : Nat → List CpInfo → List CpInfo
  | 0, r => r
  | n + 1, r => .unusable :: gap n r
def poolList (es : List (Nat × CpInfo)) (last : Nat) : List CpInfo := es.foldr (fun e r => gap e.1 (e.2 :: r)) (gap last [])
def pool (es : List (Nat × CpInfo)) (last : Nat) : Array CpInfo := ⟨poolList es last⟩
def fileOf (pool : Array CpInfo) (this : Nat) (attrs : Array Attribute := #[]) (ms : Array MethodInfo := #[]) (fl : Nat := 33) (sup : Nat := 0) (ifs : Array Nat := #[]) (fds : Array FieldInfo := #[]) : ClassFile where
  minorVersion := 0
  majorVersion := 65
  constantPool := pool
  accessFlags := fl
  thisClass := this
  superClass := sup
  interfaces := ifs
  fields := fds
  methods := ms
  attributes := attrs
def plain (name : String) (sup : Option ClassId) : Class where
  name := name
  kind := .ordinary
  loader := none
  accessFlags := 33
  super := sup
  interfaces := #[]
  cf := none
  fields := #[]
  methods := #[]
  instanceTypes := #[]
  staticTypes := #[]
  resolved := #[]
  callSites := []
  init := .initialized
  statics := none
  mirror := none

def pool0 : Array CpInfo := pool [(5, u "<init>"), (0, u "()V"), (1, .class_ 10), (1, u "java/lang/Object")] 113

def k0c0 : Code := { maxStack := 0, maxLocals := 1, code := object_method_1_code, exceptionTable := #[], attributes := #[] }
def k0m0 : Method := { name := "<init>", desc := "()V", sig := { parameters := [], returnType := none }, accessFlags := 1, code := some k0c0 }
/-- java/lang/Object -/
def k0 : Class := { plain "java/lang/Object" none with
  accessFlags := 33
  interfaces := #[]
  cf := some (fileOf pool0 8 #[] #[{ accessFlags := 1, nameIndex := 5, descriptorIndex := 6, attributes := #[] }] 33 0 #[] #[])
  fields := #[]
  methods := #[k0m0]
  instanceTypes := #[]
  staticTypes := #[]
  resolved := Array.replicate 124 none
  statics := none }

def pool1 : Array CpInfo := pool [(2, .class_ 4), (0, .nameAndType 5 6), (0, u "java/lang/Object"), (0, u "<init>"), (0, u "()V"), (0, .class_ 8), (0, u "com/example/rhizome/rhizome/tableau/Label"), (0, .methodref 7 3), (0, .fieldref 11 12), (0, .class_ 13), (0, .nameAndType 14 15), (0, u "com/example/rhizome/rhizome/tableau/DependencySet"), (0, u "EMPTY"), (0, u "Lcom/example/rhizome/rhizome/tableau/DependencySet;"), (0, .methodref 7 17), (0, .nameAndType 18 19), (0, u "add"), (0, u "(ILcom/example/rhizome/rhizome/tableau/DependencySet;)Z"), (0, .integer 2147483647), (0, .methodref 7 22), (0, .nameAndType 23 24), (0, u "truncate"), (0, u "(I)V"), (0, .methodref 26 27), (0, .class_ 28), (0, .nameAndType 29 30), (0, u "java/lang/Math"), (0, u "min"), (0, u "(II)I"), (0, .methodref 7 32), (0, .nameAndType 33 34), (0, u "size"), (0, u "()I"), (0, .methodref 7 36), (0, .nameAndType 37 38), (0, u "position"), (0, u "(I)I"), (0, .class_ 40), (0, u "com/example/rhizome/rhizome/tableau/LabelTruncatePinLaw"), (2, u "law"), (0, u "(IIII)Z")] 3

def k1m0 : Method := { name := "<init>", desc := "()V", sig := { parameters := [], returnType := none }, accessFlags := 1, code := none }
def k1c1 : Code := { maxStack := 3, maxLocals := 18, code := code, exceptionTable := #[], attributes := #[] }
def k1m1 : Method := { name := "law", desc := "(IIII)Z", sig := { parameters := [.int, .int, .int, .int], returnType := some .boolean }, accessFlags := 9, code := some k1c1 }
/-- com/example/rhizome/rhizome/tableau/LabelTruncatePinLaw -/
def k1 : Class := { plain "com/example/rhizome/rhizome/tableau/LabelTruncatePinLaw" (some 0) with
  accessFlags := 49
  interfaces := #[]
  cf := some (fileOf pool1 39 #[] #[{ accessFlags := 1, nameIndex := 5, descriptorIndex := 6, attributes := #[] }, { accessFlags := 9, nameIndex := 43, descriptorIndex := 44, attributes := #[] }] 49 2 #[] #[])
  fields := #[]
  methods := #[k1m0, k1m1]
  instanceTypes := #[]
  staticTypes := #[]
  resolved := Array.replicate 48 none
  statics := none }

def pool2 : Array CpInfo := pool [(1, .methodref 2 3), (0, .class_ 4), (0, .nameAndType 5 6), (0, u "java/lang/Object"), (0, u "<init>"), (0, u "()V"), (0, .fieldref 8 9), (0, .class_ 10), (0, .nameAndType 11 12), (0, u "com/example/rhizome/rhizome/tableau/Label"), (0, u "concepts"), (0, u "[I"), (0, .class_ 14), (0, u "com/example/rhizome/rhizome/tableau/DependencySet"), (0, .fieldref 8 16), (0, .nameAndType 17 18), (0, u "dependencies"), (0, u "[Lcom/example/rhizome/rhizome/tableau/DependencySet;"), (0, .fieldref 8 20), (0, .nameAndType 21 12), (0, u "slots"), (0, .fieldref 8 23), (0, .nameAndType 24 25), (0, u "size"), (0, u "I"), (0, .methodref 8 27), (0, .nameAndType 28 29), (0, u "hash"), (0, u "(I)I"), (0, .methodref 8 31), (0, .nameAndType 32 29), (0, u "position"), (0, .methodref 8 34), (0, .nameAndType 35 36), (0, u "contains"), (0, u "(I)Z"), (10, .methodref 8 48), (0, .nameAndType 49 50), (0, u "index"), (0, u "(I)V"), (12, .integer 2654435769), (0, u "EMPTY_SLOT"), (4, u "()I"), (4, u "add"), (0, u "(ILcom/example/rhizome/rhizome/tableau/DependencySet;)Z"), (0, u "truncate")] 7

def k2c0 : Code := { maxStack := 2, maxLocals := 1, code := prog_11_method_1_code, exceptionTable := #[], attributes := #[] }
def k2m0 : Method := { name := "<init>", desc := "()V", sig := { parameters := [], returnType := none }, accessFlags := 0, code := some k2c0 }
def k2c1 : Code := { maxStack := 1, maxLocals := 1, code := prog_11_method_2_code, exceptionTable := #[], attributes := #[] }
def k2m1 : Method := { name := "size", desc := "()I", sig := { parameters := [], returnType := some .int }, accessFlags := 0, code := some k2c1 }
def k2c2 : Code := { maxStack := 3, maxLocals := 5, code := prog_11_method_5_code, exceptionTable := #[], attributes := #[] }
def k2m2 : Method := { name := "position", desc := "(I)I", sig := { parameters := [.int], returnType := some .int }, accessFlags := 0, code := some k2c2 }
def k2c3 : Code := { maxStack := 2, maxLocals := 2, code := prog_11_method_6_code, exceptionTable := #[], attributes := #[] }
def k2m3 : Method := { name := "contains", desc := "(I)Z", sig := { parameters := [.int], returnType := some .boolean }, accessFlags := 0, code := some k2c3 }
def k2c4 : Code := { maxStack := 4, maxLocals := 4, code := prog_11_method_7_code, exceptionTable := #[], attributes := #[] }
def k2m4 : Method := { name := "add", desc := "(ILcom/example/rhizome/rhizome/tableau/DependencySet;)Z", sig := { parameters := [.int, (.object "com/example/rhizome/rhizome/tableau/DependencySet")], returnType := some .boolean }, accessFlags := 0, code := some k2c4 }
def k2c5 : Code := { maxStack := 3, maxLocals := 4, code := prog_11_method_8_code, exceptionTable := #[], attributes := #[] }
def k2m5 : Method := { name := "truncate", desc := "(I)V", sig := { parameters := [.int], returnType := none }, accessFlags := 0, code := some k2c5 }
def k2c6 : Code := { maxStack := 4, maxLocals := 4, code := prog_11_method_13_code, exceptionTable := #[], attributes := #[] }
def k2m6 : Method := { name := "index", desc := "(I)V", sig := { parameters := [.int], returnType := none }, accessFlags := 2, code := some k2c6 }
def k2c7 : Code := { maxStack := 3, maxLocals := 2, code := prog_11_method_14_code, exceptionTable := #[], attributes := #[] }
def k2m7 : Method := { name := "hash", desc := "(I)I", sig := { parameters := [.int], returnType := some .int }, accessFlags := 10, code := some k2c7 }
/-- com/example/rhizome/rhizome/tableau/Label -/
def k2 : Class := { plain "com/example/rhizome/rhizome/tableau/Label" (some 0) with
  accessFlags := 32
  interfaces := #[]
  cf := some (fileOf pool2 8 #[] #[{ accessFlags := 0, nameIndex := 5, descriptorIndex := 6, attributes := #[] }, { accessFlags := 0, nameIndex := 24, descriptorIndex := 69, attributes := #[] }, { accessFlags := 0, nameIndex := 32, descriptorIndex := 29, attributes := #[] }, { accessFlags := 0, nameIndex := 35, descriptorIndex := 36, attributes := #[] }, { accessFlags := 0, nameIndex := 74, descriptorIndex := 75, attributes := #[] }, { accessFlags := 0, nameIndex := 76, descriptorIndex := 50, attributes := #[] }, { accessFlags := 2, nameIndex := 49, descriptorIndex := 50, attributes := #[] }, { accessFlags := 10, nameIndex := 28, descriptorIndex := 29, attributes := #[] }] 32 2 #[] #[{ accessFlags := 26, nameIndex := 64, descriptorIndex := 25, attributes := #[] }, { accessFlags := 2, nameIndex := 11, descriptorIndex := 12, attributes := #[] }, { accessFlags := 2, nameIndex := 17, descriptorIndex := 18, attributes := #[] }, { accessFlags := 2, nameIndex := 24, descriptorIndex := 25, attributes := #[] }, { accessFlags := 2, nameIndex := 21, descriptorIndex := 12, attributes := #[] }])
  fields := #[{ name := "EMPTY_SLOT", type := .int, accessFlags := 26, slot := 0, constantValue := 0 }, { name := "concepts", type := (.array .int), accessFlags := 2, slot := 0, constantValue := 0 }, { name := "dependencies", type := (.array (.object "com/example/rhizome/rhizome/tableau/DependencySet")), accessFlags := 2, slot := 1, constantValue := 0 }, { name := "size", type := .int, accessFlags := 2, slot := 2, constantValue := 0 }, { name := "slots", type := (.array .int), accessFlags := 2, slot := 3, constantValue := 0 }]
  methods := #[k2m0, k2m1, k2m2, k2m3, k2m4, k2m5, k2m6, k2m7]
  instanceTypes := #[(.array .int), (.array (.object "com/example/rhizome/rhizome/tableau/DependencySet")), .int, (.array .int)]
  staticTypes := #[.int]
  resolved := Array.replicate 84 none
  statics := none }

def pool3 : Array CpInfo := pool [(2, .class_ 4), (1, u "java/lang/Object"), (3, .class_ 10), (1, u "com/example/rhizome/rhizome/tableau/DependencySet"), (0, u "words"), (0, u "[J"), (41, u "EMPTY"), (0, u "Lcom/example/rhizome/rhizome/tableau/DependencySet;")] 17

/-- com/example/rhizome/rhizome/tableau/DependencySet -/
def k3 : Class := { plain "com/example/rhizome/rhizome/tableau/DependencySet" (some 0) with
  accessFlags := 32
  interfaces := #[]
  cf := some (fileOf pool3 8 #[] #[] 32 2 #[] #[{ accessFlags := 24, nameIndex := 54, descriptorIndex := 55, attributes := #[] }, { accessFlags := 18, nameIndex := 11, descriptorIndex := 12, attributes := #[] }])
  fields := #[{ name := "EMPTY", type := (.object "com/example/rhizome/rhizome/tableau/DependencySet"), accessFlags := 24, slot := 0, constantValue := 0 }, { name := "words", type := (.array .long), accessFlags := 18, slot := 0, constantValue := 0 }]
  methods := #[]
  instanceTypes := #[(.array .long)]
  staticTypes := #[(.object "com/example/rhizome/rhizome/tableau/DependencySet")]
  resolved := Array.replicate 73 none
  statics := some 0 }

def pool4 : Array CpInfo := pool [(1, .class_ 2), (0, u "java/lang/Math"), (1, .class_ 6), (1, u "java/lang/Object"), (0, u "<init>"), (0, u "()V"), (89, .class_ 100), (1, u "java/lang/Math$RandomNumberGeneratorHolder"), (71, u "negativeZeroFloatBits"), (0, u "J"), (2, u "negativeZeroDoubleBits"), (24, u "min"), (43, u "$assertionsDisabled"), (0, u "Z"), (88, u "(II)I"), (2, u "twoToTheDoubleScaleDown"), (0, u "D"), (4, u "twoToTheDoubleScaleUp"), (9, u "E"), (3, u "PI"), (2, u "TAU"), (2, u "DEGREES_TO_RADIANS"), (0, u "RADIANS_TO_DEGREES")] 94

def k4m0 : Method := { name := "<init>", desc := "()V", sig := { parameters := [], returnType := none }, accessFlags := 2, code := none }
def k4c1 : Code := { maxStack := 2, maxLocals := 2, code := jdk_29_method_69_code, exceptionTable := #[], attributes := #[] }
def k4m1 : Method := { name := "min", desc := "(II)I", sig := { parameters := [.int, .int], returnType := some .int }, accessFlags := 9, code := some k4c1 }
/-- java/lang/Math -/
def k4 : Class := { plain "java/lang/Math" (some 0) with
  accessFlags := 49
  interfaces := #[]
  cf := some (fileOf pool4 1 #[.nestMembers #[98]] #[{ accessFlags := 2, nameIndex := 7, descriptorIndex := 8, attributes := #[] }, { accessFlags := 9, nameIndex := 201, descriptorIndex := 335, attributes := #[] }] 49 4 #[] #[{ accessFlags := 25, nameIndex := 354, descriptorIndex := 339, attributes := #[] }, { accessFlags := 25, nameIndex := 358, descriptorIndex := 339, attributes := #[] }, { accessFlags := 25, nameIndex := 361, descriptorIndex := 339, attributes := #[] }, { accessFlags := 26, nameIndex := 364, descriptorIndex := 339, attributes := #[] }, { accessFlags := 26, nameIndex := 365, descriptorIndex := 339, attributes := #[] }, { accessFlags := 26, nameIndex := 172, descriptorIndex := 173, attributes := #[] }, { accessFlags := 26, nameIndex := 176, descriptorIndex := 173, attributes := #[] }, { accessFlags := 8, nameIndex := 344, descriptorIndex := 339, attributes := #[] }, { accessFlags := 8, nameIndex := 338, descriptorIndex := 339, attributes := #[] }, { accessFlags := 4120, nameIndex := 245, descriptorIndex := 246, attributes := #[] }])
  fields := #[{ name := "E", type := .double, accessFlags := 25, slot := 0, constantValue := 0 }, { name := "PI", type := .double, accessFlags := 25, slot := 1, constantValue := 0 }, { name := "TAU", type := .double, accessFlags := 25, slot := 2, constantValue := 0 }, { name := "DEGREES_TO_RADIANS", type := .double, accessFlags := 26, slot := 3, constantValue := 0 }, { name := "RADIANS_TO_DEGREES", type := .double, accessFlags := 26, slot := 4, constantValue := 0 }, { name := "negativeZeroFloatBits", type := .long, accessFlags := 26, slot := 5, constantValue := 0 }, { name := "negativeZeroDoubleBits", type := .long, accessFlags := 26, slot := 6, constantValue := 0 }, { name := "twoToTheDoubleScaleUp", type := .double, accessFlags := 8, slot := 7, constantValue := 0 }, { name := "twoToTheDoubleScaleDown", type := .double, accessFlags := 8, slot := 8, constantValue := 0 }, { name := "$assertionsDisabled", type := .boolean, accessFlags := 4120, slot := 9, constantValue := 0 }]
  methods := #[k4m0, k4m1]
  instanceTypes := #[]
  staticTypes := #[.double, .double, .double, .double, .double, .long, .long, .double, .double, .boolean]
  resolved := Array.replicate 460 none
  statics := none }

def pool5 : Array CpInfo := pool [(1, u "java/lang/Cloneable"), (0, .class_ 1), (0, u "java/lang/Object"), (0, .class_ 3)] 3

/-- java/lang/Cloneable -/
def k5 : Class := { plain "java/lang/Cloneable" (some 0) with
  accessFlags := 1537
  interfaces := #[]
  cf := some (fileOf pool5 2 #[] #[] 1537 4 #[] #[])
  fields := #[]
  methods := #[]
  instanceTypes := #[]
  staticTypes := #[]
  resolved := Array.replicate 8 none
  statics := none }

def pool6 : Array CpInfo := pool [(1, u "java/io/Serializable"), (0, .class_ 1), (0, u "java/lang/Object"), (0, .class_ 3)] 3

/-- java/io/Serializable -/
def k6 : Class := { plain "java/io/Serializable" (some 0) with
  accessFlags := 1537
  interfaces := #[]
  cf := some (fileOf pool6 2 #[] #[] 1537 4 #[] #[])
  fields := #[]
  methods := #[]
  instanceTypes := #[]
  staticTypes := #[]
  resolved := Array.replicate 8 none
  statics := none }

/-- the primitive byte -/
def k7 : Class := { plain "byte" none with kind := .primitive 'B', accessFlags := 0x411 }
/-- [B -/
def k8 : Class := { plain "[B" (some 0) with kind := .array 7 .byte, interfaces := #[5, 6], accessFlags := 1041 }

/-- the primitive int -/
def k9 : Class := { plain "int" none with kind := .primitive 'I', accessFlags := 0x411 }
/-- [I -/
def k10 : Class := { plain "[I" (some 0) with kind := .array 9 .int, interfaces := #[5, 6], accessFlags := 1041 }

/-- [Lcom/example/rhizome/rhizome/tableau/DependencySet; -/
def k11 : Class := { plain "[Lcom/example/rhizome/rhizome/tableau/DependencySet;" (some 0) with kind := .array 3 (.object "com/example/rhizome/rhizome/tableau/DependencySet"), interfaces := #[5, 6], accessFlags := 1041 }

def heap : Heap := #[{ cls := 3, slots := #[.ref 1], vm := .statics 3 },
  { cls := 3, slots := #[.null], vm := .none }]
def classes : Array Class := #[k0, k1, k2, k3, k4, k5, k6, k7, k8, k9, k10, k11]
def interned : List (Array UInt16 × Addr) := []
def slotsUsed : Nat := 2
def theMethod : MethodId := ⟨1, 1⟩
def args0 : Array Value := #[.int 1, .int 2, .int 3, .int 4]
def aboutOver (below : List Frame) : State where
  vm := { classes := classes, interned := interned.toArray }
  heap := heap
  slotsUsed := slotsUsed
  threads := #[{ frames := .invoking theMethod args0 :: below }]
def below0 : List Frame := [.native { method := ⟨0, 0⟩, args := #[] }]
def about1 : State := aboutOver below0
def p0 : Program := .bare "" "" ""
def e0 : Env := launch0.env 0 0 0
theorem w_frames : about1.frames = Frame.invoking theMethod args0 :: below0 := rfl
set_option maxRecDepth 65536 in
theorem w_args : argsFit about1.vm theMethod args0 = true := by decide +kernel
set_option maxRecDepth 65536 in
theorem w_heap : heapFits about1 = true := by decide +kernel
set_option maxRecDepth 65536 in
theorem w_runnable : about1.curStatus? = some .runnable := by decide +kernel
set_option maxRecDepth 65536 in
theorem w_alone : about1.alone = true := by decide +kernel
set_option maxRecDepth 65536 in
theorem w_named : about1.methodNamed? x = some theMethod := by decide +kernel
set_option maxRecDepth 65536 in
theorem w_hears : about1.hears theMethod below0 = true := by decide +kernel
set_option maxRecDepth 65536 in
theorem w_ripe : about1.ripe theMethod args0 below0 = true := by decide +kernel
theorem w_running : about1.status = .running := rfl
set_option maxRecDepth 65536 in
theorem w_room : about1.hasRoom e0.platform room_1 = true :=
  launch0.hasRoom_least _ room_1 (by decide +kernel) (by decide +kernel) (by decide +kernel) (by decide +kernel) (by decide +kernel) (by decide +kernel)
theorem allAtoms_all (ts : List Jvm.Cond) (a : Array Jvm.Value) (st : Jvm.State) : (allAtoms ts).before a st = ts.all (fun c => c.before a st) := by
  induction ts with
  | nil => rfl
  | cons c t ih =>
    show (Jvm.Cond.and c (allAtoms t)).before a st = _
    rw [Jvm.Cond.before_and, ih, List.all_cons]
def words1 : List Jvm.Cond := Jvm.Cond.code x code maxLocals ret :: tables_1
/-- a 'code' word, met by the world's own term for the bytes: nothing is compared byte by byte -/
theorem code_word {y : MethodName} {bytes : ByteArray} {mx : Nat} {rt : Option FieldType} {a : Array Value} {s : State} {m : MethodId} {meth : Method} {c : Code} (h1 : s.methodNamed? y = some m) (h2 : s.vm.method? m = some meth) (h3 : meth.code = some c) (h4 : c.code = bytes)
    (h5 : (c.maxLocals == mx && c.exceptionTable.isEmpty && decide (c.maxStack ≤ mostOperands) && decide (meth.sig.returnType = rt) && !meth.locks && decide (parseMethodDescriptor y.desc = some meth.sig)) = true) : (Jvm.Cond.code y bytes mx rt).before a s = true := by
  simp only [Bool.and_eq_true, beq_iff_eq, Bool.not_eq_true', decide_eq_true_eq] at h5
  obtain ⟨⟨⟨⟨⟨g1, g2⟩, g3⟩, g4⟩, g5⟩, g6⟩ := h5
  simp [Cond.before, Cond.holds, Cond.value, h1, h2, h3, h4, g1, g2, g3, g4, g5, g6]
def isCode : Jvm.Cond → Bool
  | .code _ _ _ _ => true
  | _ => false
theorem all_split {L : List Jvm.Cond} {P : Jvm.Cond → Bool} (h1 : L.all (fun c => isCode c || P c) = true) (h2 : ∀ c ∈ L.filter isCode, P c = true) : L.all P = true := by
  refine List.all_eq_true.mpr fun c hc => ?_
  have h := List.all_eq_true.mp h1 c hc
  rcases Bool.eq_false_or_eq_true (isCode c) with hi | hi
  · exact h2 c (List.mem_filter.mpr ⟨hc, hi⟩)
  · simpa [hi] using h
set_option maxRecDepth 65536 in
theorem w_c0 : (Jvm.Cond.code x code maxLocals ret).before args0 about1 = true := code_word (m := ⟨1, 1⟩) (meth := k1m1) (c := k1c1) (by decide +kernel) rfl rfl rfl (by decide +kernel)
set_option maxRecDepth 65536 in
theorem w_c1 : (Jvm.Cond.code ({ cls := "com/example/rhizome/rhizome/tableau/Label", name := "<init>", desc := "()V" } : Jvm.MethodName) prog_11_method_1_code (1 : Nat) (Option.none : Option Jvm.ClassFile.FieldType)).before args0 about1 = true := code_word (m := ⟨2, 0⟩) (meth := k2m0) (c := k2c0) (by decide +kernel) rfl rfl rfl (by decide +kernel)
set_option maxRecDepth 65536 in
theorem w_c2 : (Jvm.Cond.code ({ cls := "java/lang/Object", name := "<init>", desc := "()V" } : Jvm.MethodName) object_method_1_code (1 : Nat) (Option.none : Option Jvm.ClassFile.FieldType)).before args0 about1 = true := code_word (m := ⟨0, 0⟩) (meth := k0m0) (c := k0c0) (by decide +kernel) rfl rfl rfl (by decide +kernel)
set_option maxRecDepth 65536 in
theorem w_c3 : (Jvm.Cond.code ({ cls := "com/example/rhizome/rhizome/tableau/Label", name := "add", desc := "(ILcom/example/rhizome/rhizome/tableau/DependencySet;)Z" } : Jvm.MethodName) prog_11_method_7_code (4 : Nat) (Option.some Jvm.ClassFile.FieldType.boolean)).before args0 about1 = true := code_word (m := ⟨2, 4⟩) (meth := k2m4) (c := k2c4) (by decide +kernel) rfl rfl rfl (by decide +kernel)
set_option maxRecDepth 65536 in
theorem w_c4 : (Jvm.Cond.code ({ cls := "com/example/rhizome/rhizome/tableau/Label", name := "contains", desc := "(I)Z" } : Jvm.MethodName) prog_11_method_6_code (2 : Nat) (Option.some Jvm.ClassFile.FieldType.boolean)).before args0 about1 = true := code_word (m := ⟨2, 3⟩) (meth := k2m3) (c := k2c3) (by decide +kernel) rfl rfl rfl (by decide +kernel)
set_option maxRecDepth 65536 in
theorem w_c5 : (Jvm.Cond.code ({ cls := "com/example/rhizome/rhizome/tableau/Label", name := "position", desc := "(I)I" } : Jvm.MethodName) prog_11_method_5_code (5 : Nat) (Option.some Jvm.ClassFile.FieldType.int)).before args0 about1 = true := code_word (m := ⟨2, 2⟩) (meth := k2m2) (c := k2c2) (by decide +kernel) rfl rfl rfl (by decide +kernel)
set_option maxRecDepth 65536 in
theorem w_c6 : (Jvm.Cond.code ({ cls := "com/example/rhizome/rhizome/tableau/Label", name := "hash", desc := "(I)I" } : Jvm.MethodName) prog_11_method_14_code (2 : Nat) (Option.some Jvm.ClassFile.FieldType.int)).before args0 about1 = true := code_word (m := ⟨2, 7⟩) (meth := k2m7) (c := k2c7) (by decide +kernel) rfl rfl rfl (by decide +kernel)
set_option maxRecDepth 65536 in
theorem w_c7 : (Jvm.Cond.code ({ cls := "com/example/rhizome/rhizome/tableau/Label", name := "index", desc := "(I)V" } : Jvm.MethodName) prog_11_method_13_code (4 : Nat) (Option.none : Option Jvm.ClassFile.FieldType)).before args0 about1 = true := code_word (m := ⟨2, 6⟩) (meth := k2m6) (c := k2c6) (by decide +kernel) rfl rfl rfl (by decide +kernel)
set_option maxRecDepth 65536 in
theorem w_c8 : (Jvm.Cond.code ({ cls := "com/example/rhizome/rhizome/tableau/Label", name := "truncate", desc := "(I)V" } : Jvm.MethodName) prog_11_method_8_code (4 : Nat) (Option.none : Option Jvm.ClassFile.FieldType)).before args0 about1 = true := code_word (m := ⟨2, 5⟩) (meth := k2m5) (c := k2c5) (by decide +kernel) rfl rfl rfl (by decide +kernel)
set_option maxRecDepth 65536 in
theorem w_c9 : (Jvm.Cond.code ({ cls := "java/lang/Math", name := "min", desc := "(II)I" } : Jvm.MethodName) jdk_29_method_69_code (2 : Nat) (Option.some Jvm.ClassFile.FieldType.int)).before args0 about1 = true := code_word (m := ⟨4, 1⟩) (meth := k4m1) (c := k4c1) (by decide +kernel) rfl rfl rfl (by decide +kernel)
set_option maxRecDepth 65536 in
theorem w_c10 : (Jvm.Cond.code ({ cls := "com/example/rhizome/rhizome/tableau/Label", name := "size", desc := "()I" } : Jvm.MethodName) prog_11_method_2_code (1 : Nat) (Option.some Jvm.ClassFile.FieldType.int)).before args0 about1 = true := code_word (m := ⟨2, 1⟩) (meth := k2m1) (c := k2c1) (by decide +kernel) rfl rfl rfl (by decide +kernel)
def codes1 : List Jvm.Cond := [Jvm.Cond.code x code maxLocals ret, Jvm.Cond.code ({ cls := "com/example/rhizome/rhizome/tableau/Label", name := "<init>", desc := "()V" } : Jvm.MethodName) prog_11_method_1_code (1 : Nat) (Option.none : Option Jvm.ClassFile.FieldType), Jvm.Cond.code ({ cls := "java/lang/Object", name := "<init>", desc := "()V" } : Jvm.MethodName) object_method_1_code (1 : Nat) (Option.none : Option Jvm.ClassFile.FieldType), Jvm.Cond.code ({ cls := "com/example/rhizome/rhizome/tableau/Label", name := "add", desc := "(ILcom/example/rhizome/rhizome/tableau/DependencySet;)Z" } : Jvm.MethodName) prog_11_method_7_code (4 : Nat) (Option.some Jvm.ClassFile.FieldType.boolean), Jvm.Cond.code ({ cls := "com/example/rhizome/rhizome/tableau/Label", name := "contains", desc := "(I)Z" } : Jvm.MethodName) prog_11_method_6_code (2 : Nat) (Option.some Jvm.ClassFile.FieldType.boolean), Jvm.Cond.code ({ cls := "com/example/rhizome/rhizome/tableau/Label", name := "position", desc := "(I)I" } : Jvm.MethodName) prog_11_method_5_code (5 : Nat) (Option.some Jvm.ClassFile.FieldType.int), Jvm.Cond.code ({ cls := "com/example/rhizome/rhizome/tableau/Label", name := "hash", desc := "(I)I" } : Jvm.MethodName) prog_11_method_14_code (2 : Nat) (Option.some Jvm.ClassFile.FieldType.int), Jvm.Cond.code ({ cls := "com/example/rhizome/rhizome/tableau/Label", name := "index", desc := "(I)V" } : Jvm.MethodName) prog_11_method_13_code (4 : Nat) (Option.none : Option Jvm.ClassFile.FieldType), Jvm.Cond.code ({ cls := "com/example/rhizome/rhizome/tableau/Label", name := "truncate", desc := "(I)V" } : Jvm.MethodName) prog_11_method_8_code (4 : Nat) (Option.none : Option Jvm.ClassFile.FieldType), Jvm.Cond.code ({ cls := "java/lang/Math", name := "min", desc := "(II)I" } : Jvm.MethodName) jdk_29_method_69_code (2 : Nat) (Option.some Jvm.ClassFile.FieldType.int), Jvm.Cond.code ({ cls := "com/example/rhizome/rhizome/tableau/Label", name := "size", desc := "()I" } : Jvm.MethodName) prog_11_method_2_code (1 : Nat) (Option.some Jvm.ClassFile.FieldType.int)]
set_option maxRecDepth 65536 in
theorem codes_eq : words1.filter isCode = codes1 := rfl
theorem w_codes : ∀ c ∈ words1.filter isCode, c.before args0 about1 = true := by
  rw [codes_eq]
  intro c hc
  simp only [codes1, List.mem_cons, List.not_mem_nil, or_false] at hc
  rcases hc with rfl | rfl | rfl | rfl | rfl | rfl | rfl | rfl | rfl | rfl | rfl
  · exact w_c0
  · exact w_c1
  · exact w_c2
  · exact w_c3
  · exact w_c4
  · exact w_c5
  · exact w_c6
  · exact w_c7
  · exact w_c8
  · exact w_c9
  · exact w_c10
set_option maxRecDepth 65536 in
theorem w_t1 : (words1.take 24).all (fun c => isCode c || c.before args0 about1) = true := by decide +kernel
set_option maxRecDepth 65536 in
theorem w_t2 : ((words1.drop 24).take 24).all (fun c => isCode c || c.before args0 about1) = true := by decide +kernel
set_option maxRecDepth 65536 in
theorem w_t3 : ((words1.drop 24).drop 24).all (fun c => isCode c || c.before args0 about1) = true := by decide +kernel
theorem w_tables : (allAtoms (Jvm.Cond.code x code maxLocals ret :: tables_1)).before args0 about1 = true := by
  rw [allAtoms_all]
  show words1.all (fun c => c.before args0 about1) = true
  refine all_split ?_ w_codes
  rw [← List.take_append_drop 24 words1, List.all_append, w_t1, ← List.take_append_drop 24 (words1.drop 24), List.all_append, w_t2, w_t3]
  rfl
set_option maxRecDepth 65536 in
theorem w_case : (Jvm.Cond.and given_1 narrow_1).before args0 about1 = true := by decide +kernel
theorem w_applies : (headSpec (Jvm.Cond.code x code maxLocals ret :: tables_1) room_1).applies x e0.platform about1 = true :=
  (Spec.applies_iff w_frames).mpr ⟨w_running, w_runnable, w_alone, w_named, w_hears, w_ripe, w_room, w_tables⟩
theorem atStart : AtStart classFile x code maxLocals ret World_1 tables_1 room_1 Calls_1 rest_1 Pre_1 launch0 p0 e0 about1 theMethod args0 below0 :=
  ⟨lists_1, trivial, launch0.admits_env _ _ _, launch0.least_env, fairChoices_fair.cas, fairChoices_fair.clock, w_frames, w_args, w_heap, w_applies, trivial, trivial, w_case⟩
end start1
theorem witness_1 : WitnessClaimed_1 := ⟨start1.p0, start1.e0, start1.about1, start1.theMethod, start1.args0, start1.below0, start1.atStart⟩
end Jvm.Pilot.@@N@@
