import JvmDerived
import JvmDerived.Pilot.@@N@@Statement
import JvmDerived.Pilot.@@N@@Code
set_option linter.unusedVariables false
set_option linter.unusedSimpArgs false
@@BLOCK:HandJ.lean.txt@@
@@BLOCK:NumsL.lean.txt@@
@@BLOCK:SymMore.lean.txt@@
namespace Jvm.Pilot.@@N@@
open Jvm Jvm.ClassFile Sem Op Lib Jvm.Free Jvm.Stand Jvm.LawKit Jvm.RoadKit Bundle Jvm.Pilot.@@N@@.Jvm.D
/-! ## own_..: a layer of continuations over the library's laws: a walk that may branch -/
/-- from T with the frame g on top the run comes to an end of which P holds -/
def own_Fin (p : Program) (e : Env) (below : List Frame) (P : Outcome → State → Prop) (T : State) (g : JFrame) : Prop :=
  ∃ s₂ o, Steps p.tables e below (T.setTop g) s₂ ∧ s₂.status = .running ∧ Ended s₂ below o ∧ P o s₂
/-- what is known of the method that is walked -/
def own_Ctx (p : Program) (Z s : State) (m : MethodId) (meth : Method) (c : Code) (cls : String) (bytes : ByteArray) (maxL : Nat) (ret : Option FieldType) (nm : String) : Prop :=
  p.tables.exec = Jvm.exec ∧ Z.Warmed39 s.vm ∧ c.code = bytes ∧ c.maxLocals = maxL ∧ s.vm.findClass cls = some m.cls ∧ meth.sig.returnType = ret ∧ meth.locks = false ∧ meth.name = nm
/-- the walk's end: it returns v, Q says what it leaves -/
def own_P (s : State) (rm : Room) (Q : Option Value → Heap → List Loc → Prop) : Outcome → State → Prop :=
  fun o t => ∃ v L, o = .returned v ∧ Q v t.heap L ∧ FrameEnd s o t L rm.cells rm.slots
/-- a method's contract at one heap and one list of arguments -/
def own_Met (l : Launch) (Z : State) (y : MethodName) (bytes : ByteArray) (maxL : Nat) (ret : Option FieldType) (rm : Room) (as' : Array Value) (h : Heap) (Q : Option Value → Heap → List Loc → Prop) : Prop :=
  ∀ ws, MetFree l y (head1 (Jvm.Cond.code y bytes maxL ret :: ws) rm) (fun a U => a = as' ∧ Z.Warmed39 U.vm ∧ U.heap = h) (fun _ _ _ _ _ => True) (fun _ U o U' => ∃ v L, o = .returned v ∧ Q v U'.heap L ∧ FrameEnd U o U' L rm.cells rm.slots)
theorem own_enter {l : Launch} {Z : State} {y : MethodName} {bytes : ByteArray} {maxL : Nat} {ret : Option FieldType} {rm : Room} {as' : Array Value} {h : Heap} {Q : Option Value → Heap → List Loc → Prop} {Ls : Array Slot}
    (hpl : plainFor y = true) (hef : ∀ m, entryFrame m as' maxL = mkF m 0 Ls [])
    (body : ∀ (p : Program) (e : Env) (s : State) (m : MethodId) (below : List Frame) (meth : Method) (c : Code) (T : State), own_Ctx p Z s m meth c y.cls bytes maxL ret y.name → Stand p l e rm s m as' below meth c T [] 0 0 → T.heap = h → own_Fin p e below (own_P s rm Q) T (mkF m 0 Ls [])) :
    own_Met l Z y bytes maxL ret rm as' h Q := by
  intro ws
  refine MetFree.of_bodySF hpl hisR ?_
  intro p e s m args below meth c s₁ Bd hml0 hP hK
  obtain ⟨rfl, hZ, hh⟩ := hP
  have q := body p e s m below meth c s₁ ⟨Bd.exec, hZ, Bd.bytes, hml0, findClass_of_methodNamed Bd.named, Bd.returns, BodyLoose.notSynchronized Bd, (name_of_methodNamed Bd.named Bd.method).1⟩ (Stand.of_body Bd) (by rw [← hh, Bd.state]; rfl)
  rw [← hef m] at q
  exact q
/-- what a method leaves that writes nothing: the value, and the heap as it was -/
def own_QI (r : Int32) (h0 : Heap) (n0 : Nat) (v : Option Value) (h : Heap) (L : List Loc) : Prop := v = some (.int r) ∧ Fr n0 L ∧ h = h0
def own_QJ (r : Int64) (h0 : Heap) (n0 : Nat) (v : Option Value) (h : Heap) (L : List Loc) : Prop := v = some (.long r) ∧ Fr n0 L ∧ h = h0
def own_QR (r : Value) (h0 : Heap) (n0 : Nat) (v : Option Value) (h : Heap) (L : List Loc) : Prop := v = some r ∧ Fr n0 L ∧ h = h0
def own_QV (h0 : Heap) (n0 : Nat) (v : Option Value) (h : Heap) (L : List Loc) : Prop := v = none ∧ Fr n0 L ∧ h = h0
/-- what a law leaves: true -/
def own_Q1 (n0 : Nat) (v : Option Value) (h : Heap) (L : List Loc) : Prop := v = some (.int 1) ∧ Fr n0 L
theorem own_lrem_eq (x y : Int64) : x - (x / y) * y = x % y := Int64.toInt_inj.mp ((Jvm.Kit.i64_rem x y).trans (Int64.toInt_mod x y).symm)
theorem own_lrem {tb : Tables} [Ours tb] {e : Env} {below : List Frame} {T target : State} {m : MethodId} {c : Code} {g : JFrame} (h : At T m c below) (hx : tb.exec = Jvm.exec) (hg : g.method = m) {x y : Int64} {rest : List Value} (hd : decode c.code g.pc = .ok (.lrem, 1)) (hs : g.stack = .long y :: .long x :: rest) (hy : y ≠ 0)
    (hr : Steps tb e below (T.setTop { g with pc := g.pc + 1, stack := .long (x % y) :: rest }) target) : Steps tb e below (T.setTop g) target :=
  XS.lrem h hx hg hd hs hy (by rw [own_lrem_eq]; exact hr)
section Own
variable {p : Program} {l : Launch} {e : Env} {R : Room} {s : State} {m : MethodId} {args : Array Value} {below : List Frame} {meth : Method} {c : Code} {T : State} {locs : List Loc} {cells slots : Nat} {Z : State} {a0 : Array Value} {h : Heap}
  {P : Outcome → State → Prop} {cls : String} {bytes : ByteArray} {maxL : Nat} {ret : Option FieldType} {nm : String} {Q : Option Value → Heap → List Loc → Prop}
theorem own_seg {T' : State} {g g' : JFrame} (st : ∀ t, Steps p.tables e below (T'.setTop g') t → Steps p.tables e below (T.setTop g) t) (k : own_Fin p e below P T' g') : own_Fin p e below P T g := by
  obtain ⟨s₂, o, h1, h2⟩ := k
  exact ⟨s₂, o, st _ h1, h2⟩
theorem own_mono (X : Stand p l e R s m args below meth c T locs cells slots) {cells' slots' : Nat} (h1 : cells ≤ cells') (h2 : slots ≤ slots') : Stand p l e R s m args below meth c T locs cells' slots' :=
  ⟨X.admits, X.cas, X.clock, X.frames, X.room, X.hears, X.method, X.code, X.here, X.tail, X.warmed, X.limits, X.bytes, X.same.mono h1 h2⟩
/-- the end of a walk -/
theorem own_out (K : own_Ctx p Z s m meth c cls bytes maxL ret nm) (X : Stand p l e R s m args below meth c T locs cells slots) {v : Option Value} (hv : ret = none → v = none) {g : JFrame}
    (st : ∀ fs, (∀ (f : JFrame) (acts : List Action), f.method = m → f.locked = none → f.entered = [] → (doReturn e (T.setTop f) acts v).1 = T.setFrames fs) → Steps p.tables e below (T.setTop g) (T.setFrames fs))
    (hQ : Q v T.heap locs) (hc : cells ≤ R.cells) (hs : slots ≤ R.slots) : own_Fin p e below (own_P s R Q) T g := by
  obtain ⟨hx, hZ, hby, hml, hown, hret, hlk, hnm⟩ := K
  obtain ⟨fs, hr, hrun, hended, hW, hsame⟩ := X.leave (v := v) (fun q => hv (hret ▸ q)) hlk
  exact ⟨_, _, st fs hr, hrun, hended, _, _, rfl, hQ, ⟨_, rfl⟩, hW, hsame.mono hc hs⟩
theorem own_retV (K : own_Ctx p Z s m meth c cls bytes maxL none nm) (X : Stand p l e R s m args below meth c T locs cells slots) {pc : Nat} {Ls : Array Slot} (hd : decode bytes pc = .ok (.return_, 1))
    (hQ : Q none T.heap locs) (hc : cells ≤ R.cells) (hs : slots ≤ R.slots) : own_Fin p e below (own_P s R Q) T (mkF m pc Ls []) :=
  own_out K X (fun _ => rfl) (fun fs hr => X.returnOut K.1 K.2.2.2.2.2.1 (hb K.2.2.1 hd) hr) hQ hc hs
theorem own_retO {t : FieldType} (K : own_Ctx p Z s m meth c cls bytes maxL (some t) nm) (X : Stand p l e R s m args below meth c T locs cells slots) {pc : Nat} {Ls : Array Slot} {w : Value} {i : Instr} {rest : List Value} (hn : narrow t w = w)
    (hi : (i = .ireturn ∧ (t = .int ∨ t = .boolean ∨ t = .byte ∨ t = .char ∨ t = .short) ∧ ∃ z, w = .int z) ∨ (i = .lreturn ∧ t = .long ∧ ∃ z, w = .long z) ∨ (i = .dreturn ∧ t = .double ∧ ∃ z, w = .double z) ∨ (i = .freturn ∧ t = .float ∧ ∃ z, w = .float z) ∨ (i = .areturn ∧ t.isReference = true ∧ w.isRef = true))
    (hd : decode bytes pc = .ok (i, 1)) (hQ : Q (some w) T.heap locs) (hc : cells ≤ R.cells) (hs : slots ≤ R.slots) : own_Fin p e below (own_P s R Q) T (mkF m pc Ls (w :: rest)) :=
  own_out K X (fun q => nomatch q) (fun fs hr => retOut X K.1 K.2.2.2.2.2.1 hn hi (hb K.2.2.1 hd) hr) hQ hc hs
theorem own_retI (K : own_Ctx p Z s m meth c cls bytes maxL (some .int) nm) (X : Stand p l e R s m args below meth c T locs cells slots) {pc : Nat} {Ls : Array Slot} {z : Int32} {rest : List Value}
    (hd : decode bytes pc = .ok (.ireturn, 1)) (hQ : Q (some (.int z)) T.heap locs) (hc : cells ≤ R.cells) (hs : slots ≤ R.slots) : own_Fin p e below (own_P s R Q) T (mkF m pc Ls (.int z :: rest)) :=
  own_retO K X rfl (Or.inl ⟨rfl, Or.inl rfl, z, rfl⟩) hd hQ hc hs
theorem own_retJ (K : own_Ctx p Z s m meth c cls bytes maxL (some .long) nm) (X : Stand p l e R s m args below meth c T locs cells slots) {pc : Nat} {Ls : Array Slot} {z : Int64} {rest : List Value}
    (hd : decode bytes pc = .ok (.lreturn, 1)) (hQ : Q (some (.long z)) T.heap locs) (hc : cells ≤ R.cells) (hs : slots ≤ R.slots) : own_Fin p e below (own_P s R Q) T (mkF m pc Ls (.long z :: rest)) :=
  own_retO K X rfl (Or.inr (Or.inl ⟨rfl, rfl, z, rfl⟩)) hd hQ hc hs
theorem own_retA {t : FieldType} (K : own_Ctx p Z s m meth c cls bytes maxL (some t) nm) (ht : t.isReference = true) (X : Stand p l e R s m args below meth c T locs cells slots) {pc : Nat} {Ls : Array Slot} {w : Value} {rest : List Value} (hw : w.isRef = true)
    (hd : decode bytes pc = .ok (.areturn, 1)) (hQ : Q (some w) T.heap locs) (hc : cells ≤ R.cells) (hs : slots ≤ R.slots) : own_Fin p e below (own_P s R Q) T (mkF m pc Ls (w :: rest)) :=
  own_retO K X (by cases t <;> first | rfl | (cases ht; done) | (rcases ref_cases hw with rfl | ⟨a, rfl⟩ <;> rfl)) (Or.inr (Or.inr (Or.inr (Or.inr ⟨rfl, ht, hw⟩)))) hd hQ hc hs
theorem own_retN {t : FieldType} (K : own_Ctx p Z s m meth c cls bytes maxL (some t) nm) (ht : t = .boolean ∨ t = .byte ∨ t = .char ∨ t = .short) (X : Stand p l e R s m args below meth c T locs cells slots) {pc : Nat} {Ls : Array Slot} {z : Int32} {rest : List Value}
    (hd : decode bytes pc = .ok (.ireturn, 1)) (hQ : Q (some (.int (nar t z))) T.heap locs) (hc : cells ≤ R.cells) (hs : slots ≤ R.slots) : own_Fin p e below (own_P s R Q) T (mkF m pc Ls (.int z :: rest)) :=
  own_out K X (fun q => nomatch q) (fun fs hr => retN X K.1 K.2.2.2.2.2.1 ht (hb K.2.2.1 hd) hr) hQ hc hs
/-! calls -/
theorem own_callS (K : own_Ctx p Z s m meth c cls bytes maxL ret nm) (X : Stand p l e R s m args below meth c T locs cells slots) (eT : T.heap = h) {y : MethodName} {yb : ByteArray} {yl : Nat} {yr : Option FieldType} {rm : Room} {as' : Array Value} {Q' : Option Value → Heap → List Loc → Prop}
    (M : own_Met l Z y yb yl yr rm as' h Q') {index : Nat} (w1 : (Jvm.Cond.methodLink cls index y).before a0 Z = true) (w2 : (Jvm.Cond.static y).before a0 Z = true) (w3 : (Jvm.Cond.initialized y.cls).before a0 Z = true) (w4 : (Jvm.Cond.code y yb yl yr).before a0 Z = true)
    (hy : y.cls ≠ "java/lang/invoke/MethodHandle" ∧ y.cls ≠ "java/lang/invoke/VarHandle") (argsL rest : List Value) {ps : List FieldType} {r : Option FieldType} (hpd : parseMethodDescriptor y.desc = some ⟨ps, r⟩) (hlen : argsL.length = ps.length) {pc : Nat} {Ls : Array Slot} {stk : List Value}
    (hstk : stk = argsL.reverse ++ rest) (has : argsL.toArray = as') (hsize : Ls.size = maxL) (hd : decode bytes pc = .ok (.invokestatic index, 3)) (hf : rm.frames + 1 ≤ R.frames) (hl : (rest.map fun v => v.category).sum + (yl + 11) + rm.locals ≤ R.locals) (hc : cells + rm.cells ≤ R.cells) (hs : slots + rm.slots ≤ R.slots)
    (k : ∀ (T' : State) (L : List Loc) (v : Option Value), Stand p l e R s m args below meth c T' (locs ++ L) (cells + rm.cells) (slots + rm.slots) → Q' v T'.heap L → own_Fin p e below P T' (mkF m (pc + 3) Ls (v.toList ++ rest))) :
    own_Fin p e below P T (mkF m pc Ls stk) := by
  obtain ⟨hx, hZ, hby, hml, hown, hret, hlk, hnm⟩ := K
  obtain ⟨v, _, ⟨T', L', k', n'⟩, -, X', ⟨L, hQ, l1, l2, l3⟩, st⟩ := Jvm.LawKit.callS X hx (y := y) hown (mvT hZ w1) (mvT hZ w2) (mvT hZ w3) (mvT hZ w4) hy (backOf (W := (rest.map fun v => v.category).sum) (M []) hZ w4 w3 hf hl) (g := mkF m pc Ls stk) rfl (hsize.trans hml.symm) (argsL := argsL) (rest := rest) (lenOf hpd hlen) hstk (by show 2 * 0 + _ ≤ _; omega) (hb hby hd) (fun _ _ => ⟨has, eT, hc, hs⟩)
  dsimp only [Pt.U, Pt.locs, Pt.cells, Pt.slots] at X' l1 l2 l3 st hQ
  subst l1 l2 l3
  exact own_seg st (k T' L v X' hQ)
theorem own_callI (K : own_Ctx p Z s m meth c cls bytes maxL ret nm) (X : Stand p l e R s m args below meth c T locs cells slots) (eT : T.heap = h) {y : MethodName} {yb : ByteArray} {yl : Nat} {rm : Room} {as' : Array Value} {Q' : Option Value → Heap → List Loc → Prop}
    (M : own_Met l Z y yb yl none rm as' h Q') (hy1 : y.name = "<init>") {index : Nat} (w1 : (Jvm.Cond.methodLink cls index y).before a0 Z = true) (w2 : (Jvm.Cond.instanceMethod y).before a0 Z = true) (w3 : (Jvm.Cond.initialized y.cls).before a0 Z = true) (w4 : (Jvm.Cond.code y yb yl none).before a0 Z = true)
    (hy : y.cls ≠ "java/lang/invoke/MethodHandle" ∧ y.cls ≠ "java/lang/invoke/VarHandle") (a : Addr) (argsL rest : List Value) {ps : List FieldType} {r : Option FieldType} (hpd : parseMethodDescriptor y.desc = some ⟨ps, r⟩) (hlen : argsL.length = ps.length) {pc : Nat} {Ls : Array Slot} {stk : List Value}
    (hstk : stk = argsL.reverse ++ .ref a :: rest) (has : (.ref a :: argsL).toArray = as') (hsize : Ls.size = maxL) (hd : decode bytes pc = .ok (.invokespecial index, 3)) (hf : rm.frames + 1 ≤ R.frames) (hl : (rest.map fun v => v.category).sum + (yl + 11) + rm.locals ≤ R.locals) (hc : cells + rm.cells ≤ R.cells) (hs : slots + rm.slots ≤ R.slots)
    (k : ∀ (T' : State) (L : List Loc) (v : Option Value), Stand p l e R s m args below meth c T' (locs ++ L) (cells + rm.cells) (slots + rm.slots) → Q' v T'.heap L → own_Fin p e below P T' (mkF m (pc + 3) Ls (v.toList ++ rest))) :
    own_Fin p e below P T (mkF m pc Ls stk) := by
  obtain ⟨hx, hZ, hby, hml, hown, hret, hlk, hnm⟩ := K
  obtain ⟨v, _, ⟨T', L', k', n'⟩, -, X', ⟨L, hQ, l1, l2, l3⟩, st⟩ := X.specialBack hx (y := y) hy1 hown (mvT hZ w1) (mvT hZ w2) (mvT hZ w4) hy (backOf (W := (rest.map fun v => v.category).sum) (M []) hZ w4 w3 hf hl) (g := mkF m pc Ls stk) rfl (hsize.trans hml.symm) (Steps.refl _) (a := a) (argsL := argsL) (rest := rest) (lenOf hpd hlen) hstk (by show 2 * 0 + _ ≤ _; omega) (hb hby hd) (fun _ _ => ⟨has, eT, hc, hs⟩)
  dsimp only [Pt.U, Pt.locs, Pt.cells, Pt.slots] at X' l1 l2 l3 st hQ
  subst l1 l2 l3
  exact own_seg (fun t q => st.trans q) (k T' L v X' hQ)
theorem own_callV (K : own_Ctx p Z s m meth c cls bytes maxL ret nm) (X : Stand p l e R s m args below meth c T locs cells slots) (eT : T.heap = h) {y z : MethodName} {yb : ByteArray} {yl : Nat} {yr : Option FieldType} {rm : Room} {as' : Array Value} {Q' : Option Value → Heap → List Loc → Prop}
    (M : own_Met l Z z yb yl yr rm as' h Q') {index : Nat} {C : String} (w1 : (Jvm.Cond.methodLink cls index y).before a0 Z = true) (w2 : (Jvm.Cond.declares y).before a0 Z = true) (nf : ∀ args, (Jvm.Cond.selects C y z).before args s = true → NotFace s y) (w5 : (Jvm.Cond.selects C y z).before a0 Z = true) (w6 : (Jvm.Cond.instanceMethod z).before a0 Z = true) (w3 : (Jvm.Cond.initialized z.cls).before a0 Z = true) (w4 : (Jvm.Cond.code z yb yl yr).before a0 Z = true)
    (hy : y.cls ≠ "java/lang/invoke/MethodHandle" ∧ y.cls ≠ "java/lang/invoke/VarHandle") (a : Addr) (E : Exa Z h a C) (argsL rest : List Value) {ps : List FieldType} {r : Option FieldType} (hpd : parseMethodDescriptor y.desc = some ⟨ps, r⟩) (hlen : argsL.length = ps.length) {pc : Nat} {Ls : Array Slot} {stk : List Value}
    (hstk : stk = argsL.reverse ++ .ref a :: rest) (has : (.ref a :: argsL).toArray = as') (hsize : Ls.size = maxL) (hd : decode bytes pc = .ok (.invokevirtual index, 3)) (hf : rm.frames + 1 ≤ R.frames) (hl : (rest.map fun v => v.category).sum + (yl + 11) + rm.locals ≤ R.locals) (hc : cells + rm.cells ≤ R.cells) (hs : slots + rm.slots ≤ R.slots)
    (k : ∀ (T' : State) (L : List Loc) (v : Option Value), Stand p l e R s m args below meth c T' (locs ++ L) (cells + rm.cells) (slots + rm.slots) → Q' v T'.heap L → own_Fin p e below P T' (mkF m (pc + 3) Ls (v.toList ++ rest))) :
    own_Fin p e below P T (mkF m pc Ls stk) := by
  obtain ⟨hx, hZ, hby, hml, hown, hret, hlk, hnm⟩ := K
  obtain ⟨cq, kq, qa, qb, qc⟩ := isOf hZ eT E
  obtain ⟨v, _, ⟨T', L', k', n'⟩, -, X', ⟨L, hQ, l1, l2, l3⟩, st⟩ := X.virtualBack hx (y := y) (z := z) hown (mvT hZ w1) (mvT hZ w2) (nf #[] (mvT hZ w5)) (mvT hZ w5) (mvT hZ w6) hy (backOf (W := (rest.map fun v => v.category).sum) (M []) hZ w4 w3 hf hl) qa qc (g := mkF m pc Ls stk) rfl (hsize.trans hml.symm) (Steps.refl _) (argsL := argsL) (rest := rest) (lenOf hpd hlen) hstk (by show 2 * 0 + _ ≤ _; omega) (hb hby hd) (fun _ _ => ⟨has, eT, hc, hs⟩)
  dsimp only [Pt.U, Pt.locs, Pt.cells, Pt.slots] at X' l1 l2 l3 st hQ
  subst l1 l2 l3
  exact own_seg (fun t q => st.trans q) (k T' L v X' hQ)
theorem own_callP (K : own_Ctx p Z s m meth c cls bytes maxL ret nm) (X : Stand p l e R s m args below meth c T locs cells slots) (eT : T.heap = h) {y : MethodName} {yb : ByteArray} {yl : Nat} {yr : Option FieldType} {rm : Room} {as' : Array Value} {Q' : Option Value → Heap → List Loc → Prop}
    (M : own_Met l Z y yb yl yr rm as' h Q') {index kk : Nat} (w1 : (Jvm.Cond.methodLink cls index y).before a0 Z = true) (w2 : (Jvm.Cond.instanceMethod y).before a0 Z = true) (w7 : (Jvm.Cond.instantiable y.cls kk).before a0 Z = true) (w6 : (Jvm.Cond.privateMethod y).before a0 Z = true) (w3 : (Jvm.Cond.initialized y.cls).before a0 Z = true) (w4 : (Jvm.Cond.code y yb yl yr).before a0 Z = true)
    (hy : y.cls ≠ "java/lang/invoke/MethodHandle" ∧ y.cls ≠ "java/lang/invoke/VarHandle") (a : Addr) (E : Exa Z h a y.cls) (argsL rest : List Value) {ps : List FieldType} {r : Option FieldType} (hpd : parseMethodDescriptor y.desc = some ⟨ps, r⟩) (hlen : argsL.length = ps.length) {pc : Nat} {Ls : Array Slot} {stk : List Value}
    (hstk : stk = argsL.reverse ++ .ref a :: rest) (has : (.ref a :: argsL).toArray = as') (hsize : Ls.size = maxL) (hd : decode bytes pc = .ok (.invokevirtual index, 3)) (hf : rm.frames + 1 ≤ R.frames) (hl : (rest.map fun v => v.category).sum + (yl + 11) + rm.locals ≤ R.locals) (hc : cells + rm.cells ≤ R.cells) (hs : slots + rm.slots ≤ R.slots)
    (k : ∀ (T' : State) (L : List Loc) (v : Option Value), Stand p l e R s m args below meth c T' (locs ++ L) (cells + rm.cells) (slots + rm.slots) → Q' v T'.heap L → own_Fin p e below P T' (mkF m (pc + 3) Ls (v.toList ++ rest))) :
    own_Fin p e below P T (mkF m pc Ls stk) := by
  obtain ⟨hx, hZ, hby, hml, hown, hret, hlk, hnm⟩ := K
  obtain ⟨cq, q1, q2⟩ := E.cell
  obtain ⟨v, _, ⟨T', L', k', n'⟩, -, X', ⟨L, hQ, l1, l2, l3⟩, st⟩ := X.privateBack hx (y := y) hown (mvT hZ w1) (mvT hZ w2) (Jvm.Kit.selects_private hy (mvT hZ w7) (mvP hZ w6) (mvT hZ w2)) (Cond.privateMethod_at (mvP hZ w6 (args := #[]))) (mvT hZ w4) hy (backOf (W := (rest.map fun v => v.category).sum) (M []) hZ w4 w3 hf hl) (g := mkF m pc Ls stk) rfl (hsize.trans hml.symm) (Steps.refl _) (a := a) (by rw [eT]; exact q1) q2 (argsL := argsL) (rest := rest) (lenOf hpd hlen) hstk (by show 2 * 0 + _ ≤ _; omega) (hb hby hd) (fun _ _ => ⟨has, eT, hc, hs⟩)
  dsimp only [Pt.U, Pt.locs, Pt.cells, Pt.slots] at X' l1 l2 l3 st hQ
  subst l1 l2 l3
  exact own_seg (fun t q => st.trans q) (k T' L v X' hQ)
theorem own_callF (K : own_Ctx p Z s m meth c cls bytes maxL ret nm) (X : Stand p l e R s m args below meth c T locs cells slots) (eT : T.heap = h) {xi y : MethodName} {yb : ByteArray} {yl : Nat} {yr : Option FieldType} {rm : Room} {as' : Array Value} {Q' : Option Value → Heap → List Loc → Prop}
    (M : own_Met l Z y yb yl yr rm as' h Q') {index count : Nat} {C : String} (w1 : (Jvm.Cond.methodLink cls index xi).before a0 Z = true) (w2 : (Jvm.Cond.declares xi).before a0 Z = true) (w8 : (Jvm.Cond.interfaceMethod xi.cls xi.cls xi.name xi.desc).before a0 Z = true) (w8f : ((Jvm.Cond.interfaceMethod xi.cls xi.cls xi.name xi.desc).onTables && (Jvm.Cond.interfaceMethod xi.cls xi.cls xi.name xi.desc).keepsFace) = true) (w5 : (Jvm.Cond.selects C xi y).before a0 Z = true) (w6 : (Jvm.Cond.instanceMethod y).before a0 Z = true) (w9 : (Jvm.Cond.publicMethod y).before a0 Z = true) (w10 : (Jvm.Cond.unhidden C xi.name xi.desc).before a0 Z = true) (w11 : (Jvm.Cond.castable C xi.cls).before a0 Z = true) (w3 : (Jvm.Cond.initialized y.cls).before a0 Z = true) (w4 : (Jvm.Cond.code y yb yl yr).before a0 Z = true)
    (hy : xi.cls ≠ "java/lang/invoke/MethodHandle" ∧ xi.cls ≠ "java/lang/invoke/VarHandle") (a : Addr) (E : Exa Z h a C) (argsL rest : List Value) {ps : List FieldType} {r : Option FieldType} (hpd : parseMethodDescriptor xi.desc = some ⟨ps, r⟩) (hlen : argsL.length = ps.length) {pc : Nat} {Ls : Array Slot} {stk : List Value}
    (hstk : stk = argsL.reverse ++ .ref a :: rest) (has : (.ref a :: argsL).toArray = as') (hsize : Ls.size = maxL) (hd : decode bytes pc = .ok (.invokeinterface index count, 5)) (hf : rm.frames + 1 ≤ R.frames) (hl : (rest.map fun v => v.category).sum + (yl + 11) + rm.locals ≤ R.locals) (hc : cells + rm.cells ≤ R.cells) (hs : slots + rm.slots ≤ R.slots)
    (k : ∀ (T' : State) (L : List Loc) (v : Option Value), Stand p l e R s m args below meth c T' (locs ++ L) (cells + rm.cells) (slots + rm.slots) → Q' v T'.heap L → own_Fin p e below P T' (mkF m (pc + 5) Ls (v.toList ++ rest))) :
    own_Fin p e below P T (mkF m pc Ls stk) := by
  obtain ⟨hx, hZ, hby, hml, hown, hret, hlk, hnm⟩ := K
  obtain ⟨cq, kq, qa, qb, qc⟩ := isOf hZ eT E
  obtain ⟨v, _, ⟨T', L', k', n'⟩, -, X', ⟨L, hQ, l1, l2, l3⟩, st⟩ := X.interfaceBack hx (xi := xi) (y := y) hown (mvT hZ w1) (mvT hZ w2) (mvT hZ w8 w8f) (mvT hZ w5) (mvT hZ w6) (mvT hZ w9) (mvT hZ w10) (mvT hZ w11) hy (backOf (W := (rest.map fun v => v.category).sum) (M []) hZ w4 w3 hf hl) qa qb qc (g := mkF m pc Ls stk) rfl (hsize.trans hml.symm) (Steps.refl _) (argsL := argsL) (rest := rest) (lenOf hpd hlen) hstk (by show 2 * 0 + _ ≤ _; omega) (hb hby hd) (fun _ _ => ⟨has, eT, hc, hs⟩)
  dsimp only [Pt.U, Pt.locs, Pt.cells, Pt.slots] at X' l1 l2 l3 st hQ
  subst l1 l2 l3
  exact own_seg (fun t q => st.trans q) (k T' L v X' hQ)
/-! fields, objects -/
theorem own_getF (K : own_Ctx p Z s m meth c cls bytes maxL ret nm) (X : Stand p l e R s m args below meth c T locs cells slots) (eT : T.heap = h) {index : Nat} {R0 O n d host : String} {a : Addr} {v : Value} (w : (Jvm.Cond.fieldLink cls index R0 n d).before a0 Z = true ∨ (Jvm.Cond.fieldLinkNest cls index R0 n d host).before a0 Z = true) (via : Via Z R0 O n d) (F : Fld Z h a O n d v)
    {pc : Nat} {Ls : Array Slot} {rest : List Value} (hd : decode bytes pc = .ok (.getfield index, 3)) (k : ∀ T', Stand p l e R s m args below meth c T' locs cells slots → T'.heap = h → own_Fin p e below P T' (mkF m (pc + 3) Ls (v :: rest))) : own_Fin p e below P T (mkF m pc Ls (.ref a :: rest)) := by
  obtain ⟨hx, hZ, hby, hml, hown, hret, hlk, hnm⟩ := K
  obtain ⟨T', X', e', st⟩ := getF X hx hZ hown w via eT F (g := mkF m pc Ls (.ref a :: rest)) rfl rfl (hb hby hd)
  exact own_seg st (k T' X' e')
theorem own_putF (K : own_Ctx p Z s m meth c cls bytes maxL ret nm) (X : Stand p l e R s m args below meth c T locs cells slots) (eT : T.heap = h) {index kk : Nat} {R0 O n d host C : String} {a : Addr} {v old : Value} {ty : FieldType} (w : (Jvm.Cond.fieldLink cls index R0 n d).before a0 Z = true ∨ (Jvm.Cond.fieldLinkNest cls index R0 n d host).before a0 Z = true) (via : Via Z R0 O n d) (F : Fld Z h a O n d old) (E : Exa Z h a C)
    (L : (Jvm.Cond.lays C O n d).before a0 Z = true ∨ ((Jvm.Cond.laysFinal C O n d).before a0 Z = true ∧ cls = O ∧ nm = "<init>")) (wi : (Jvm.Cond.instantiable C kk).before a0 Z = true) (hty : parseFieldDescriptor d = some ty) (hn : narrow ty v = v) (hf : fits ty v = true)
    {pc : Nat} {Ls : Array Slot} {rest : List Value} (hd : decode bytes pc = .ok (.putfield index, 3)) (k : ∀ T' h', Stand p l e R s m args below meth c T' (locs ++ [⟨a, Jvm.RoadKit.slotOf Z O n d⟩]) cells slots → T'.heap = h' → Wr h h' a (Jvm.RoadKit.slotOf Z O n d) v → own_Fin p e below P T' (mkF m (pc + 3) Ls rest)) : own_Fin p e below P T (mkF m pc Ls (v :: .ref a :: rest)) := by
  obtain ⟨hx, hZ, hby, hml, hown, hret, hlk, hnm⟩ := K
  obtain ⟨T', h', X', e', W, st⟩ := putF X hx hZ hown w via eT F E (L.imp id fun q => ⟨q.1, q.2.1, hnm.trans q.2.2⟩) wi hty hn hf (g := mkF m pc Ls (v :: .ref a :: rest)) rfl rfl (hb hby hd)
  exact own_seg st (k T' h' X' e' W)
theorem own_newO (K : own_Ctx p Z s m meth c cls bytes maxL ret nm) (X : Stand p l e R s m args below meth c T locs cells slots) (eT : T.heap = h) {C : String} {index n : Nat} (w : (Jvm.Cond.classLink cls index C).before a0 Z = true) (wi : (Jvm.Cond.instantiable C n).before a0 Z = true) (wz : (Jvm.Cond.initialized C).before a0 Z = true)
    {pc : Nat} {Ls : Array Slot} {stk : List Value} (hd : decode bytes pc = .ok (.new index, 3)) (hc : cells + 1 ≤ R.cells) (hl : slots + n ≤ R.slots)
    (k : ∀ T' h' a, a = h.size → Stand p l e R s m args below meth c T' locs (cells + 1) (slots + n) → T'.heap = h' → Ext h h' → Exa Z h' a C → (∀ {O nm d : String} {ty : FieldType}, Laid Z a0 C O nm d → parseFieldDescriptor d = some ty → Fld Z h' a O nm d (defaultValue ty)) → own_Fin p e below P T' (mkF m (pc + 3) Ls (.ref a :: stk))) : own_Fin p e below P T (mkF m pc Ls stk) := by
  obtain ⟨hx, hZ, hby, hml, hown, hret, hlk, hnm⟩ := K
  obtain ⟨T', h', X', e', E, A, D, -, st⟩ := newO X hx hZ hown w wi wz eT (g := mkF m pc Ls stk) rfl (hb hby hd) hc hl
  exact own_seg st (k T' h' _ rfl X' e' E A D)
theorem own_initO (K : own_Ctx p Z s m meth c cls bytes maxL ret nm) (X : Stand p l e R s m args below meth c T locs cells slots) (eT : T.heap = h) {index : Nat} (w1 : (Jvm.Cond.methodLink cls index Lib.objectInit).before a0 Z = true) (w2 : (Jvm.Cond.instanceMethod Lib.objectInit).before a0 Z = true) (w3 : (Jvm.Cond.code Lib.objectInit ⟨#[0xb1]⟩ 1 none).before a0 Z = true)
    {pc : Nat} {Ls : Array Slot} {a : Addr} {rest : List Value} (hsize : Ls.size = maxL) (hd : decode bytes pc = .ok (.invokespecial index, 3)) (hf : 1 ≤ R.frames) (hl : (rest.map fun v => v.category).sum + 12 ≤ R.locals)
    (k : ∀ T', Stand p l e R s m args below meth c T' locs cells slots → T'.heap = h → own_Fin p e below P T' (mkF m (pc + 3) Ls rest)) : own_Fin p e below P T (mkF m pc Ls (.ref a :: rest)) := by
  obtain ⟨hx, hZ, hby, hml, hown, hret, hlk, hnm⟩ := K
  obtain ⟨T', X', e', st⟩ := initO X hx hZ hown w1 w2 w3 eT (g := mkF m pc Ls (.ref a :: rest)) rfl (hsize.trans hml.symm) rfl (hb hby hd) hf (W := (rest.map fun v => v.category).sum) (by show 2 * 0 + _ ≤ _; omega) hl
  exact own_seg st (k T' X' e')
theorem own_getS (K : own_Ctx p Z s m meth c cls bytes maxL ret nm) (X : Stand p l e R s m args below meth c T locs cells slots) (eT : T.heap = h) {index : Nat} {R0 O n d host : String} {v : Value} (w : (Jvm.Cond.fieldLink cls index R0 n d).before a0 Z = true ∨ (Jvm.Cond.fieldLinkNest cls index R0 n d host).before a0 Z = true) (via : Via Z R0 O n d) (F : Sta Z h O n d v)
    {pc : Nat} {Ls : Array Slot} {stk : List Value} (hd : decode bytes pc = .ok (.getstatic index, 3)) (k : ∀ T', Stand p l e R s m args below meth c T' locs cells slots → T'.heap = h → own_Fin p e below P T' (mkF m (pc + 3) Ls (v :: stk))) : own_Fin p e below P T (mkF m pc Ls stk) := by
  obtain ⟨hx, hZ, hby, hml, hown, hret, hlk, hnm⟩ := K
  obtain ⟨T', X', e', st⟩ := getS2 X hx hZ hown w via eT F (g := mkF m pc Ls stk) rfl (hb hby hd)
  exact own_seg st (k T' X' e')
end Own
/-! ## what an object's fields hold, all at once -/
def own_Obj (Z : State) (h : Heap) (a : Addr) (C : String) (fs : List (String × String × String × Value)) : Prop := Exa Z h a C ∧ ∀ q ∈ fs, Fld Z h a q.1 q.2.1 q.2.2.1 q.2.2.2
def own_Lay (Z : State) (a0 : Array Value) (C : String) (fs : List (String × String × String)) : Prop := ∀ q ∈ fs, Laid Z a0 C q.1 q.2.1 q.2.2 ∧ ∃ t, parseFieldDescriptor q.2.2 = some t
section Obj
variable {Z : State} {a0 : Array Value} {h h' : Heap} {a b : Addr} {C : String} {fs : List (String × String × String × Value)} {ws : List Addr} {sl : Nat} {v : Value}
theorem own_Obj.exa (O : own_Obj Z h a C fs) : Exa Z h a C := O.1
theorem own_Obj.lt (O : own_Obj Z h a C fs) : a < h.size := O.1.lt
theorem own_Obj.get (O : own_Obj Z h a C fs) (i : Nat) {q : String × String × String × Value} (hi : fs[i]? = some q) : Fld Z h a q.1 q.2.1 q.2.2.1 q.2.2.2 := O.2 q (List.mem_of_getElem? hi)
theorem own_Obj.ext (O : own_Obj Z h a C fs) (E : Ext h h') : own_Obj Z h' a C fs := ⟨O.1.ext E, fun q hq => (O.2 q hq).ext E⟩
theorem own_Obj.keep (O : own_Obj Z h a C fs) (K : Keep h h' ws) (n : a ∉ ws) : own_Obj Z h' a C fs := ⟨O.1.keep K, fun q hq => (O.2 q hq).keep K n⟩
theorem own_Obj.other (O : own_Obj Z h b C fs) (W : Wr h h' a sl v) (n : b ≠ a) : own_Obj Z h' b C fs := ⟨O.1.wr W, fun q hq => (O.2 q hq).other W (Or.inl n)⟩
theorem own_Obj.put (O : own_Obj Z h a C fs) {ls : List (String × String × String)} (Y : own_Lay Z a0 C ls) (hls : fs.map (fun q => (q.1, q.2.1, q.2.2.1)) = ls) (hnd : (ls.map (fun q => q.2.1)).Nodup) (i : Nat) {O' n d : String} {old : Value} (hi : fs[i]? = some (O', n, d, old)) (W : Wr h h' a (Jvm.RoadKit.slotOf Z O' n d) v) : own_Obj Z h' a C (fs.set i (O', n, d, v)) := by
  subst hls
  refine ⟨O.1.wr W, fun q hq => ?_⟩
  obtain ⟨j, hj⟩ := List.mem_iff_getElem?.mp hq
  by_cases e : i = j
  · subst e
    have hlt : i < fs.length := (List.getElem?_eq_some_iff.mp hi).1
    rw [List.getElem?_set_self hlt] at hj
    cases hj
    exact (O.get i hi).same W
  · rw [List.getElem?_set_ne e] at hj
    refine (O.get j hj).other W (Or.inr ?_)
    obtain ⟨L1, t1, p1⟩ := Y (q.1, q.2.1, q.2.2.1) (List.mem_map.mpr ⟨q, List.mem_of_getElem? hj, rfl⟩)
    obtain ⟨L2, t2, p2⟩ := Y (O', n, d) (List.mem_map.mpr ⟨(O', n, d, old), List.mem_of_getElem? hi, rfl⟩)
    refine slot_ne L1 L2 ?_ p1 p2
    intro en
    apply e
    rw [List.map_map] at hnd
    have k1 : (fs.map ((fun q : String × String × String => q.2.1) ∘ fun q : String × String × String × Value => (q.1, q.2.1, q.2.2.1)))[i]? = some n := by rw [List.getElem?_map, hi]; rfl
    have k2 : (fs.map ((fun q : String × String × String => q.2.1) ∘ fun q : String × String × String × Value => (q.1, q.2.1, q.2.2.1)))[j]? = some n := by rw [List.getElem?_map, hj, ← en]; rfl
    exact (List.getElem?_inj (List.getElem?_eq_some_iff.mp k1).1 hnd).mp (k1.trans k2.symm)
end Obj
/-! ## an array by the list of all that it holds -/
def own_Arr (Z : State) (h : Heap) (a : Addr) (ty : FieldType) (vs : List Value) : Prop := ∃ cl : Cell, Arr Z h a cl ty ∧ cl.slots.toList = vs
section Arrs
variable {p : Program} {l : Launch} {e : Env} {R : Room} {s : State} {m : MethodId} {args : Array Value} {below : List Frame} {meth : Method} {c : Code} {T : State} {locs : List Loc} {cells slots : Nat} {Z : State} {a0 : Array Value} {h h' : Heap}
  {P : Outcome → State → Prop} {cls : String} {bytes : ByteArray} {maxL : Nat} {ret : Option FieldType} {nm : String} {a b : Addr} {ty : FieldType} {vs : List Value} {ws : List Addr} {sl : Nat} {v : Value}
theorem own_Arr.lt (A : own_Arr Z h a ty vs) : a < h.size := by obtain ⟨cl, A, -⟩ := A; exact A.lt
theorem own_Arr.ext (A : own_Arr Z h a ty vs) (E : Ext h h') : own_Arr Z h' a ty vs := by obtain ⟨cl, A, q⟩ := A; exact ⟨cl, A.ext E, q⟩
theorem own_Arr.other (A : own_Arr Z h b ty vs) (W : Wr h h' a sl v) (n : b ≠ a) : own_Arr Z h' b ty vs := by obtain ⟨cl, A, q⟩ := A; exact ⟨cl, A.other W n, q⟩
theorem own_Arr.keep (A : own_Arr Z h a ty vs) (K : Keep h h' ws) (n : a ∉ ws) : own_Arr Z h' a ty vs := by obtain ⟨cl, A, q⟩ := A; exact ⟨cl, ⟨K.2.1 a cl A.1 n, A.2⟩, q⟩
theorem own_Arr.set (A : own_Arr Z h a ty vs) (W : Wr h h' a sl v) : own_Arr Z h' a ty (vs.set sl v) := by
  obtain ⟨cl, A, q⟩ := A
  exact ⟨_, A.same W, by simp [Cell.setSlot, q]⟩
theorem own_Arr.new {cA : ClassId} {n : Int32} (A : Arr Z h a (newA cA ty n) ty) : own_Arr Z h a ty (List.replicate n.toNatClampNeg (defaultValue ty)) := ⟨_, A, by simp [newA]⟩
theorem own_at {cl : Cell} (q : cl.slots.toList = vs) {i : Nat} (hv : vs[i]? = some v) : cl.slots[i]? = some v := by rw [← hv, ← q, Array.getElem?_toList]
theorem own_in {cl : Cell} (q : cl.slots.toList = vs) {j : Int32} (hj : ¬ j < 0) (hv : vs[j.toNatClampNeg]? = some v) : ¬ (j < 0 ∨ cl.slots.size ≤ j.toNatClampNeg) := by
  rintro (r | r)
  · exact hj r
  · have := (Array.getElem?_eq_some_iff.mp (own_at q hv)).1; omega
theorem own_iaload (K : own_Ctx p Z s m meth c cls bytes maxL ret nm) (X : Stand p l e R s m args below meth c T locs cells slots) (eT : T.heap = h) (A : own_Arr Z h a .int vs) {j : Int32} (hj : ¬ j < 0) (hv : vs[j.toNatClampNeg]? = some v)
    {pc : Nat} {Ls : Array Slot} {rest : List Value} (hd : decode bytes pc = .ok (.iaload, 1)) (k : own_Fin p e below P T (mkF m (pc + 1) Ls (v :: rest))) : own_Fin p e below P T (mkF m pc Ls (.int j :: .ref a :: rest)) := by
  obtain ⟨hx, hZ, hby, -⟩ := K
  obtain ⟨cl, A, q⟩ := A
  exact own_seg (fun t u => X.iaload hx (j := j) (v := v) (by rw [eT]; exact A.1) (State.isArrayOf_alike hZ.alike A.2.1) A.2.2 (own_in q hj hv) (own_at q hv) (g := mkF m pc Ls (.int j :: .ref a :: rest)) rfl rfl (hb hby hd) t u) k
theorem own_laload (K : own_Ctx p Z s m meth c cls bytes maxL ret nm) (X : Stand p l e R s m args below meth c T locs cells slots) (eT : T.heap = h) (A : own_Arr Z h a .long vs) {j : Int32} (hj : ¬ j < 0) (hv : vs[j.toNatClampNeg]? = some v)
    {pc : Nat} {Ls : Array Slot} {rest : List Value} (hd : decode bytes pc = .ok (.laload, 1)) (k : own_Fin p e below P T (mkF m (pc + 1) Ls (v :: rest))) : own_Fin p e below P T (mkF m pc Ls (.int j :: .ref a :: rest)) := by
  obtain ⟨hx, hZ, hby, -⟩ := K
  obtain ⟨cl, A, q⟩ := A
  exact own_seg (fun t u => X.laload hx (j := j) (v := v) (by rw [eT]; exact A.1) (State.isArrayOf_alike hZ.alike A.2.1) A.2.2 (own_in q hj hv) (own_at q hv) (g := mkF m pc Ls (.int j :: .ref a :: rest)) rfl rfl (hb hby hd) t u) k
theorem own_alen (K : own_Ctx p Z s m meth c cls bytes maxL ret nm) (X : Stand p l e R s m args below meth c T locs cells slots) (eT : T.heap = h) (A : own_Arr Z h a ty vs) {n : Int32} (hn : vs.length.toInt32 = n)
    {pc : Nat} {Ls : Array Slot} {rest : List Value} (hd : decode bytes pc = .ok (.arraylength, 1)) (k : own_Fin p e below P T (mkF m (pc + 1) Ls (.int n :: rest))) : own_Fin p e below P T (mkF m pc Ls (.ref a :: rest)) := by
  obtain ⟨hx, hZ, hby, -⟩ := K
  obtain ⟨cl, A, q⟩ := A
  subst q hn
  rw [Array.length_toList] at k
  exact own_seg (fun t u => X.arraylength hx (by rw [eT]; exact A.1) (State.isArrayOf_alike hZ.alike A.2.1) (g := mkF m pc Ls (.ref a :: rest)) rfl rfl (hb hby hd) t u) k
theorem own_iastore (K : own_Ctx p Z s m meth c cls bytes maxL ret nm) (X : Stand p l e R s m args below meth c T locs cells slots) (eT : T.heap = h) (A : own_Arr Z h a .int vs) {j x : Int32} (hj : ¬ j < 0) (hv : j.toNatClampNeg < vs.length)
    {pc : Nat} {Ls : Array Slot} {rest : List Value} (hd : decode bytes pc = .ok (.iastore, 1)) (k : ∀ T' h', Stand p l e R s m args below meth c T' (locs ++ [⟨a, j.toNatClampNeg⟩]) cells slots → T'.heap = h' → Wr h h' a j.toNatClampNeg (.int x) → own_Fin p e below P T' (mkF m (pc + 1) Ls rest)) : own_Fin p e below P T (mkF m pc Ls (.int x :: .int j :: .ref a :: rest)) := by
  obtain ⟨hx, hZ, hby, -⟩ := K
  obtain ⟨cl, A, q⟩ := A
  obtain ⟨T', h', X', e', W, st⟩ := stI X hx hZ eT A (j := j) (x := x) (own_in q hj (List.getElem?_eq_getElem hv)) (g := mkF m pc Ls (.int x :: .int j :: .ref a :: rest)) rfl rfl (hb hby hd)
  exact own_seg st (k T' h' X' e' W)
theorem own_lastore (K : own_Ctx p Z s m meth c cls bytes maxL ret nm) (X : Stand p l e R s m args below meth c T locs cells slots) (eT : T.heap = h) (A : own_Arr Z h a .long vs) {j : Int32} {x : Int64} (hj : ¬ j < 0) (hv : j.toNatClampNeg < vs.length)
    {pc : Nat} {Ls : Array Slot} {rest : List Value} (hd : decode bytes pc = .ok (.lastore, 1)) (k : ∀ T' h', Stand p l e R s m args below meth c T' (locs ++ [⟨a, j.toNatClampNeg⟩]) cells slots → T'.heap = h' → Wr h h' a j.toNatClampNeg (.long x) → own_Fin p e below P T' (mkF m (pc + 1) Ls rest)) : own_Fin p e below P T (mkF m pc Ls (.long x :: .int j :: .ref a :: rest)) := by
  obtain ⟨hx, hZ, hby, -⟩ := K
  obtain ⟨cl, A, q⟩ := A
  obtain ⟨T', h', X', e', W, st⟩ := stJ X hx hZ eT A (j := j) (x := x) (own_in q hj (List.getElem?_eq_getElem hv)) (g := mkF m pc Ls (.long x :: .int j :: .ref a :: rest)) rfl rfl (hb hby hd)
  exact own_seg st (k T' h' X' e' W)
theorem own_newP (K : own_Ctx p Z s m meth c cls bytes maxL ret nm) (X : Stand p l e R s m args below meth c T locs cells slots) (eT : T.heap = h) {aty : ArrayType} (w : (Jvm.Cond.arrayClass (newarray.typeOf aty)).before a0 Z = true) {n : Int32} (hn : ¬ n < 0) (cap : Nat) (hcap : n.toNatClampNeg ≤ cap) (hcb : cap * 8 ≤ 536870912)
    {pc : Nat} {Ls : Array Slot} {rest : List Value} (hd : decode bytes pc = .ok (.newarray aty, 2)) (hc : cells + 1 ≤ R.cells) (hl : slots + cap ≤ R.slots)
    (k : ∀ T' h' a, a = h.size → Stand p l e R s m args below meth c T' locs (cells + 1) (slots + cap) → T'.heap = h' → Ext h h' → own_Arr Z h' a (newarray.typeOf aty) (List.replicate n.toNatClampNeg (defaultValue (newarray.typeOf aty))) → own_Fin p e below P T' (mkF m (pc + 2) Ls (.ref a :: rest))) : own_Fin p e below P T (mkF m pc Ls (.int n :: rest)) := by
  obtain ⟨hx, hZ, hby, -⟩ := K
  obtain ⟨T', h', cA, X', e', E, A, st⟩ := newP X hx hZ w eT (g := mkF m pc Ls (.int n :: rest)) rfl (hb hby hd) rfl hn hcap hcb hc hl
  exact own_seg st (k T' h' _ rfl X' e' E (own_Arr.new A))
end Arrs
/-! ## an array of references, of which only the class and the length are told; a list of ints by a function -/
def own_RArr (Z : State) (h : Heap) (a : Addr) (C : String) (n : Nat) : Prop := ∃ cl : Cell, Arr Z h a cl (.object C) ∧ cl.slots.size = n ∧ Ovr Z cl.cls C
section RArrs
variable {p : Program} {l : Launch} {e : Env} {R : Room} {s : State} {m : MethodId} {args : Array Value} {below : List Frame} {meth : Method} {c : Code} {T : State} {locs : List Loc} {cells slots : Nat} {Z : State} {a0 : Array Value} {h h' : Heap}
  {P : Outcome → State → Prop} {cls : String} {bytes : ByteArray} {maxL : Nat} {ret : Option FieldType} {nm : String} {a b : Addr} {C : String} {n : Nat} {ws : List Addr} {sl : Nat} {v : Value}
theorem own_RArr.lt (A : own_RArr Z h a C n) : a < h.size := by obtain ⟨cl, A, -⟩ := A; exact A.lt
theorem own_RArr.ext (A : own_RArr Z h a C n) (E : Ext h h') : own_RArr Z h' a C n := by obtain ⟨cl, A, q⟩ := A; exact ⟨cl, A.ext E, q⟩
theorem own_RArr.other (A : own_RArr Z h b C n) (W : Wr h h' a sl v) (q : b ≠ a) : own_RArr Z h' b C n := by obtain ⟨cl, A, r⟩ := A; exact ⟨cl, A.other W q, r⟩
theorem own_RArr.keep (A : own_RArr Z h a C n) (K : Keep h h' ws) (q : a ∉ ws) : own_RArr Z h' a C n := by obtain ⟨cl, A, r⟩ := A; exact ⟨cl, ⟨K.2.1 a cl A.1 q, A.2⟩, r⟩
theorem own_RArr.set (A : own_RArr Z h a C n) (W : Wr h h' a sl v) : own_RArr Z h' a C n := by obtain ⟨cl, A, r1, r2⟩ := A; exact ⟨_, A.same W, by rw [sz_set]; exact r1, r2⟩
theorem own_aastore (K : own_Ctx p Z s m meth c cls bytes maxL ret nm) (X : Stand p l e R s m args below meth c T locs cells slots) (eT : T.heap = h) (A : own_RArr Z h a C n) {j : Int32} (hj : ¬ j < 0) (hv : j.toNatClampNeg < n) (F : v = .null ∨ ∃ y, v = .ref y ∧ Ins Z h y C true)
    {pc : Nat} {Ls : Array Slot} {rest : List Value} (hd : decode bytes pc = .ok (.aastore, 1)) (k : ∀ T' h', Stand p l e R s m args below meth c T' (locs ++ [⟨a, j.toNatClampNeg⟩]) cells slots → T'.heap = h' → Wr h h' a j.toNatClampNeg v → own_Fin p e below P T' (mkF m (pc + 1) Ls rest)) : own_Fin p e below P T (mkF m pc Ls (v :: .int j :: .ref a :: rest)) := by
  obtain ⟨hx, hZ, hby, -⟩ := K
  obtain ⟨cl, A, r1, r2⟩ := A
  have S : Sto Z h a v := by
    rcases F with rfl | ⟨y, rfl, I⟩
    · exact Or.inl rfl
    · exact Sto.of A r2 I
  obtain ⟨T', h', X', e', W, st⟩ := stR X hx hZ eT A (j := j) (v := v) (fun q => q.elim hj (fun q => by omega)) rfl S (g := mkF m pc Ls (v :: .int j :: .ref a :: rest)) rfl rfl (hb hby hd)
  exact own_seg st (k T' h' X' e' W)
theorem own_newR (K : own_Ctx p Z s m meth c cls bytes maxL ret nm) (X : Stand p l e R s m args below meth c T locs cells slots) (eT : T.heap = h) {index : Nat} (w1 : (Jvm.Cond.classLink cls index C).before a0 Z = true) (w2 : (Jvm.Cond.arrayOver (.object C)).before a0 Z = true) {z : Int32} (hn : ¬ z < 0) (cap : Nat) (hcap : z.toNatClampNeg = cap) (hcb : cap * 8 ≤ 536870912)
    {pc : Nat} {Ls : Array Slot} {rest : List Value} (hd : decode bytes pc = .ok (.anewarray index, 3)) (hc : cells + 1 ≤ R.cells) (hl : slots + cap ≤ R.slots)
    (k : ∀ T' h' a, a = h.size → Stand p l e R s m args below meth c T' locs (cells + 1) (slots + cap) → T'.heap = h' → Ext h h' → own_RArr Z h' a C cap → own_Fin p e below P T' (mkF m (pc + 3) Ls (.ref a :: rest))) : own_Fin p e below P T (mkF m pc Ls (.int z :: rest)) := by
  obtain ⟨hx, hZ, hby, hml, hown, -⟩ := K
  obtain ⟨T', h', cA, X', e', E, A, O, st⟩ := newR X hx hZ hown w1 w2 eT (g := mkF m pc Ls (.int z :: rest)) rfl (hb hby hd) rfl hn (Nat.le_of_eq hcap) hcb hc hl
  exact own_seg st (k T' h' _ rfl X' e' E ⟨_, A, by rw [sz_new]; exact hcap, O⟩)
end RArrs
def own_L (n : Nat) (f : Nat → Int32) : List Value := (List.range n).map fun i => Value.int (f i)
theorem own_L_len (n : Nat) (f : Nat → Int32) : (own_L n f).length = n := by simp [own_L]
theorem own_L_at {n : Nat} {f : Nat → Int32} {i : Nat} (h : i < n) : (own_L n f)[i]? = some (.int (f i)) := by simp [own_L, h]
theorem own_L_set {n : Nat} {f : Nat → Int32} {i : Nat} {v : Int32} (h : i < n) : (own_L n f).set i (.int v) = own_L n (fun j => if j = i then v else f j) := by
  apply List.ext_getElem?
  intro j
  by_cases e : i = j
  · subst e
    rw [List.getElem?_set_self (by rw [own_L_len]; exact h), own_L_at h, if_pos rfl]
  · rw [List.getElem?_set_ne e]
    by_cases q : j < n
    · rw [own_L_at q, own_L_at q, if_neg (Ne.symm e)]
    · rw [List.getElem?_eq_none (by rw [own_L_len]; omega), List.getElem?_eq_none (by rw [own_L_len]; omega)]
theorem own_L_rep (n : Nat) : List.replicate n (Value.int 0) = own_L n (fun _ => 0) := by
  apply List.ext_getElem?
  intro j
  by_cases q : j < n
  · rw [own_L_at q, List.getElem?_replicate, if_pos q]
  · rw [List.getElem?_replicate, if_neg q, List.getElem?_eq_none (by rw [own_L_len]; omega)]
def own_M : Nat → Int32
  | 0 => 60928
  | 1 => 238
  | 2 => 0
  | 3 => 61166
  | 4 => 52360
  | 5 => 35020
  | 6 => 34952
  | 7 => 52428
  | 8 => 51400
  | _ => 0
def own_pick (k : Int32) (r0 r1 r2 r3 r4 r5 r6 r7 r8 : Addr) : Addr := if k = 0 then r0 else if k = 1 then r1 else if k = 2 then r2 else if k = 3 then r3 else if k = 4 then r4 else if k = 5 then r5 else if k = 6 then r6 else if k = 7 then r7 else r8
def own_exp (k n q o : Int32) : Int32 :=
  if q = 0 then 0 else if k < 4 then (if k = 0 then nar .boolean n else if k = 1 then (if n = 0 then 1 else 0) else if k = 2 then 0 else 1)
  else if q = 1 then 0 else if q = 3 then 1 else if k = 4 then nar .boolean n else if k = 5 then (if n = 0 then 1 else 0) else if k = 6 then 0 else if k = 7 then 1 else nar .boolean o
def own_ix (n q o : Int32) : Int32 := (if n = 0 then (if o = 0 then 0 else 4) else (if o = 0 then 8 else 12)) ||| q
def own_away (M n q o : Int32) : Int32 := if ((M.toUInt32 >>> (own_ix n q o &&& 31).toUInt32).toInt32 &&& 1) = 0 then 0 else 1
theorem own_all00 : ∀ (i : Fin 9) (j : Fin 4), own_away (own_M i.val) 0 (Int32.ofNat j.val) 0 = own_exp (Int32.ofNat i.val) 0 (Int32.ofNat j.val) 0 := by decide +kernel
theorem own_all01 : ∀ (i : Fin 9) (j : Fin 4), own_away (own_M i.val) 0 (Int32.ofNat j.val) 1 = own_exp (Int32.ofNat i.val) 0 (Int32.ofNat j.val) 1 := by decide +kernel
theorem own_all10 : ∀ (i : Fin 9) (j : Fin 4), own_away (own_M i.val) 1 (Int32.ofNat j.val) 0 = own_exp (Int32.ofNat i.val) 1 (Int32.ofNat j.val) 0 := by decide +kernel
theorem own_all11 : ∀ (i : Fin 9) (j : Fin 4), own_away (own_M i.val) 1 (Int32.ofNat j.val) 1 = own_exp (Int32.ofNat i.val) 1 (Int32.ofNat j.val) 1 := by decide +kernel
theorem own_ofN {x : Int32} {n : Nat} (h0 : 0 ≤ x.toInt) (h : x.toInt < n) (hn : n < 2 ^ 31) : ∃ i : Fin n, x = Int32.ofNat i.val := by
  refine ⟨⟨x.toInt.toNat, by omega⟩, ?_⟩
  apply Int32.toInt_inj.mp
  show x.toInt = (Int32.ofNat x.toInt.toNat).toInt
  rw [Int32.toInt_ofNat_of_lt (by omega)]
  omega
theorem own_k9 (x : Int32) : ∃ i : Fin 9, ((x &&& (2147483647 : Int32)) % (9 : Int32)) = Int32.ofNat i.val := by
  have e := Jvm.Kit.i32_mask x 2147483647 (k := 31) (by decide) (by decide)
  have e2 : ((x &&& (2147483647 : Int32)) % (9 : Int32)).toInt = (x &&& (2147483647 : Int32)).toInt % (9 : Int32).toInt := Jvm.Kit.i32_rem_nonneg (by omega)
  have e' : (9 : Int32).toInt = 9 := by decide
  exact own_ofN (by rw [e2, e']; omega) (by rw [e2, e']; omega) (by decide)
theorem own_p4 (x : Int32) : ∃ i : Fin 4, (x &&& (3 : Int32)) = Int32.ofNat i.val := by
  have e := Jvm.Kit.i32_mask x 3 (k := 2) (by decide) (by decide)
  exact own_ofN (by omega) (by omega) (by decide)
theorem own_fieldI {args : Array Value} {s : State} {t : Term} {x : Addr} {C n d : String} {M : Int32} (h : (Jvm.Cond.eq (.field t C n d) (.int M)).value args s none s [] = some true) (ht : t.eval args s none [] s = some (.ref x)) : Fld s s.heap x C n d (.int M) := by
  obtain ⟨u, w, h1, h2, hk, hk'⟩ := cmp_v (Or.inl h)
  obtain rfl : w = .int M := Option.some.inj (h2.symm.trans (Term.int_eval M))
  obtain ⟨z, rfl⟩ := hk'
  have q : z = M := by simpa [Cond.value, h1, h2] using h
  subst q
  rw [fld_at ht] at h1
  exact Fld.start h1
theorem own_pn1 : plainName "com/example/rounder/rounder/RoundingRuleRoundsAwayPinLaw" = true := by first | (simp [plainName, overriddenIn]; done) | decide +kernel
theorem d1_0 : decode method_2_code 0 = .ok (.iload_n 0, 1) := by decide +kernel
theorem d1_1 : decode method_2_code 1 = .ok (.ifCond .ne 7, 3) := by decide +kernel
theorem d1_4 : decode method_2_code 4 = .ok (.getstatic 7, 3) := by decide +kernel
theorem d1_7 : decode method_2_code 7 = .ok (.areturn, 1) := by decide +kernel
theorem d1_8 : decode method_2_code 8 = .ok (.iload_n 0, 1) := by decide +kernel
theorem d1_9 : decode method_2_code 9 = .ok (.iconst 1, 1) := by decide +kernel
theorem d1_10 : decode method_2_code 10 = .ok (.if_icmp .ne 7, 3) := by decide +kernel
theorem d1_13 : decode method_2_code 13 = .ok (.getstatic 13, 3) := by decide +kernel
theorem d1_16 : decode method_2_code 16 = .ok (.areturn, 1) := by decide +kernel
theorem d1_17 : decode method_2_code 17 = .ok (.iload_n 0, 1) := by decide +kernel
theorem d1_18 : decode method_2_code 18 = .ok (.iconst 2, 1) := by decide +kernel
theorem d1_19 : decode method_2_code 19 = .ok (.if_icmp .ne 7, 3) := by decide +kernel
theorem d1_22 : decode method_2_code 22 = .ok (.getstatic 16, 3) := by decide +kernel
theorem d1_25 : decode method_2_code 25 = .ok (.areturn, 1) := by decide +kernel
theorem d1_26 : decode method_2_code 26 = .ok (.iload_n 0, 1) := by decide +kernel
theorem d1_27 : decode method_2_code 27 = .ok (.iconst 3, 1) := by decide +kernel
theorem d1_28 : decode method_2_code 28 = .ok (.if_icmp .ne 7, 3) := by decide +kernel
theorem d1_31 : decode method_2_code 31 = .ok (.getstatic 19, 3) := by decide +kernel
theorem d1_34 : decode method_2_code 34 = .ok (.areturn, 1) := by decide +kernel
theorem d1_35 : decode method_2_code 35 = .ok (.iload_n 0, 1) := by decide +kernel
theorem d1_36 : decode method_2_code 36 = .ok (.iconst 4, 1) := by decide +kernel
theorem d1_37 : decode method_2_code 37 = .ok (.if_icmp .ne 7, 3) := by decide +kernel
theorem d1_40 : decode method_2_code 40 = .ok (.getstatic 22, 3) := by decide +kernel
theorem d1_43 : decode method_2_code 43 = .ok (.areturn, 1) := by decide +kernel
theorem d1_44 : decode method_2_code 44 = .ok (.iload_n 0, 1) := by decide +kernel
theorem d1_45 : decode method_2_code 45 = .ok (.iconst 5, 1) := by decide +kernel
theorem d1_46 : decode method_2_code 46 = .ok (.if_icmp .ne 7, 3) := by decide +kernel
theorem d1_49 : decode method_2_code 49 = .ok (.getstatic 25, 3) := by decide +kernel
theorem d1_52 : decode method_2_code 52 = .ok (.areturn, 1) := by decide +kernel
theorem d1_53 : decode method_2_code 53 = .ok (.iload_n 0, 1) := by decide +kernel
theorem d1_54 : decode method_2_code 54 = .ok (.bipush 6, 2) := by decide +kernel
theorem d1_56 : decode method_2_code 56 = .ok (.if_icmp .ne 7, 3) := by decide +kernel
theorem d1_59 : decode method_2_code 59 = .ok (.getstatic 28, 3) := by decide +kernel
theorem d1_62 : decode method_2_code 62 = .ok (.areturn, 1) := by decide +kernel
theorem d1_63 : decode method_2_code 63 = .ok (.iload_n 0, 1) := by decide +kernel
theorem d1_64 : decode method_2_code 64 = .ok (.bipush 7, 2) := by decide +kernel
theorem d1_66 : decode method_2_code 66 = .ok (.if_icmp .ne 7, 3) := by decide +kernel
theorem d1_69 : decode method_2_code 69 = .ok (.getstatic 31, 3) := by decide +kernel
theorem d1_72 : decode method_2_code 72 = .ok (.areturn, 1) := by decide +kernel
theorem d1_73 : decode method_2_code 73 = .ok (.getstatic 34, 3) := by decide +kernel
theorem d1_76 : decode method_2_code 76 = .ok (.areturn, 1) := by decide +kernel
set_option maxRecDepth 65536 in
set_option maxHeartbeats 40000000 in
theorem rm1 (l : Launch) (Z : State) (a0 : Array Value) (hw : ∀ d ∈ tables_1, d.before a0 Z = true) (k : Int32) (r0 r1 r2 r3 r4 r5 r6 r7 r8 : Addr) (h0 : Heap) (n0 : Nat) (Z0 : n0 ≤ h0.size) (S0 : Sta Z h0 "com/example/rounder/rounder/RoundingRule" "FLOOR" "Lcom/example/rounder/rounder/RoundingRule;" (.ref r0)) (S1 : Sta Z h0 "com/example/rounder/rounder/RoundingRule" "CEILING" "Lcom/example/rounder/rounder/RoundingRule;" (.ref r1)) (S2 : Sta Z h0 "com/example/rounder/rounder/RoundingRule" "TOWARD_ZERO" "Lcom/example/rounder/rounder/RoundingRule;" (.ref r2)) (S3 : Sta Z h0 "com/example/rounder/rounder/RoundingRule" "AWAY_FROM_ZERO" "Lcom/example/rounder/rounder/RoundingRule;" (.ref r3)) (S4 : Sta Z h0 "com/example/rounder/rounder/RoundingRule" "HALF_TO_FLOOR" "Lcom/example/rounder/rounder/RoundingRule;" (.ref r4)) (S5 : Sta Z h0 "com/example/rounder/rounder/RoundingRule" "HALF_TO_CEILING" "Lcom/example/rounder/rounder/RoundingRule;" (.ref r5)) (S6 : Sta Z h0 "com/example/rounder/rounder/RoundingRule" "HALF_TOWARD_ZERO" "Lcom/example/rounder/rounder/RoundingRule;" (.ref r6)) (S7 : Sta Z h0 "com/example/rounder/rounder/RoundingRule" "HALF_AWAY_FROM_ZERO" "Lcom/example/rounder/rounder/RoundingRule;" (.ref r7)) (S8 : Sta Z h0 "com/example/rounder/rounder/RoundingRule" "HALF_TO_EVEN" "Lcom/example/rounder/rounder/RoundingRule;" (.ref r8)) :
    own_Met l Z (⟨"com/example/rounder/rounder/RoundingRuleRoundsAwayPinLaw", "rule", "(I)Lcom/example/rounder/rounder/RoundingRule;"⟩ : MethodName) method_2_code 1 (some (.object "com/example/rounder/rounder/RoundingRule")) ({ frames := 0, cells := 0, slots := 0, locals := 0 } : Room) #[(.int k)] h0 (own_QR (.ref (own_pick k r0 r1 r2 r3 r4 r5 r6 r7 r8)) h0 n0) := by
  refine own_enter (plainFor_of_name own_pn1) (fun m => by first | (simp [entryFrame, mkF, argsToLocals, Value.category, maxLocals]; done) | rfl) (Ls := #[.val (.int k)]) ?_
  intro p e s m below meth c T0 K X0 e0
  have hx := K.1
  have hZ := K.2.1
  have hby := K.2.2.1
  have hown := K.2.2.2.2.1
  have N0 := Fr.nil n0
  show own_Fin p e below _ T0 (mkF m 0 #[.val (.int k)] [])
  refine own_seg (T' := T0) (g' := (mkF m 1 #[.val (.int k)] [(.int k)])) (fun tg kt => ?_) ?_
  · show Steps p.tables e below (T0.setTop (mkF m 0 #[.val (.int k)] [])) tg
    refine XS.iloadN X0.here hx rfl (hb hby d1_0) rfl ?_
    exact kt
  by_cases hc1 : k = (0 : Int32)
  · skip
    refine own_seg (T' := T0) (g' := (mkF m 4 #[.val (.int k)] [])) (fun tg kt => XS.ifNo X0.here hx rfl (hb hby d1_1) rfl ((if0 _ _).trans (teq hc1).2) kt) ?_
    refine own_getS K X0 e0 (host := "") (Or.inl (hw _ (List.mem_of_getElem? (i := 5) rfl))) Via.refl S0 d1_4 ?_
    intro T1 X1 e1
    show own_Fin p e below _ T1 (mkF m 7 #[.val (.int k)] [(.ref r0)])
    exact own_retA K rfl X1 rfl d1_7 (⟨by rw [own_pick, if_pos hc1], N0, e1⟩) (by decide) (by decide)
  · skip
    refine own_seg (T' := T0) (g' := (mkF m 8 #[.val (.int k)] [])) (fun tg kt => XS.ifYes X0.here hx rfl (pc0 := 1) (pc' := 8) rfl (hb hby d1_1) rfl ((if0 _ _).trans (feq hc1).2) (by decide) (by decide) kt) ?_
    refine own_seg (T' := T0) (g' := (mkF m 10 #[.val (.int k)] [(.int (1 : Int32)), (.int k)])) (fun tg kt => ?_) ?_
    · show Steps p.tables e below (T0.setTop (mkF m 8 #[.val (.int k)] [])) tg
      refine XS.iloadN X0.here hx rfl (hb hby d1_8) rfl ?_
      show Steps p.tables e below (T0.setTop (mkF m 9 #[.val (.int k)] [(.int k)])) tg
      refine XS.iconst X0.here hx rfl (hb hby d1_9) ?_
      exact kt
    by_cases hc10 : k = (1 : Int32)
    · skip
      refine own_seg (T' := T0) (g' := (mkF m 13 #[.val (.int k)] [])) (fun tg kt => XS.icmpNo X0.here hx rfl (hb hby d1_10) rfl (teq hc10).2 kt) ?_
      refine own_getS K X0 e0 (host := "") (Or.inl (hw _ (List.mem_of_getElem? (i := 18) rfl))) Via.refl S1 d1_13 ?_
      intro T2 X2 e2
      show own_Fin p e below _ T2 (mkF m 16 #[.val (.int k)] [(.ref r1)])
      exact own_retA K rfl X2 rfl d1_16 (⟨by rw [own_pick, if_neg hc1, if_pos hc10], N0, e2⟩) (by decide) (by decide)
    · skip
      refine own_seg (T' := T0) (g' := (mkF m 17 #[.val (.int k)] [])) (fun tg kt => XS.icmpYes X0.here hx rfl (pc0 := 10) (pc' := 17) rfl (hb hby d1_10) rfl (feq hc10).2 (by decide) (by decide) kt) ?_
      refine own_seg (T' := T0) (g' := (mkF m 19 #[.val (.int k)] [(.int (2 : Int32)), (.int k)])) (fun tg kt => ?_) ?_
      · show Steps p.tables e below (T0.setTop (mkF m 17 #[.val (.int k)] [])) tg
        refine XS.iloadN X0.here hx rfl (hb hby d1_17) rfl ?_
        show Steps p.tables e below (T0.setTop (mkF m 18 #[.val (.int k)] [(.int k)])) tg
        refine XS.iconst X0.here hx rfl (hb hby d1_18) ?_
        exact kt
      by_cases hc19 : k = (2 : Int32)
      · skip
        refine own_seg (T' := T0) (g' := (mkF m 22 #[.val (.int k)] [])) (fun tg kt => XS.icmpNo X0.here hx rfl (hb hby d1_19) rfl (teq hc19).2 kt) ?_
        refine own_getS K X0 e0 (host := "") (Or.inl (hw _ (List.mem_of_getElem? (i := 20) rfl))) Via.refl S2 d1_22 ?_
        intro T3 X3 e3
        show own_Fin p e below _ T3 (mkF m 25 #[.val (.int k)] [(.ref r2)])
        exact own_retA K rfl X3 rfl d1_25 (⟨by rw [own_pick, if_neg hc1, if_neg hc10, if_pos hc19], N0, e3⟩) (by decide) (by decide)
      · skip
        refine own_seg (T' := T0) (g' := (mkF m 26 #[.val (.int k)] [])) (fun tg kt => XS.icmpYes X0.here hx rfl (pc0 := 19) (pc' := 26) rfl (hb hby d1_19) rfl (feq hc19).2 (by decide) (by decide) kt) ?_
        refine own_seg (T' := T0) (g' := (mkF m 28 #[.val (.int k)] [(.int (3 : Int32)), (.int k)])) (fun tg kt => ?_) ?_
        · show Steps p.tables e below (T0.setTop (mkF m 26 #[.val (.int k)] [])) tg
          refine XS.iloadN X0.here hx rfl (hb hby d1_26) rfl ?_
          show Steps p.tables e below (T0.setTop (mkF m 27 #[.val (.int k)] [(.int k)])) tg
          refine XS.iconst X0.here hx rfl (hb hby d1_27) ?_
          exact kt
        by_cases hc28 : k = (3 : Int32)
        · skip
          refine own_seg (T' := T0) (g' := (mkF m 31 #[.val (.int k)] [])) (fun tg kt => XS.icmpNo X0.here hx rfl (hb hby d1_28) rfl (teq hc28).2 kt) ?_
          refine own_getS K X0 e0 (host := "") (Or.inl (hw _ (List.mem_of_getElem? (i := 28) rfl))) Via.refl S3 d1_31 ?_
          intro T4 X4 e4
          show own_Fin p e below _ T4 (mkF m 34 #[.val (.int k)] [(.ref r3)])
          exact own_retA K rfl X4 rfl d1_34 (⟨by rw [own_pick, if_neg hc1, if_neg hc10, if_neg hc19, if_pos hc28], N0, e4⟩) (by decide) (by decide)
        · skip
          refine own_seg (T' := T0) (g' := (mkF m 35 #[.val (.int k)] [])) (fun tg kt => XS.icmpYes X0.here hx rfl (pc0 := 28) (pc' := 35) rfl (hb hby d1_28) rfl (feq hc28).2 (by decide) (by decide) kt) ?_
          refine own_seg (T' := T0) (g' := (mkF m 37 #[.val (.int k)] [(.int (4 : Int32)), (.int k)])) (fun tg kt => ?_) ?_
          · show Steps p.tables e below (T0.setTop (mkF m 35 #[.val (.int k)] [])) tg
            refine XS.iloadN X0.here hx rfl (hb hby d1_35) rfl ?_
            show Steps p.tables e below (T0.setTop (mkF m 36 #[.val (.int k)] [(.int k)])) tg
            refine XS.iconst X0.here hx rfl (hb hby d1_36) ?_
            exact kt
          by_cases hc37 : k = (4 : Int32)
          · skip
            refine own_seg (T' := T0) (g' := (mkF m 40 #[.val (.int k)] [])) (fun tg kt => XS.icmpNo X0.here hx rfl (hb hby d1_37) rfl (teq hc37).2 kt) ?_
            refine own_getS K X0 e0 (host := "") (Or.inl (hw _ (List.mem_of_getElem? (i := 30) rfl))) Via.refl S4 d1_40 ?_
            intro T5 X5 e5
            show own_Fin p e below _ T5 (mkF m 43 #[.val (.int k)] [(.ref r4)])
            exact own_retA K rfl X5 rfl d1_43 (⟨by rw [own_pick, if_neg hc1, if_neg hc10, if_neg hc19, if_neg hc28, if_pos hc37], N0, e5⟩) (by decide) (by decide)
          · skip
            refine own_seg (T' := T0) (g' := (mkF m 44 #[.val (.int k)] [])) (fun tg kt => XS.icmpYes X0.here hx rfl (pc0 := 37) (pc' := 44) rfl (hb hby d1_37) rfl (feq hc37).2 (by decide) (by decide) kt) ?_
            refine own_seg (T' := T0) (g' := (mkF m 46 #[.val (.int k)] [(.int (5 : Int32)), (.int k)])) (fun tg kt => ?_) ?_
            · show Steps p.tables e below (T0.setTop (mkF m 44 #[.val (.int k)] [])) tg
              refine XS.iloadN X0.here hx rfl (hb hby d1_44) rfl ?_
              show Steps p.tables e below (T0.setTop (mkF m 45 #[.val (.int k)] [(.int k)])) tg
              refine XS.iconst X0.here hx rfl (hb hby d1_45) ?_
              exact kt
            by_cases hc46 : k = (5 : Int32)
            · skip
              refine own_seg (T' := T0) (g' := (mkF m 49 #[.val (.int k)] [])) (fun tg kt => XS.icmpNo X0.here hx rfl (hb hby d1_46) rfl (teq hc46).2 kt) ?_
              refine own_getS K X0 e0 (host := "") (Or.inl (hw _ (List.mem_of_getElem? (i := 32) rfl))) Via.refl S5 d1_49 ?_
              intro T6 X6 e6
              show own_Fin p e below _ T6 (mkF m 52 #[.val (.int k)] [(.ref r5)])
              exact own_retA K rfl X6 rfl d1_52 (⟨by rw [own_pick, if_neg hc1, if_neg hc10, if_neg hc19, if_neg hc28, if_neg hc37, if_pos hc46], N0, e6⟩) (by decide) (by decide)
            · skip
              refine own_seg (T' := T0) (g' := (mkF m 53 #[.val (.int k)] [])) (fun tg kt => XS.icmpYes X0.here hx rfl (pc0 := 46) (pc' := 53) rfl (hb hby d1_46) rfl (feq hc46).2 (by decide) (by decide) kt) ?_
              refine own_seg (T' := T0) (g' := (mkF m 56 #[.val (.int k)] [(.int (6 : Int32)), (.int k)])) (fun tg kt => ?_) ?_
              · show Steps p.tables e below (T0.setTop (mkF m 53 #[.val (.int k)] [])) tg
                refine XS.iloadN X0.here hx rfl (hb hby d1_53) rfl ?_
                show Steps p.tables e below (T0.setTop (mkF m 54 #[.val (.int k)] [(.int k)])) tg
                refine XS.bipush X0.here hx rfl (hb hby d1_54) ?_
                exact kt
              by_cases hc56 : k = (6 : Int32)
              · skip
                refine own_seg (T' := T0) (g' := (mkF m 59 #[.val (.int k)] [])) (fun tg kt => XS.icmpNo X0.here hx rfl (hb hby d1_56) rfl (teq hc56).2 kt) ?_
                refine own_getS K X0 e0 (host := "") (Or.inl (hw _ (List.mem_of_getElem? (i := 24) rfl))) Via.refl S6 d1_59 ?_
                intro T7 X7 e7
                show own_Fin p e below _ T7 (mkF m 62 #[.val (.int k)] [(.ref r6)])
                exact own_retA K rfl X7 rfl d1_62 (⟨by rw [own_pick, if_neg hc1, if_neg hc10, if_neg hc19, if_neg hc28, if_neg hc37, if_neg hc46, if_pos hc56], N0, e7⟩) (by decide) (by decide)
              · skip
                refine own_seg (T' := T0) (g' := (mkF m 63 #[.val (.int k)] [])) (fun tg kt => XS.icmpYes X0.here hx rfl (pc0 := 56) (pc' := 63) rfl (hb hby d1_56) rfl (feq hc56).2 (by decide) (by decide) kt) ?_
                refine own_seg (T' := T0) (g' := (mkF m 66 #[.val (.int k)] [(.int (7 : Int32)), (.int k)])) (fun tg kt => ?_) ?_
                · show Steps p.tables e below (T0.setTop (mkF m 63 #[.val (.int k)] [])) tg
                  refine XS.iloadN X0.here hx rfl (hb hby d1_63) rfl ?_
                  show Steps p.tables e below (T0.setTop (mkF m 64 #[.val (.int k)] [(.int k)])) tg
                  refine XS.bipush X0.here hx rfl (hb hby d1_64) ?_
                  exact kt
                by_cases hc66 : k = (7 : Int32)
                · skip
                  refine own_seg (T' := T0) (g' := (mkF m 69 #[.val (.int k)] [])) (fun tg kt => XS.icmpNo X0.here hx rfl (hb hby d1_66) rfl (teq hc66).2 kt) ?_
                  refine own_getS K X0 e0 (host := "") (Or.inl (hw _ (List.mem_of_getElem? (i := 26) rfl))) Via.refl S7 d1_69 ?_
                  intro T8 X8 e8
                  show own_Fin p e below _ T8 (mkF m 72 #[.val (.int k)] [(.ref r7)])
                  exact own_retA K rfl X8 rfl d1_72 (⟨by rw [own_pick, if_neg hc1, if_neg hc10, if_neg hc19, if_neg hc28, if_neg hc37, if_neg hc46, if_neg hc56, if_pos hc66], N0, e8⟩) (by decide) (by decide)
                · skip
                  refine own_seg (T' := T0) (g' := (mkF m 73 #[.val (.int k)] [])) (fun tg kt => XS.icmpYes X0.here hx rfl (pc0 := 66) (pc' := 73) rfl (hb hby d1_66) rfl (feq hc66).2 (by decide) (by decide) kt) ?_
                  refine own_getS K X0 e0 (host := "") (Or.inl (hw _ (List.mem_of_getElem? (i := 22) rfl))) Via.refl S8 d1_73 ?_
                  intro T9 X9 e9
                  show own_Fin p e below _ T9 (mkF m 76 #[.val (.int k)] [(.ref r8)])
                  exact own_retA K rfl X9 rfl d1_76 (⟨by rw [own_pick, if_neg hc1, if_neg hc10, if_neg hc19, if_neg hc28, if_neg hc37, if_neg hc46, if_neg hc56, if_neg hc66], N0, e9⟩) (by decide) (by decide)
theorem own_pn2 : plainName "com/example/rounder/rounder/RoundingRuleRoundsAwayPinLaw" = true := by first | (simp [plainName, overriddenIn]; done) | decide +kernel
theorem d2_0 : decode method_3_code 0 = .ok (.iload_n 2, 1) := by decide +kernel
theorem d2_1 : decode method_3_code 1 = .ok (.ifCond .ne 5, 3) := by decide +kernel
theorem d2_4 : decode method_3_code 4 = .ok (.iconst 0, 1) := by decide +kernel
theorem d2_5 : decode method_3_code 5 = .ok (.ireturn, 1) := by decide +kernel
theorem d2_6 : decode method_3_code 6 = .ok (.iload_n 0, 1) := by decide +kernel
theorem d2_7 : decode method_3_code 7 = .ok (.iconst 4, 1) := by decide +kernel
theorem d2_8 : decode method_3_code 8 = .ok (.if_icmp .ge 33, 3) := by decide +kernel
theorem d2_11 : decode method_3_code 11 = .ok (.iload_n 0, 1) := by decide +kernel
theorem d2_12 : decode method_3_code 12 = .ok (.ifCond .ne 5, 3) := by decide +kernel
theorem d2_15 : decode method_3_code 15 = .ok (.iload_n 1, 1) := by decide +kernel
theorem d2_16 : decode method_3_code 16 = .ok (.ireturn, 1) := by decide +kernel
theorem d2_17 : decode method_3_code 17 = .ok (.iload_n 0, 1) := by decide +kernel
theorem d2_18 : decode method_3_code 18 = .ok (.iconst 1, 1) := by decide +kernel
theorem d2_19 : decode method_3_code 19 = .ok (.if_icmp .ne 13, 3) := by decide +kernel
theorem d2_22 : decode method_3_code 22 = .ok (.iload_n 1, 1) := by decide +kernel
theorem d2_23 : decode method_3_code 23 = .ok (.ifCond .ne 7, 3) := by decide +kernel
theorem d2_26 : decode method_3_code 26 = .ok (.iconst 1, 1) := by decide +kernel
theorem d2_27 : decode method_3_code 27 = .ok (.goto 4, 3) := by decide +kernel
theorem d2_31 : decode method_3_code 31 = .ok (.ireturn, 1) := by decide +kernel
theorem d2_30 : decode method_3_code 30 = .ok (.iconst 0, 1) := by decide +kernel
theorem d2_32 : decode method_3_code 32 = .ok (.iload_n 0, 1) := by decide +kernel
theorem d2_33 : decode method_3_code 33 = .ok (.iconst 2, 1) := by decide +kernel
theorem d2_34 : decode method_3_code 34 = .ok (.if_icmp .ne 5, 3) := by decide +kernel
theorem d2_37 : decode method_3_code 37 = .ok (.iconst 0, 1) := by decide +kernel
theorem d2_38 : decode method_3_code 38 = .ok (.ireturn, 1) := by decide +kernel
theorem d2_39 : decode method_3_code 39 = .ok (.iconst 1, 1) := by decide +kernel
theorem d2_40 : decode method_3_code 40 = .ok (.ireturn, 1) := by decide +kernel
theorem d2_41 : decode method_3_code 41 = .ok (.iload_n 2, 1) := by decide +kernel
theorem d2_42 : decode method_3_code 42 = .ok (.iconst 1, 1) := by decide +kernel
theorem d2_43 : decode method_3_code 43 = .ok (.if_icmp .ne 5, 3) := by decide +kernel
theorem d2_46 : decode method_3_code 46 = .ok (.iconst 0, 1) := by decide +kernel
theorem d2_47 : decode method_3_code 47 = .ok (.ireturn, 1) := by decide +kernel
theorem d2_48 : decode method_3_code 48 = .ok (.iload_n 2, 1) := by decide +kernel
theorem d2_49 : decode method_3_code 49 = .ok (.iconst 3, 1) := by decide +kernel
theorem d2_50 : decode method_3_code 50 = .ok (.if_icmp .ne 5, 3) := by decide +kernel
theorem d2_53 : decode method_3_code 53 = .ok (.iconst 1, 1) := by decide +kernel
theorem d2_54 : decode method_3_code 54 = .ok (.ireturn, 1) := by decide +kernel
theorem d2_55 : decode method_3_code 55 = .ok (.iload_n 0, 1) := by decide +kernel
theorem d2_56 : decode method_3_code 56 = .ok (.iconst 4, 1) := by decide +kernel
theorem d2_57 : decode method_3_code 57 = .ok (.if_icmp .ne 5, 3) := by decide +kernel
theorem d2_60 : decode method_3_code 60 = .ok (.iload_n 1, 1) := by decide +kernel
theorem d2_61 : decode method_3_code 61 = .ok (.ireturn, 1) := by decide +kernel
theorem d2_62 : decode method_3_code 62 = .ok (.iload_n 0, 1) := by decide +kernel
theorem d2_63 : decode method_3_code 63 = .ok (.iconst 5, 1) := by decide +kernel
theorem d2_64 : decode method_3_code 64 = .ok (.if_icmp .ne 13, 3) := by decide +kernel
theorem d2_67 : decode method_3_code 67 = .ok (.iload_n 1, 1) := by decide +kernel
theorem d2_68 : decode method_3_code 68 = .ok (.ifCond .ne 7, 3) := by decide +kernel
theorem d2_71 : decode method_3_code 71 = .ok (.iconst 1, 1) := by decide +kernel
theorem d2_72 : decode method_3_code 72 = .ok (.goto 4, 3) := by decide +kernel
theorem d2_76 : decode method_3_code 76 = .ok (.ireturn, 1) := by decide +kernel
theorem d2_75 : decode method_3_code 75 = .ok (.iconst 0, 1) := by decide +kernel
theorem d2_77 : decode method_3_code 77 = .ok (.iload_n 0, 1) := by decide +kernel
theorem d2_78 : decode method_3_code 78 = .ok (.bipush 6, 2) := by decide +kernel
theorem d2_80 : decode method_3_code 80 = .ok (.if_icmp .ne 5, 3) := by decide +kernel
theorem d2_83 : decode method_3_code 83 = .ok (.iconst 0, 1) := by decide +kernel
theorem d2_84 : decode method_3_code 84 = .ok (.ireturn, 1) := by decide +kernel
theorem d2_85 : decode method_3_code 85 = .ok (.iload_n 0, 1) := by decide +kernel
theorem d2_86 : decode method_3_code 86 = .ok (.bipush 7, 2) := by decide +kernel
theorem d2_88 : decode method_3_code 88 = .ok (.if_icmp .ne 5, 3) := by decide +kernel
theorem d2_91 : decode method_3_code 91 = .ok (.iconst 1, 1) := by decide +kernel
theorem d2_92 : decode method_3_code 92 = .ok (.ireturn, 1) := by decide +kernel
theorem d2_93 : decode method_3_code 93 = .ok (.iload_n 3, 1) := by decide +kernel
theorem d2_94 : decode method_3_code 94 = .ok (.ireturn, 1) := by decide +kernel
set_option maxRecDepth 65536 in
set_option maxHeartbeats 40000000 in
theorem rm2 (l : Launch) (Z : State) (a0 : Array Value) (hw : ∀ d ∈ tables_1, d.before a0 Z = true) (k n q o : Int32) (h0 : Heap) (n0 : Nat) (Z0 : n0 ≤ h0.size)  :
    own_Met l Z (⟨"com/example/rounder/rounder/RoundingRuleRoundsAwayPinLaw", "expected", "(IZIZ)Z"⟩ : MethodName) method_3_code 4 (some .boolean) ({ frames := 0, cells := 0, slots := 0, locals := 0 } : Room) #[(.int k), (.int n), (.int q), (.int o)] h0 (own_QI (own_exp k n q o) h0 n0) := by
  refine own_enter (plainFor_of_name own_pn2) (fun m => by first | (simp [entryFrame, mkF, argsToLocals, Value.category, maxLocals]; done) | rfl) (Ls := #[.val (.int k), .val (.int n), .val (.int q), .val (.int o)]) ?_
  intro p e s m below meth c T0 K X0 e0
  have hx := K.1
  have hZ := K.2.1
  have hby := K.2.2.1
  have hown := K.2.2.2.2.1
  have N0 := Fr.nil n0
  show own_Fin p e below _ T0 (mkF m 0 #[.val (.int k), .val (.int n), .val (.int q), .val (.int o)] [])
  refine own_seg (T' := T0) (g' := (mkF m 1 #[.val (.int k), .val (.int n), .val (.int q), .val (.int o)] [(.int q)])) (fun tg kt => ?_) ?_
  · show Steps p.tables e below (T0.setTop (mkF m 0 #[.val (.int k), .val (.int n), .val (.int q), .val (.int o)] [])) tg
    refine XS.iloadN X0.here hx rfl (hb hby d2_0) rfl ?_
    exact kt
  by_cases hc1 : q = (0 : Int32)
  · skip
    refine own_seg (T' := T0) (g' := (mkF m 4 #[.val (.int k), .val (.int n), .val (.int q), .val (.int o)] [])) (fun tg kt => XS.ifNo X0.here hx rfl (hb hby d2_1) rfl ((if0 _ _).trans (teq hc1).2) kt) ?_
    refine own_seg (T' := T0) (g' := (mkF m 5 #[.val (.int k), .val (.int n), .val (.int q), .val (.int o)] [(.int (0 : Int32))])) (fun tg kt => ?_) ?_
    · show Steps p.tables e below (T0.setTop (mkF m 4 #[.val (.int k), .val (.int n), .val (.int q), .val (.int o)] [])) tg
      refine XS.iconst X0.here hx rfl (hb hby d2_4) ?_
      exact kt
    exact own_retN K (by simp) X0 d2_5 (⟨by rw [own_exp, if_pos hc1]; rfl, N0, e0⟩) (by decide) (by decide)
  · skip
    refine own_seg (T' := T0) (g' := (mkF m 6 #[.val (.int k), .val (.int n), .val (.int q), .val (.int o)] [])) (fun tg kt => XS.ifYes X0.here hx rfl (pc0 := 1) (pc' := 6) rfl (hb hby d2_1) rfl ((if0 _ _).trans (feq hc1).2) (by decide) (by decide) kt) ?_
    refine own_seg (T' := T0) (g' := (mkF m 8 #[.val (.int k), .val (.int n), .val (.int q), .val (.int o)] [(.int (4 : Int32)), (.int k)])) (fun tg kt => ?_) ?_
    · show Steps p.tables e below (T0.setTop (mkF m 6 #[.val (.int k), .val (.int n), .val (.int q), .val (.int o)] [])) tg
      refine XS.iloadN X0.here hx rfl (hb hby d2_6) rfl ?_
      show Steps p.tables e below (T0.setTop (mkF m 7 #[.val (.int k), .val (.int n), .val (.int q), .val (.int o)] [(.int k)])) tg
      refine XS.iconst X0.here hx rfl (hb hby d2_7) ?_
      exact kt
    by_cases hc8 : k < (4 : Int32)
    · skip
      refine own_seg (T' := T0) (g' := (mkF m 11 #[.val (.int k), .val (.int n), .val (.int q), .val (.int o)] [])) (fun tg kt => XS.icmpNo X0.here hx rfl (hb hby d2_8) rfl (tlt hc8).2.1 kt) ?_
      refine own_seg (T' := T0) (g' := (mkF m 12 #[.val (.int k), .val (.int n), .val (.int q), .val (.int o)] [(.int k)])) (fun tg kt => ?_) ?_
      · show Steps p.tables e below (T0.setTop (mkF m 11 #[.val (.int k), .val (.int n), .val (.int q), .val (.int o)] [])) tg
        refine XS.iloadN X0.here hx rfl (hb hby d2_11) rfl ?_
        exact kt
      by_cases hc12 : k = (0 : Int32)
      · skip
        refine own_seg (T' := T0) (g' := (mkF m 15 #[.val (.int k), .val (.int n), .val (.int q), .val (.int o)] [])) (fun tg kt => XS.ifNo X0.here hx rfl (hb hby d2_12) rfl ((if0 _ _).trans (teq hc12).2) kt) ?_
        refine own_seg (T' := T0) (g' := (mkF m 16 #[.val (.int k), .val (.int n), .val (.int q), .val (.int o)] [(.int n)])) (fun tg kt => ?_) ?_
        · show Steps p.tables e below (T0.setTop (mkF m 15 #[.val (.int k), .val (.int n), .val (.int q), .val (.int o)] [])) tg
          refine XS.iloadN X0.here hx rfl (hb hby d2_15) rfl ?_
          exact kt
        exact own_retN K (by simp) X0 d2_16 (⟨by rw [own_exp, if_neg hc1, if_pos hc8, if_pos hc12], N0, e0⟩) (by decide) (by decide)
      · skip
        refine own_seg (T' := T0) (g' := (mkF m 17 #[.val (.int k), .val (.int n), .val (.int q), .val (.int o)] [])) (fun tg kt => XS.ifYes X0.here hx rfl (pc0 := 12) (pc' := 17) rfl (hb hby d2_12) rfl ((if0 _ _).trans (feq hc12).2) (by decide) (by decide) kt) ?_
        refine own_seg (T' := T0) (g' := (mkF m 19 #[.val (.int k), .val (.int n), .val (.int q), .val (.int o)] [(.int (1 : Int32)), (.int k)])) (fun tg kt => ?_) ?_
        · show Steps p.tables e below (T0.setTop (mkF m 17 #[.val (.int k), .val (.int n), .val (.int q), .val (.int o)] [])) tg
          refine XS.iloadN X0.here hx rfl (hb hby d2_17) rfl ?_
          show Steps p.tables e below (T0.setTop (mkF m 18 #[.val (.int k), .val (.int n), .val (.int q), .val (.int o)] [(.int k)])) tg
          refine XS.iconst X0.here hx rfl (hb hby d2_18) ?_
          exact kt
        by_cases hc19 : k = (1 : Int32)
        · skip
          refine own_seg (T' := T0) (g' := (mkF m 22 #[.val (.int k), .val (.int n), .val (.int q), .val (.int o)] [])) (fun tg kt => XS.icmpNo X0.here hx rfl (hb hby d2_19) rfl (teq hc19).2 kt) ?_
          refine own_seg (T' := T0) (g' := (mkF m 23 #[.val (.int k), .val (.int n), .val (.int q), .val (.int o)] [(.int n)])) (fun tg kt => ?_) ?_
          · show Steps p.tables e below (T0.setTop (mkF m 22 #[.val (.int k), .val (.int n), .val (.int q), .val (.int o)] [])) tg
            refine XS.iloadN X0.here hx rfl (hb hby d2_22) rfl ?_
            exact kt
          by_cases hc23 : n = (0 : Int32)
          · skip
            refine own_seg (T' := T0) (g' := (mkF m 26 #[.val (.int k), .val (.int n), .val (.int q), .val (.int o)] [])) (fun tg kt => XS.ifNo X0.here hx rfl (hb hby d2_23) rfl ((if0 _ _).trans (teq hc23).2) kt) ?_
            refine own_seg (T' := T0) (g' := (mkF m 31 #[.val (.int k), .val (.int n), .val (.int q), .val (.int o)] [(.int (1 : Int32))])) (fun tg kt => ?_) ?_
            · show Steps p.tables e below (T0.setTop (mkF m 26 #[.val (.int k), .val (.int n), .val (.int q), .val (.int o)] [])) tg
              refine XS.iconst X0.here hx rfl (hb hby d2_26) ?_
              show Steps p.tables e below (T0.setTop (mkF m 27 #[.val (.int k), .val (.int n), .val (.int q), .val (.int o)] [(.int (1 : Int32))])) tg
              refine XS.goto X0.here hx rfl (pc0 := 27) (pc' := 31) rfl (hb hby d2_27) (by decide) (by decide) ?_
              exact kt
            exact own_retN K (by simp) X0 d2_31 (⟨by rw [own_exp, if_neg hc1, if_pos hc8, if_neg hc12, if_pos hc19, if_pos hc23]; rfl, N0, e0⟩) (by decide) (by decide)
          · skip
            refine own_seg (T' := T0) (g' := (mkF m 30 #[.val (.int k), .val (.int n), .val (.int q), .val (.int o)] [])) (fun tg kt => XS.ifYes X0.here hx rfl (pc0 := 23) (pc' := 30) rfl (hb hby d2_23) rfl ((if0 _ _).trans (feq hc23).2) (by decide) (by decide) kt) ?_
            refine own_seg (T' := T0) (g' := (mkF m 31 #[.val (.int k), .val (.int n), .val (.int q), .val (.int o)] [(.int (0 : Int32))])) (fun tg kt => ?_) ?_
            · show Steps p.tables e below (T0.setTop (mkF m 30 #[.val (.int k), .val (.int n), .val (.int q), .val (.int o)] [])) tg
              refine XS.iconst X0.here hx rfl (hb hby d2_30) ?_
              exact kt
            exact own_retN K (by simp) X0 d2_31 (⟨by rw [own_exp, if_neg hc1, if_pos hc8, if_neg hc12, if_pos hc19, if_neg hc23]; rfl, N0, e0⟩) (by decide) (by decide)
        · skip
          refine own_seg (T' := T0) (g' := (mkF m 32 #[.val (.int k), .val (.int n), .val (.int q), .val (.int o)] [])) (fun tg kt => XS.icmpYes X0.here hx rfl (pc0 := 19) (pc' := 32) rfl (hb hby d2_19) rfl (feq hc19).2 (by decide) (by decide) kt) ?_
          refine own_seg (T' := T0) (g' := (mkF m 34 #[.val (.int k), .val (.int n), .val (.int q), .val (.int o)] [(.int (2 : Int32)), (.int k)])) (fun tg kt => ?_) ?_
          · show Steps p.tables e below (T0.setTop (mkF m 32 #[.val (.int k), .val (.int n), .val (.int q), .val (.int o)] [])) tg
            refine XS.iloadN X0.here hx rfl (hb hby d2_32) rfl ?_
            show Steps p.tables e below (T0.setTop (mkF m 33 #[.val (.int k), .val (.int n), .val (.int q), .val (.int o)] [(.int k)])) tg
            refine XS.iconst X0.here hx rfl (hb hby d2_33) ?_
            exact kt
          by_cases hc34 : k = (2 : Int32)
          · skip
            refine own_seg (T' := T0) (g' := (mkF m 37 #[.val (.int k), .val (.int n), .val (.int q), .val (.int o)] [])) (fun tg kt => XS.icmpNo X0.here hx rfl (hb hby d2_34) rfl (teq hc34).2 kt) ?_
            refine own_seg (T' := T0) (g' := (mkF m 38 #[.val (.int k), .val (.int n), .val (.int q), .val (.int o)] [(.int (0 : Int32))])) (fun tg kt => ?_) ?_
            · show Steps p.tables e below (T0.setTop (mkF m 37 #[.val (.int k), .val (.int n), .val (.int q), .val (.int o)] [])) tg
              refine XS.iconst X0.here hx rfl (hb hby d2_37) ?_
              exact kt
            exact own_retN K (by simp) X0 d2_38 (⟨by rw [own_exp, if_neg hc1, if_pos hc8, if_neg hc12, if_neg hc19, if_pos hc34]; rfl, N0, e0⟩) (by decide) (by decide)
          · skip
            refine own_seg (T' := T0) (g' := (mkF m 39 #[.val (.int k), .val (.int n), .val (.int q), .val (.int o)] [])) (fun tg kt => XS.icmpYes X0.here hx rfl (pc0 := 34) (pc' := 39) rfl (hb hby d2_34) rfl (feq hc34).2 (by decide) (by decide) kt) ?_
            refine own_seg (T' := T0) (g' := (mkF m 40 #[.val (.int k), .val (.int n), .val (.int q), .val (.int o)] [(.int (1 : Int32))])) (fun tg kt => ?_) ?_
            · show Steps p.tables e below (T0.setTop (mkF m 39 #[.val (.int k), .val (.int n), .val (.int q), .val (.int o)] [])) tg
              refine XS.iconst X0.here hx rfl (hb hby d2_39) ?_
              exact kt
            exact own_retN K (by simp) X0 d2_40 (⟨by rw [own_exp, if_neg hc1, if_pos hc8, if_neg hc12, if_neg hc19, if_neg hc34]; rfl, N0, e0⟩) (by decide) (by decide)
    · skip
      refine own_seg (T' := T0) (g' := (mkF m 41 #[.val (.int k), .val (.int n), .val (.int q), .val (.int o)] [])) (fun tg kt => XS.icmpYes X0.here hx rfl (pc0 := 8) (pc' := 41) rfl (hb hby d2_8) rfl (flt hc8).2.1 (by decide) (by decide) kt) ?_
      refine own_seg (T' := T0) (g' := (mkF m 43 #[.val (.int k), .val (.int n), .val (.int q), .val (.int o)] [(.int (1 : Int32)), (.int q)])) (fun tg kt => ?_) ?_
      · show Steps p.tables e below (T0.setTop (mkF m 41 #[.val (.int k), .val (.int n), .val (.int q), .val (.int o)] [])) tg
        refine XS.iloadN X0.here hx rfl (hb hby d2_41) rfl ?_
        show Steps p.tables e below (T0.setTop (mkF m 42 #[.val (.int k), .val (.int n), .val (.int q), .val (.int o)] [(.int q)])) tg
        refine XS.iconst X0.here hx rfl (hb hby d2_42) ?_
        exact kt
      by_cases hc43 : q = (1 : Int32)
      · skip
        refine own_seg (T' := T0) (g' := (mkF m 46 #[.val (.int k), .val (.int n), .val (.int q), .val (.int o)] [])) (fun tg kt => XS.icmpNo X0.here hx rfl (hb hby d2_43) rfl (teq hc43).2 kt) ?_
        refine own_seg (T' := T0) (g' := (mkF m 47 #[.val (.int k), .val (.int n), .val (.int q), .val (.int o)] [(.int (0 : Int32))])) (fun tg kt => ?_) ?_
        · show Steps p.tables e below (T0.setTop (mkF m 46 #[.val (.int k), .val (.int n), .val (.int q), .val (.int o)] [])) tg
          refine XS.iconst X0.here hx rfl (hb hby d2_46) ?_
          exact kt
        exact own_retN K (by simp) X0 d2_47 (⟨by rw [own_exp, if_neg hc1, if_neg hc8, if_pos hc43]; rfl, N0, e0⟩) (by decide) (by decide)
      · skip
        refine own_seg (T' := T0) (g' := (mkF m 48 #[.val (.int k), .val (.int n), .val (.int q), .val (.int o)] [])) (fun tg kt => XS.icmpYes X0.here hx rfl (pc0 := 43) (pc' := 48) rfl (hb hby d2_43) rfl (feq hc43).2 (by decide) (by decide) kt) ?_
        refine own_seg (T' := T0) (g' := (mkF m 50 #[.val (.int k), .val (.int n), .val (.int q), .val (.int o)] [(.int (3 : Int32)), (.int q)])) (fun tg kt => ?_) ?_
        · show Steps p.tables e below (T0.setTop (mkF m 48 #[.val (.int k), .val (.int n), .val (.int q), .val (.int o)] [])) tg
          refine XS.iloadN X0.here hx rfl (hb hby d2_48) rfl ?_
          show Steps p.tables e below (T0.setTop (mkF m 49 #[.val (.int k), .val (.int n), .val (.int q), .val (.int o)] [(.int q)])) tg
          refine XS.iconst X0.here hx rfl (hb hby d2_49) ?_
          exact kt
        by_cases hc50 : q = (3 : Int32)
        · skip
          refine own_seg (T' := T0) (g' := (mkF m 53 #[.val (.int k), .val (.int n), .val (.int q), .val (.int o)] [])) (fun tg kt => XS.icmpNo X0.here hx rfl (hb hby d2_50) rfl (teq hc50).2 kt) ?_
          refine own_seg (T' := T0) (g' := (mkF m 54 #[.val (.int k), .val (.int n), .val (.int q), .val (.int o)] [(.int (1 : Int32))])) (fun tg kt => ?_) ?_
          · show Steps p.tables e below (T0.setTop (mkF m 53 #[.val (.int k), .val (.int n), .val (.int q), .val (.int o)] [])) tg
            refine XS.iconst X0.here hx rfl (hb hby d2_53) ?_
            exact kt
          exact own_retN K (by simp) X0 d2_54 (⟨by rw [own_exp, if_neg hc1, if_neg hc8, if_neg hc43, if_pos hc50]; rfl, N0, e0⟩) (by decide) (by decide)
        · skip
          refine own_seg (T' := T0) (g' := (mkF m 55 #[.val (.int k), .val (.int n), .val (.int q), .val (.int o)] [])) (fun tg kt => XS.icmpYes X0.here hx rfl (pc0 := 50) (pc' := 55) rfl (hb hby d2_50) rfl (feq hc50).2 (by decide) (by decide) kt) ?_
          refine own_seg (T' := T0) (g' := (mkF m 57 #[.val (.int k), .val (.int n), .val (.int q), .val (.int o)] [(.int (4 : Int32)), (.int k)])) (fun tg kt => ?_) ?_
          · show Steps p.tables e below (T0.setTop (mkF m 55 #[.val (.int k), .val (.int n), .val (.int q), .val (.int o)] [])) tg
            refine XS.iloadN X0.here hx rfl (hb hby d2_55) rfl ?_
            show Steps p.tables e below (T0.setTop (mkF m 56 #[.val (.int k), .val (.int n), .val (.int q), .val (.int o)] [(.int k)])) tg
            refine XS.iconst X0.here hx rfl (hb hby d2_56) ?_
            exact kt
          by_cases hc57 : k = (4 : Int32)
          · skip
            refine own_seg (T' := T0) (g' := (mkF m 60 #[.val (.int k), .val (.int n), .val (.int q), .val (.int o)] [])) (fun tg kt => XS.icmpNo X0.here hx rfl (hb hby d2_57) rfl (teq hc57).2 kt) ?_
            refine own_seg (T' := T0) (g' := (mkF m 61 #[.val (.int k), .val (.int n), .val (.int q), .val (.int o)] [(.int n)])) (fun tg kt => ?_) ?_
            · show Steps p.tables e below (T0.setTop (mkF m 60 #[.val (.int k), .val (.int n), .val (.int q), .val (.int o)] [])) tg
              refine XS.iloadN X0.here hx rfl (hb hby d2_60) rfl ?_
              exact kt
            exact own_retN K (by simp) X0 d2_61 (⟨by rw [own_exp, if_neg hc1, if_neg hc8, if_neg hc43, if_neg hc50, if_pos hc57], N0, e0⟩) (by decide) (by decide)
          · skip
            refine own_seg (T' := T0) (g' := (mkF m 62 #[.val (.int k), .val (.int n), .val (.int q), .val (.int o)] [])) (fun tg kt => XS.icmpYes X0.here hx rfl (pc0 := 57) (pc' := 62) rfl (hb hby d2_57) rfl (feq hc57).2 (by decide) (by decide) kt) ?_
            refine own_seg (T' := T0) (g' := (mkF m 64 #[.val (.int k), .val (.int n), .val (.int q), .val (.int o)] [(.int (5 : Int32)), (.int k)])) (fun tg kt => ?_) ?_
            · show Steps p.tables e below (T0.setTop (mkF m 62 #[.val (.int k), .val (.int n), .val (.int q), .val (.int o)] [])) tg
              refine XS.iloadN X0.here hx rfl (hb hby d2_62) rfl ?_
              show Steps p.tables e below (T0.setTop (mkF m 63 #[.val (.int k), .val (.int n), .val (.int q), .val (.int o)] [(.int k)])) tg
              refine XS.iconst X0.here hx rfl (hb hby d2_63) ?_
              exact kt
            by_cases hc64 : k = (5 : Int32)
            · skip
              refine own_seg (T' := T0) (g' := (mkF m 67 #[.val (.int k), .val (.int n), .val (.int q), .val (.int o)] [])) (fun tg kt => XS.icmpNo X0.here hx rfl (hb hby d2_64) rfl (teq hc64).2 kt) ?_
              refine own_seg (T' := T0) (g' := (mkF m 68 #[.val (.int k), .val (.int n), .val (.int q), .val (.int o)] [(.int n)])) (fun tg kt => ?_) ?_
              · show Steps p.tables e below (T0.setTop (mkF m 67 #[.val (.int k), .val (.int n), .val (.int q), .val (.int o)] [])) tg
                refine XS.iloadN X0.here hx rfl (hb hby d2_67) rfl ?_
                exact kt
              by_cases hc68 : n = (0 : Int32)
              · skip
                refine own_seg (T' := T0) (g' := (mkF m 71 #[.val (.int k), .val (.int n), .val (.int q), .val (.int o)] [])) (fun tg kt => XS.ifNo X0.here hx rfl (hb hby d2_68) rfl ((if0 _ _).trans (teq hc68).2) kt) ?_
                refine own_seg (T' := T0) (g' := (mkF m 76 #[.val (.int k), .val (.int n), .val (.int q), .val (.int o)] [(.int (1 : Int32))])) (fun tg kt => ?_) ?_
                · show Steps p.tables e below (T0.setTop (mkF m 71 #[.val (.int k), .val (.int n), .val (.int q), .val (.int o)] [])) tg
                  refine XS.iconst X0.here hx rfl (hb hby d2_71) ?_
                  show Steps p.tables e below (T0.setTop (mkF m 72 #[.val (.int k), .val (.int n), .val (.int q), .val (.int o)] [(.int (1 : Int32))])) tg
                  refine XS.goto X0.here hx rfl (pc0 := 72) (pc' := 76) rfl (hb hby d2_72) (by decide) (by decide) ?_
                  exact kt
                exact own_retN K (by simp) X0 d2_76 (⟨by rw [own_exp, if_neg hc1, if_neg hc8, if_neg hc43, if_neg hc50, if_neg hc57, if_pos hc64, if_pos hc68]; rfl, N0, e0⟩) (by decide) (by decide)
              · skip
                refine own_seg (T' := T0) (g' := (mkF m 75 #[.val (.int k), .val (.int n), .val (.int q), .val (.int o)] [])) (fun tg kt => XS.ifYes X0.here hx rfl (pc0 := 68) (pc' := 75) rfl (hb hby d2_68) rfl ((if0 _ _).trans (feq hc68).2) (by decide) (by decide) kt) ?_
                refine own_seg (T' := T0) (g' := (mkF m 76 #[.val (.int k), .val (.int n), .val (.int q), .val (.int o)] [(.int (0 : Int32))])) (fun tg kt => ?_) ?_
                · show Steps p.tables e below (T0.setTop (mkF m 75 #[.val (.int k), .val (.int n), .val (.int q), .val (.int o)] [])) tg
                  refine XS.iconst X0.here hx rfl (hb hby d2_75) ?_
                  exact kt
                exact own_retN K (by simp) X0 d2_76 (⟨by rw [own_exp, if_neg hc1, if_neg hc8, if_neg hc43, if_neg hc50, if_neg hc57, if_pos hc64, if_neg hc68]; rfl, N0, e0⟩) (by decide) (by decide)
            · skip
              refine own_seg (T' := T0) (g' := (mkF m 77 #[.val (.int k), .val (.int n), .val (.int q), .val (.int o)] [])) (fun tg kt => XS.icmpYes X0.here hx rfl (pc0 := 64) (pc' := 77) rfl (hb hby d2_64) rfl (feq hc64).2 (by decide) (by decide) kt) ?_
              refine own_seg (T' := T0) (g' := (mkF m 80 #[.val (.int k), .val (.int n), .val (.int q), .val (.int o)] [(.int (6 : Int32)), (.int k)])) (fun tg kt => ?_) ?_
              · show Steps p.tables e below (T0.setTop (mkF m 77 #[.val (.int k), .val (.int n), .val (.int q), .val (.int o)] [])) tg
                refine XS.iloadN X0.here hx rfl (hb hby d2_77) rfl ?_
                show Steps p.tables e below (T0.setTop (mkF m 78 #[.val (.int k), .val (.int n), .val (.int q), .val (.int o)] [(.int k)])) tg
                refine XS.bipush X0.here hx rfl (hb hby d2_78) ?_
                exact kt
              by_cases hc80 : k = (6 : Int32)
              · skip
                refine own_seg (T' := T0) (g' := (mkF m 83 #[.val (.int k), .val (.int n), .val (.int q), .val (.int o)] [])) (fun tg kt => XS.icmpNo X0.here hx rfl (hb hby d2_80) rfl (teq hc80).2 kt) ?_
                refine own_seg (T' := T0) (g' := (mkF m 84 #[.val (.int k), .val (.int n), .val (.int q), .val (.int o)] [(.int (0 : Int32))])) (fun tg kt => ?_) ?_
                · show Steps p.tables e below (T0.setTop (mkF m 83 #[.val (.int k), .val (.int n), .val (.int q), .val (.int o)] [])) tg
                  refine XS.iconst X0.here hx rfl (hb hby d2_83) ?_
                  exact kt
                exact own_retN K (by simp) X0 d2_84 (⟨by rw [own_exp, if_neg hc1, if_neg hc8, if_neg hc43, if_neg hc50, if_neg hc57, if_neg hc64, if_pos hc80]; rfl, N0, e0⟩) (by decide) (by decide)
              · skip
                refine own_seg (T' := T0) (g' := (mkF m 85 #[.val (.int k), .val (.int n), .val (.int q), .val (.int o)] [])) (fun tg kt => XS.icmpYes X0.here hx rfl (pc0 := 80) (pc' := 85) rfl (hb hby d2_80) rfl (feq hc80).2 (by decide) (by decide) kt) ?_
                refine own_seg (T' := T0) (g' := (mkF m 88 #[.val (.int k), .val (.int n), .val (.int q), .val (.int o)] [(.int (7 : Int32)), (.int k)])) (fun tg kt => ?_) ?_
                · show Steps p.tables e below (T0.setTop (mkF m 85 #[.val (.int k), .val (.int n), .val (.int q), .val (.int o)] [])) tg
                  refine XS.iloadN X0.here hx rfl (hb hby d2_85) rfl ?_
                  show Steps p.tables e below (T0.setTop (mkF m 86 #[.val (.int k), .val (.int n), .val (.int q), .val (.int o)] [(.int k)])) tg
                  refine XS.bipush X0.here hx rfl (hb hby d2_86) ?_
                  exact kt
                by_cases hc88 : k = (7 : Int32)
                · skip
                  refine own_seg (T' := T0) (g' := (mkF m 91 #[.val (.int k), .val (.int n), .val (.int q), .val (.int o)] [])) (fun tg kt => XS.icmpNo X0.here hx rfl (hb hby d2_88) rfl (teq hc88).2 kt) ?_
                  refine own_seg (T' := T0) (g' := (mkF m 92 #[.val (.int k), .val (.int n), .val (.int q), .val (.int o)] [(.int (1 : Int32))])) (fun tg kt => ?_) ?_
                  · show Steps p.tables e below (T0.setTop (mkF m 91 #[.val (.int k), .val (.int n), .val (.int q), .val (.int o)] [])) tg
                    refine XS.iconst X0.here hx rfl (hb hby d2_91) ?_
                    exact kt
                  exact own_retN K (by simp) X0 d2_92 (⟨by rw [own_exp, if_neg hc1, if_neg hc8, if_neg hc43, if_neg hc50, if_neg hc57, if_neg hc64, if_neg hc80, if_pos hc88]; rfl, N0, e0⟩) (by decide) (by decide)
                · skip
                  refine own_seg (T' := T0) (g' := (mkF m 93 #[.val (.int k), .val (.int n), .val (.int q), .val (.int o)] [])) (fun tg kt => XS.icmpYes X0.here hx rfl (pc0 := 88) (pc' := 93) rfl (hb hby d2_88) rfl (feq hc88).2 (by decide) (by decide) kt) ?_
                  refine own_seg (T' := T0) (g' := (mkF m 94 #[.val (.int k), .val (.int n), .val (.int q), .val (.int o)] [(.int o)])) (fun tg kt => ?_) ?_
                  · show Steps p.tables e below (T0.setTop (mkF m 93 #[.val (.int k), .val (.int n), .val (.int q), .val (.int o)] [])) tg
                    refine XS.iloadN X0.here hx rfl (hb hby d2_93) rfl ?_
                    exact kt
                  exact own_retN K (by simp) X0 d2_94 (⟨by rw [own_exp, if_neg hc1, if_neg hc8, if_neg hc43, if_neg hc50, if_neg hc57, if_neg hc64, if_neg hc80, if_neg hc88], N0, e0⟩) (by decide) (by decide)
theorem own_pn3 : plainName "com/example/rounder/rounder/RoundingRule" = true := by first | (simp [plainName, overriddenIn]; done) | decide +kernel
theorem d3_0 : decode prog_39_method_7_code 0 = .ok (.iload_n 1, 1) := by decide +kernel
theorem d3_1 : decode prog_39_method_7_code 1 = .ok (.ifCond .eq 8, 3) := by decide +kernel
theorem d3_9 : decode prog_39_method_7_code 9 = .ok (.iconst 0, 1) := by decide +kernel
theorem d3_10 : decode prog_39_method_7_code 10 = .ok (.iload_n 3, 1) := by decide +kernel
theorem d3_11 : decode prog_39_method_7_code 11 = .ok (.ifCond .eq 7, 3) := by decide +kernel
theorem d3_18 : decode prog_39_method_7_code 18 = .ok (.iconst 0, 1) := by decide +kernel
theorem d3_19 : decode prog_39_method_7_code 19 = .ok (.ior, 1) := by decide +kernel
theorem d3_20 : decode prog_39_method_7_code 20 = .ok (.iload_n 2, 1) := by decide +kernel
theorem d3_21 : decode prog_39_method_7_code 21 = .ok (.ior, 1) := by decide +kernel
theorem d3_22 : decode prog_39_method_7_code 22 = .ok (.istore 4, 2) := by decide +kernel
theorem d3_24 : decode prog_39_method_7_code 24 = .ok (.aload_n 0, 1) := by decide +kernel
theorem d3_25 : decode prog_39_method_7_code 25 = .ok (.getfield 89, 3) := by decide +kernel
theorem d3_28 : decode prog_39_method_7_code 28 = .ok (.iload 4, 2) := by decide +kernel
theorem d3_30 : decode prog_39_method_7_code 30 = .ok (.iushr, 1) := by decide +kernel
theorem d3_31 : decode prog_39_method_7_code 31 = .ok (.iconst 1, 1) := by decide +kernel
theorem d3_32 : decode prog_39_method_7_code 32 = .ok (.iand, 1) := by decide +kernel
theorem d3_33 : decode prog_39_method_7_code 33 = .ok (.ifCond .eq 7, 3) := by decide +kernel
theorem d3_40 : decode prog_39_method_7_code 40 = .ok (.iconst 0, 1) := by decide +kernel
theorem d3_41 : decode prog_39_method_7_code 41 = .ok (.ireturn, 1) := by decide +kernel
theorem d3_36 : decode prog_39_method_7_code 36 = .ok (.iconst 1, 1) := by decide +kernel
theorem d3_37 : decode prog_39_method_7_code 37 = .ok (.goto 4, 3) := by decide +kernel
theorem d3_14 : decode prog_39_method_7_code 14 = .ok (.iconst 4, 1) := by decide +kernel
theorem d3_15 : decode prog_39_method_7_code 15 = .ok (.goto 4, 3) := by decide +kernel
theorem d3_4 : decode prog_39_method_7_code 4 = .ok (.bipush 8, 2) := by decide +kernel
theorem d3_6 : decode prog_39_method_7_code 6 = .ok (.goto 4, 3) := by decide +kernel
set_option maxRecDepth 65536 in
set_option maxHeartbeats 40000000 in
theorem rm3 (l : Launch) (Z : State) (a0 : Array Value) (hw : ∀ d ∈ tables_1, d.before a0 Z = true) (a1 : Addr) (M n q o : Int32) (h0 : Heap) (n0 : Nat) (Z0 : n0 ≤ h0.size) (O_a1 : own_Obj Z h0 a1 "com/example/rounder/rounder/RoundingRule" [("com/example/rounder/rounder/RoundingRule", "awayFromZero", "I", .int M)]) :
    own_Met l Z (⟨"com/example/rounder/rounder/RoundingRule", "roundsAway", "(ZIZ)Z"⟩ : MethodName) prog_39_method_7_code 5 (some .boolean) ({ frames := 0, cells := 0, slots := 0, locals := 0 } : Room) #[(.ref a1), (.int n), (.int q), (.int o)] h0 (own_QI (own_away M n q o) h0 n0) := by
  refine own_enter (plainFor_of_name own_pn3) (fun m => by first | (simp [entryFrame, mkF, argsToLocals, Value.category, maxLocals]; done) | rfl) (Ls := #[.val (.ref a1), .val (.int n), .val (.int q), .val (.int o), .unset]) ?_
  intro p e s m below meth c T0 K X0 e0
  have hx := K.1
  have hZ := K.2.1
  have hby := K.2.2.1
  have hown := K.2.2.2.2.1
  have N0 := Fr.nil n0
  show own_Fin p e below _ T0 (mkF m 0 #[.val (.ref a1), .val (.int n), .val (.int q), .val (.int o), .unset] [])
  refine own_seg (T' := T0) (g' := (mkF m 1 #[.val (.ref a1), .val (.int n), .val (.int q), .val (.int o), .unset] [(.int n)])) (fun tg kt => ?_) ?_
  · show Steps p.tables e below (T0.setTop (mkF m 0 #[.val (.ref a1), .val (.int n), .val (.int q), .val (.int o), .unset] [])) tg
    refine XS.iloadN X0.here hx rfl (hb hby d3_0) rfl ?_
    exact kt
  by_cases hc1 : n = (0 : Int32)
  · skip
    refine own_seg (T' := T0) (g' := (mkF m 9 #[.val (.ref a1), .val (.int n), .val (.int q), .val (.int o), .unset] [])) (fun tg kt => XS.ifYes X0.here hx rfl (pc0 := 1) (pc' := 9) rfl (hb hby d3_1) rfl ((if0 _ _).trans (teq hc1).1) (by decide) (by decide) kt) ?_
    refine own_seg (T' := T0) (g' := (mkF m 11 #[.val (.ref a1), .val (.int n), .val (.int q), .val (.int o), .unset] [(.int o), (.int (0 : Int32))])) (fun tg kt => ?_) ?_
    · show Steps p.tables e below (T0.setTop (mkF m 9 #[.val (.ref a1), .val (.int n), .val (.int q), .val (.int o), .unset] [])) tg
      refine XS.iconst X0.here hx rfl (hb hby d3_9) ?_
      show Steps p.tables e below (T0.setTop (mkF m 10 #[.val (.ref a1), .val (.int n), .val (.int q), .val (.int o), .unset] [(.int (0 : Int32))])) tg
      refine XS.iloadN X0.here hx rfl (hb hby d3_10) rfl ?_
      exact kt
    by_cases hc11 : o = (0 : Int32)
    · skip
      refine own_seg (T' := T0) (g' := (mkF m 18 #[.val (.ref a1), .val (.int n), .val (.int q), .val (.int o), .unset] [(.int (0 : Int32))])) (fun tg kt => XS.ifYes X0.here hx rfl (pc0 := 11) (pc' := 18) rfl (hb hby d3_11) rfl ((if0 _ _).trans (teq hc11).1) (by decide) (by decide) kt) ?_
      refine own_seg (T' := T0) (g' := (mkF m 25 #[.val (.ref a1), .val (.int n), .val (.int q), .val (.int o), .val (.int ((0 : Int32) ||| q))] [(.ref a1)])) (fun tg kt => ?_) ?_
      · show Steps p.tables e below (T0.setTop (mkF m 18 #[.val (.ref a1), .val (.int n), .val (.int q), .val (.int o), .unset] [(.int (0 : Int32))])) tg
        refine XS.iconst X0.here hx rfl (hb hby d3_18) ?_
        show Steps p.tables e below (T0.setTop (mkF m 19 #[.val (.ref a1), .val (.int n), .val (.int q), .val (.int o), .unset] [(.int (0 : Int32)), (.int (0 : Int32))])) tg
        refine XS.ior X0.here hx rfl (hb hby d3_19) rfl ?_
        show Steps p.tables e below (T0.setTop (mkF m 20 #[.val (.ref a1), .val (.int n), .val (.int q), .val (.int o), .unset] [(.int (0 : Int32))])) tg
        refine XS.iloadN X0.here hx rfl (hb hby d3_20) rfl ?_
        show Steps p.tables e below (T0.setTop (mkF m 21 #[.val (.ref a1), .val (.int n), .val (.int q), .val (.int o), .unset] [(.int q), (.int (0 : Int32))])) tg
        refine XS.ior X0.here hx rfl (hb hby d3_21) rfl ?_
        show Steps p.tables e below (T0.setTop (mkF m 22 #[.val (.ref a1), .val (.int n), .val (.int q), .val (.int o), .unset] [(.int ((0 : Int32) ||| q))])) tg
        refine XS.istore X0.here hx rfl (hb hby d3_22) rfl (l' := #[.val (.ref a1), .val (.int n), .val (.int q), .val (.int o), .val (.int ((0 : Int32) ||| q))]) rfl ?_
        show Steps p.tables e below (T0.setTop (mkF m 24 #[.val (.ref a1), .val (.int n), .val (.int q), .val (.int o), .val (.int ((0 : Int32) ||| q))] [])) tg
        refine XS.aloadN X0.here hx rfl (hb hby d3_24) rfl rfl ?_
        exact kt
      refine own_getF K X0 e0 (host := "") (Or.inl (hw _ (List.mem_of_getElem? (i := 16) rfl))) Via.refl (O_a1.get 0 rfl) d3_25 ?_
      intro T1 X1 e1
      show own_Fin p e below _ T1 (mkF m 28 #[.val (.ref a1), .val (.int n), .val (.int q), .val (.int o), .val (.int ((0 : Int32) ||| q))] [(.int M)])
      refine own_seg (T' := T1) (g' := (mkF m 33 #[.val (.ref a1), .val (.int n), .val (.int q), .val (.int o), .val (.int ((0 : Int32) ||| q))] [(.int (((M.toUInt32 >>> (((0 : Int32) ||| q) &&& 31).toUInt32).toInt32) &&& (1 : Int32)))])) (fun tg kt => ?_) ?_
      · show Steps p.tables e below (T1.setTop (mkF m 28 #[.val (.ref a1), .val (.int n), .val (.int q), .val (.int o), .val (.int ((0 : Int32) ||| q))] [(.int M)])) tg
        refine XS.iload X1.here hx rfl (hb hby d3_28) rfl ?_
        show Steps p.tables e below (T1.setTop (mkF m 30 #[.val (.ref a1), .val (.int n), .val (.int q), .val (.int o), .val (.int ((0 : Int32) ||| q))] [(.int ((0 : Int32) ||| q)), (.int M)])) tg
        refine XS.iushr X1.here hx rfl (hb hby d3_30) rfl ?_
        show Steps p.tables e below (T1.setTop (mkF m 31 #[.val (.ref a1), .val (.int n), .val (.int q), .val (.int o), .val (.int ((0 : Int32) ||| q))] [(.int ((M.toUInt32 >>> (((0 : Int32) ||| q) &&& 31).toUInt32).toInt32))])) tg
        refine XS.iconst X1.here hx rfl (hb hby d3_31) ?_
        show Steps p.tables e below (T1.setTop (mkF m 32 #[.val (.ref a1), .val (.int n), .val (.int q), .val (.int o), .val (.int ((0 : Int32) ||| q))] [(.int (1 : Int32)), (.int ((M.toUInt32 >>> (((0 : Int32) ||| q) &&& 31).toUInt32).toInt32))])) tg
        refine XS.iand X1.here hx rfl (hb hby d3_32) rfl ?_
        exact kt
      by_cases hc33 : (((M.toUInt32 >>> (((0 : Int32) ||| q) &&& 31).toUInt32).toInt32) &&& (1 : Int32)) = (0 : Int32)
      · skip
        refine own_seg (T' := T1) (g' := (mkF m 40 #[.val (.ref a1), .val (.int n), .val (.int q), .val (.int o), .val (.int ((0 : Int32) ||| q))] [])) (fun tg kt => XS.ifYes X1.here hx rfl (pc0 := 33) (pc' := 40) rfl (hb hby d3_33) rfl ((if0 _ _).trans (teq hc33).1) (by decide) (by decide) kt) ?_
        refine own_seg (T' := T1) (g' := (mkF m 41 #[.val (.ref a1), .val (.int n), .val (.int q), .val (.int o), .val (.int ((0 : Int32) ||| q))] [(.int (0 : Int32))])) (fun tg kt => ?_) ?_
        · show Steps p.tables e below (T1.setTop (mkF m 40 #[.val (.ref a1), .val (.int n), .val (.int q), .val (.int o), .val (.int ((0 : Int32) ||| q))] [])) tg
          refine XS.iconst X1.here hx rfl (hb hby d3_40) ?_
          exact kt
        exact own_retN K (by simp) X1 d3_41 (⟨by rw [own_away, own_ix, if_pos hc1, if_pos hc11, if_pos hc33]; rfl, N0, e1⟩) (by decide) (by decide)
      · skip
        refine own_seg (T' := T1) (g' := (mkF m 36 #[.val (.ref a1), .val (.int n), .val (.int q), .val (.int o), .val (.int ((0 : Int32) ||| q))] [])) (fun tg kt => XS.ifNo X1.here hx rfl (hb hby d3_33) rfl ((if0 _ _).trans (feq hc33).1) kt) ?_
        refine own_seg (T' := T1) (g' := (mkF m 41 #[.val (.ref a1), .val (.int n), .val (.int q), .val (.int o), .val (.int ((0 : Int32) ||| q))] [(.int (1 : Int32))])) (fun tg kt => ?_) ?_
        · show Steps p.tables e below (T1.setTop (mkF m 36 #[.val (.ref a1), .val (.int n), .val (.int q), .val (.int o), .val (.int ((0 : Int32) ||| q))] [])) tg
          refine XS.iconst X1.here hx rfl (hb hby d3_36) ?_
          show Steps p.tables e below (T1.setTop (mkF m 37 #[.val (.ref a1), .val (.int n), .val (.int q), .val (.int o), .val (.int ((0 : Int32) ||| q))] [(.int (1 : Int32))])) tg
          refine XS.goto X1.here hx rfl (pc0 := 37) (pc' := 41) rfl (hb hby d3_37) (by decide) (by decide) ?_
          exact kt
        exact own_retN K (by simp) X1 d3_41 (⟨by rw [own_away, own_ix, if_pos hc1, if_pos hc11, if_neg hc33]; rfl, N0, e1⟩) (by decide) (by decide)
    · skip
      refine own_seg (T' := T0) (g' := (mkF m 14 #[.val (.ref a1), .val (.int n), .val (.int q), .val (.int o), .unset] [(.int (0 : Int32))])) (fun tg kt => XS.ifNo X0.here hx rfl (hb hby d3_11) rfl ((if0 _ _).trans (feq hc11).1) kt) ?_
      refine own_seg (T' := T0) (g' := (mkF m 25 #[.val (.ref a1), .val (.int n), .val (.int q), .val (.int o), .val (.int ((4 : Int32) ||| q))] [(.ref a1)])) (fun tg kt => ?_) ?_
      · show Steps p.tables e below (T0.setTop (mkF m 14 #[.val (.ref a1), .val (.int n), .val (.int q), .val (.int o), .unset] [(.int (0 : Int32))])) tg
        refine XS.iconst X0.here hx rfl (hb hby d3_14) ?_
        show Steps p.tables e below (T0.setTop (mkF m 15 #[.val (.ref a1), .val (.int n), .val (.int q), .val (.int o), .unset] [(.int (4 : Int32)), (.int (0 : Int32))])) tg
        refine XS.goto X0.here hx rfl (pc0 := 15) (pc' := 19) rfl (hb hby d3_15) (by decide) (by decide) ?_
        show Steps p.tables e below (T0.setTop (mkF m 19 #[.val (.ref a1), .val (.int n), .val (.int q), .val (.int o), .unset] [(.int (4 : Int32)), (.int (0 : Int32))])) tg
        refine XS.ior X0.here hx rfl (hb hby d3_19) rfl ?_
        show Steps p.tables e below (T0.setTop (mkF m 20 #[.val (.ref a1), .val (.int n), .val (.int q), .val (.int o), .unset] [(.int (4 : Int32))])) tg
        refine XS.iloadN X0.here hx rfl (hb hby d3_20) rfl ?_
        show Steps p.tables e below (T0.setTop (mkF m 21 #[.val (.ref a1), .val (.int n), .val (.int q), .val (.int o), .unset] [(.int q), (.int (4 : Int32))])) tg
        refine XS.ior X0.here hx rfl (hb hby d3_21) rfl ?_
        show Steps p.tables e below (T0.setTop (mkF m 22 #[.val (.ref a1), .val (.int n), .val (.int q), .val (.int o), .unset] [(.int ((4 : Int32) ||| q))])) tg
        refine XS.istore X0.here hx rfl (hb hby d3_22) rfl (l' := #[.val (.ref a1), .val (.int n), .val (.int q), .val (.int o), .val (.int ((4 : Int32) ||| q))]) rfl ?_
        show Steps p.tables e below (T0.setTop (mkF m 24 #[.val (.ref a1), .val (.int n), .val (.int q), .val (.int o), .val (.int ((4 : Int32) ||| q))] [])) tg
        refine XS.aloadN X0.here hx rfl (hb hby d3_24) rfl rfl ?_
        exact kt
      refine own_getF K X0 e0 (host := "") (Or.inl (hw _ (List.mem_of_getElem? (i := 16) rfl))) Via.refl (O_a1.get 0 rfl) d3_25 ?_
      intro T2 X2 e2
      show own_Fin p e below _ T2 (mkF m 28 #[.val (.ref a1), .val (.int n), .val (.int q), .val (.int o), .val (.int ((4 : Int32) ||| q))] [(.int M)])
      refine own_seg (T' := T2) (g' := (mkF m 33 #[.val (.ref a1), .val (.int n), .val (.int q), .val (.int o), .val (.int ((4 : Int32) ||| q))] [(.int (((M.toUInt32 >>> (((4 : Int32) ||| q) &&& 31).toUInt32).toInt32) &&& (1 : Int32)))])) (fun tg kt => ?_) ?_
      · show Steps p.tables e below (T2.setTop (mkF m 28 #[.val (.ref a1), .val (.int n), .val (.int q), .val (.int o), .val (.int ((4 : Int32) ||| q))] [(.int M)])) tg
        refine XS.iload X2.here hx rfl (hb hby d3_28) rfl ?_
        show Steps p.tables e below (T2.setTop (mkF m 30 #[.val (.ref a1), .val (.int n), .val (.int q), .val (.int o), .val (.int ((4 : Int32) ||| q))] [(.int ((4 : Int32) ||| q)), (.int M)])) tg
        refine XS.iushr X2.here hx rfl (hb hby d3_30) rfl ?_
        show Steps p.tables e below (T2.setTop (mkF m 31 #[.val (.ref a1), .val (.int n), .val (.int q), .val (.int o), .val (.int ((4 : Int32) ||| q))] [(.int ((M.toUInt32 >>> (((4 : Int32) ||| q) &&& 31).toUInt32).toInt32))])) tg
        refine XS.iconst X2.here hx rfl (hb hby d3_31) ?_
        show Steps p.tables e below (T2.setTop (mkF m 32 #[.val (.ref a1), .val (.int n), .val (.int q), .val (.int o), .val (.int ((4 : Int32) ||| q))] [(.int (1 : Int32)), (.int ((M.toUInt32 >>> (((4 : Int32) ||| q) &&& 31).toUInt32).toInt32))])) tg
        refine XS.iand X2.here hx rfl (hb hby d3_32) rfl ?_
        exact kt
      by_cases hc33 : (((M.toUInt32 >>> (((4 : Int32) ||| q) &&& 31).toUInt32).toInt32) &&& (1 : Int32)) = (0 : Int32)
      · skip
        refine own_seg (T' := T2) (g' := (mkF m 40 #[.val (.ref a1), .val (.int n), .val (.int q), .val (.int o), .val (.int ((4 : Int32) ||| q))] [])) (fun tg kt => XS.ifYes X2.here hx rfl (pc0 := 33) (pc' := 40) rfl (hb hby d3_33) rfl ((if0 _ _).trans (teq hc33).1) (by decide) (by decide) kt) ?_
        refine own_seg (T' := T2) (g' := (mkF m 41 #[.val (.ref a1), .val (.int n), .val (.int q), .val (.int o), .val (.int ((4 : Int32) ||| q))] [(.int (0 : Int32))])) (fun tg kt => ?_) ?_
        · show Steps p.tables e below (T2.setTop (mkF m 40 #[.val (.ref a1), .val (.int n), .val (.int q), .val (.int o), .val (.int ((4 : Int32) ||| q))] [])) tg
          refine XS.iconst X2.here hx rfl (hb hby d3_40) ?_
          exact kt
        exact own_retN K (by simp) X2 d3_41 (⟨by rw [own_away, own_ix, if_pos hc1, if_neg hc11, if_pos hc33]; rfl, N0, e2⟩) (by decide) (by decide)
      · skip
        refine own_seg (T' := T2) (g' := (mkF m 36 #[.val (.ref a1), .val (.int n), .val (.int q), .val (.int o), .val (.int ((4 : Int32) ||| q))] [])) (fun tg kt => XS.ifNo X2.here hx rfl (hb hby d3_33) rfl ((if0 _ _).trans (feq hc33).1) kt) ?_
        refine own_seg (T' := T2) (g' := (mkF m 41 #[.val (.ref a1), .val (.int n), .val (.int q), .val (.int o), .val (.int ((4 : Int32) ||| q))] [(.int (1 : Int32))])) (fun tg kt => ?_) ?_
        · show Steps p.tables e below (T2.setTop (mkF m 36 #[.val (.ref a1), .val (.int n), .val (.int q), .val (.int o), .val (.int ((4 : Int32) ||| q))] [])) tg
          refine XS.iconst X2.here hx rfl (hb hby d3_36) ?_
          show Steps p.tables e below (T2.setTop (mkF m 37 #[.val (.ref a1), .val (.int n), .val (.int q), .val (.int o), .val (.int ((4 : Int32) ||| q))] [(.int (1 : Int32))])) tg
          refine XS.goto X2.here hx rfl (pc0 := 37) (pc' := 41) rfl (hb hby d3_37) (by decide) (by decide) ?_
          exact kt
        exact own_retN K (by simp) X2 d3_41 (⟨by rw [own_away, own_ix, if_pos hc1, if_neg hc11, if_neg hc33]; rfl, N0, e2⟩) (by decide) (by decide)
  · skip
    refine own_seg (T' := T0) (g' := (mkF m 4 #[.val (.ref a1), .val (.int n), .val (.int q), .val (.int o), .unset] [])) (fun tg kt => XS.ifNo X0.here hx rfl (hb hby d3_1) rfl ((if0 _ _).trans (feq hc1).1) kt) ?_
    refine own_seg (T' := T0) (g' := (mkF m 11 #[.val (.ref a1), .val (.int n), .val (.int q), .val (.int o), .unset] [(.int o), (.int (8 : Int32))])) (fun tg kt => ?_) ?_
    · show Steps p.tables e below (T0.setTop (mkF m 4 #[.val (.ref a1), .val (.int n), .val (.int q), .val (.int o), .unset] [])) tg
      refine XS.bipush X0.here hx rfl (hb hby d3_4) ?_
      show Steps p.tables e below (T0.setTop (mkF m 6 #[.val (.ref a1), .val (.int n), .val (.int q), .val (.int o), .unset] [(.int (8 : Int32))])) tg
      refine XS.goto X0.here hx rfl (pc0 := 6) (pc' := 10) rfl (hb hby d3_6) (by decide) (by decide) ?_
      show Steps p.tables e below (T0.setTop (mkF m 10 #[.val (.ref a1), .val (.int n), .val (.int q), .val (.int o), .unset] [(.int (8 : Int32))])) tg
      refine XS.iloadN X0.here hx rfl (hb hby d3_10) rfl ?_
      exact kt
    by_cases hc11 : o = (0 : Int32)
    · skip
      refine own_seg (T' := T0) (g' := (mkF m 18 #[.val (.ref a1), .val (.int n), .val (.int q), .val (.int o), .unset] [(.int (8 : Int32))])) (fun tg kt => XS.ifYes X0.here hx rfl (pc0 := 11) (pc' := 18) rfl (hb hby d3_11) rfl ((if0 _ _).trans (teq hc11).1) (by decide) (by decide) kt) ?_
      refine own_seg (T' := T0) (g' := (mkF m 25 #[.val (.ref a1), .val (.int n), .val (.int q), .val (.int o), .val (.int ((8 : Int32) ||| q))] [(.ref a1)])) (fun tg kt => ?_) ?_
      · show Steps p.tables e below (T0.setTop (mkF m 18 #[.val (.ref a1), .val (.int n), .val (.int q), .val (.int o), .unset] [(.int (8 : Int32))])) tg
        refine XS.iconst X0.here hx rfl (hb hby d3_18) ?_
        show Steps p.tables e below (T0.setTop (mkF m 19 #[.val (.ref a1), .val (.int n), .val (.int q), .val (.int o), .unset] [(.int (0 : Int32)), (.int (8 : Int32))])) tg
        refine XS.ior X0.here hx rfl (hb hby d3_19) rfl ?_
        show Steps p.tables e below (T0.setTop (mkF m 20 #[.val (.ref a1), .val (.int n), .val (.int q), .val (.int o), .unset] [(.int (8 : Int32))])) tg
        refine XS.iloadN X0.here hx rfl (hb hby d3_20) rfl ?_
        show Steps p.tables e below (T0.setTop (mkF m 21 #[.val (.ref a1), .val (.int n), .val (.int q), .val (.int o), .unset] [(.int q), (.int (8 : Int32))])) tg
        refine XS.ior X0.here hx rfl (hb hby d3_21) rfl ?_
        show Steps p.tables e below (T0.setTop (mkF m 22 #[.val (.ref a1), .val (.int n), .val (.int q), .val (.int o), .unset] [(.int ((8 : Int32) ||| q))])) tg
        refine XS.istore X0.here hx rfl (hb hby d3_22) rfl (l' := #[.val (.ref a1), .val (.int n), .val (.int q), .val (.int o), .val (.int ((8 : Int32) ||| q))]) rfl ?_
        show Steps p.tables e below (T0.setTop (mkF m 24 #[.val (.ref a1), .val (.int n), .val (.int q), .val (.int o), .val (.int ((8 : Int32) ||| q))] [])) tg
        refine XS.aloadN X0.here hx rfl (hb hby d3_24) rfl rfl ?_
        exact kt
      refine own_getF K X0 e0 (host := "") (Or.inl (hw _ (List.mem_of_getElem? (i := 16) rfl))) Via.refl (O_a1.get 0 rfl) d3_25 ?_
      intro T3 X3 e3
      show own_Fin p e below _ T3 (mkF m 28 #[.val (.ref a1), .val (.int n), .val (.int q), .val (.int o), .val (.int ((8 : Int32) ||| q))] [(.int M)])
      refine own_seg (T' := T3) (g' := (mkF m 33 #[.val (.ref a1), .val (.int n), .val (.int q), .val (.int o), .val (.int ((8 : Int32) ||| q))] [(.int (((M.toUInt32 >>> (((8 : Int32) ||| q) &&& 31).toUInt32).toInt32) &&& (1 : Int32)))])) (fun tg kt => ?_) ?_
      · show Steps p.tables e below (T3.setTop (mkF m 28 #[.val (.ref a1), .val (.int n), .val (.int q), .val (.int o), .val (.int ((8 : Int32) ||| q))] [(.int M)])) tg
        refine XS.iload X3.here hx rfl (hb hby d3_28) rfl ?_
        show Steps p.tables e below (T3.setTop (mkF m 30 #[.val (.ref a1), .val (.int n), .val (.int q), .val (.int o), .val (.int ((8 : Int32) ||| q))] [(.int ((8 : Int32) ||| q)), (.int M)])) tg
        refine XS.iushr X3.here hx rfl (hb hby d3_30) rfl ?_
        show Steps p.tables e below (T3.setTop (mkF m 31 #[.val (.ref a1), .val (.int n), .val (.int q), .val (.int o), .val (.int ((8 : Int32) ||| q))] [(.int ((M.toUInt32 >>> (((8 : Int32) ||| q) &&& 31).toUInt32).toInt32))])) tg
        refine XS.iconst X3.here hx rfl (hb hby d3_31) ?_
        show Steps p.tables e below (T3.setTop (mkF m 32 #[.val (.ref a1), .val (.int n), .val (.int q), .val (.int o), .val (.int ((8 : Int32) ||| q))] [(.int (1 : Int32)), (.int ((M.toUInt32 >>> (((8 : Int32) ||| q) &&& 31).toUInt32).toInt32))])) tg
        refine XS.iand X3.here hx rfl (hb hby d3_32) rfl ?_
        exact kt
      by_cases hc33 : (((M.toUInt32 >>> (((8 : Int32) ||| q) &&& 31).toUInt32).toInt32) &&& (1 : Int32)) = (0 : Int32)
      · skip
        refine own_seg (T' := T3) (g' := (mkF m 40 #[.val (.ref a1), .val (.int n), .val (.int q), .val (.int o), .val (.int ((8 : Int32) ||| q))] [])) (fun tg kt => XS.ifYes X3.here hx rfl (pc0 := 33) (pc' := 40) rfl (hb hby d3_33) rfl ((if0 _ _).trans (teq hc33).1) (by decide) (by decide) kt) ?_
        refine own_seg (T' := T3) (g' := (mkF m 41 #[.val (.ref a1), .val (.int n), .val (.int q), .val (.int o), .val (.int ((8 : Int32) ||| q))] [(.int (0 : Int32))])) (fun tg kt => ?_) ?_
        · show Steps p.tables e below (T3.setTop (mkF m 40 #[.val (.ref a1), .val (.int n), .val (.int q), .val (.int o), .val (.int ((8 : Int32) ||| q))] [])) tg
          refine XS.iconst X3.here hx rfl (hb hby d3_40) ?_
          exact kt
        exact own_retN K (by simp) X3 d3_41 (⟨by rw [own_away, own_ix, if_neg hc1, if_pos hc11, if_pos hc33]; rfl, N0, e3⟩) (by decide) (by decide)
      · skip
        refine own_seg (T' := T3) (g' := (mkF m 36 #[.val (.ref a1), .val (.int n), .val (.int q), .val (.int o), .val (.int ((8 : Int32) ||| q))] [])) (fun tg kt => XS.ifNo X3.here hx rfl (hb hby d3_33) rfl ((if0 _ _).trans (feq hc33).1) kt) ?_
        refine own_seg (T' := T3) (g' := (mkF m 41 #[.val (.ref a1), .val (.int n), .val (.int q), .val (.int o), .val (.int ((8 : Int32) ||| q))] [(.int (1 : Int32))])) (fun tg kt => ?_) ?_
        · show Steps p.tables e below (T3.setTop (mkF m 36 #[.val (.ref a1), .val (.int n), .val (.int q), .val (.int o), .val (.int ((8 : Int32) ||| q))] [])) tg
          refine XS.iconst X3.here hx rfl (hb hby d3_36) ?_
          show Steps p.tables e below (T3.setTop (mkF m 37 #[.val (.ref a1), .val (.int n), .val (.int q), .val (.int o), .val (.int ((8 : Int32) ||| q))] [(.int (1 : Int32))])) tg
          refine XS.goto X3.here hx rfl (pc0 := 37) (pc' := 41) rfl (hb hby d3_37) (by decide) (by decide) ?_
          exact kt
        exact own_retN K (by simp) X3 d3_41 (⟨by rw [own_away, own_ix, if_neg hc1, if_pos hc11, if_neg hc33]; rfl, N0, e3⟩) (by decide) (by decide)
    · skip
      refine own_seg (T' := T0) (g' := (mkF m 14 #[.val (.ref a1), .val (.int n), .val (.int q), .val (.int o), .unset] [(.int (8 : Int32))])) (fun tg kt => XS.ifNo X0.here hx rfl (hb hby d3_11) rfl ((if0 _ _).trans (feq hc11).1) kt) ?_
      refine own_seg (T' := T0) (g' := (mkF m 25 #[.val (.ref a1), .val (.int n), .val (.int q), .val (.int o), .val (.int ((12 : Int32) ||| q))] [(.ref a1)])) (fun tg kt => ?_) ?_
      · show Steps p.tables e below (T0.setTop (mkF m 14 #[.val (.ref a1), .val (.int n), .val (.int q), .val (.int o), .unset] [(.int (8 : Int32))])) tg
        refine XS.iconst X0.here hx rfl (hb hby d3_14) ?_
        show Steps p.tables e below (T0.setTop (mkF m 15 #[.val (.ref a1), .val (.int n), .val (.int q), .val (.int o), .unset] [(.int (4 : Int32)), (.int (8 : Int32))])) tg
        refine XS.goto X0.here hx rfl (pc0 := 15) (pc' := 19) rfl (hb hby d3_15) (by decide) (by decide) ?_
        show Steps p.tables e below (T0.setTop (mkF m 19 #[.val (.ref a1), .val (.int n), .val (.int q), .val (.int o), .unset] [(.int (4 : Int32)), (.int (8 : Int32))])) tg
        refine XS.ior X0.here hx rfl (hb hby d3_19) rfl ?_
        show Steps p.tables e below (T0.setTop (mkF m 20 #[.val (.ref a1), .val (.int n), .val (.int q), .val (.int o), .unset] [(.int (12 : Int32))])) tg
        refine XS.iloadN X0.here hx rfl (hb hby d3_20) rfl ?_
        show Steps p.tables e below (T0.setTop (mkF m 21 #[.val (.ref a1), .val (.int n), .val (.int q), .val (.int o), .unset] [(.int q), (.int (12 : Int32))])) tg
        refine XS.ior X0.here hx rfl (hb hby d3_21) rfl ?_
        show Steps p.tables e below (T0.setTop (mkF m 22 #[.val (.ref a1), .val (.int n), .val (.int q), .val (.int o), .unset] [(.int ((12 : Int32) ||| q))])) tg
        refine XS.istore X0.here hx rfl (hb hby d3_22) rfl (l' := #[.val (.ref a1), .val (.int n), .val (.int q), .val (.int o), .val (.int ((12 : Int32) ||| q))]) rfl ?_
        show Steps p.tables e below (T0.setTop (mkF m 24 #[.val (.ref a1), .val (.int n), .val (.int q), .val (.int o), .val (.int ((12 : Int32) ||| q))] [])) tg
        refine XS.aloadN X0.here hx rfl (hb hby d3_24) rfl rfl ?_
        exact kt
      refine own_getF K X0 e0 (host := "") (Or.inl (hw _ (List.mem_of_getElem? (i := 16) rfl))) Via.refl (O_a1.get 0 rfl) d3_25 ?_
      intro T4 X4 e4
      show own_Fin p e below _ T4 (mkF m 28 #[.val (.ref a1), .val (.int n), .val (.int q), .val (.int o), .val (.int ((12 : Int32) ||| q))] [(.int M)])
      refine own_seg (T' := T4) (g' := (mkF m 33 #[.val (.ref a1), .val (.int n), .val (.int q), .val (.int o), .val (.int ((12 : Int32) ||| q))] [(.int (((M.toUInt32 >>> (((12 : Int32) ||| q) &&& 31).toUInt32).toInt32) &&& (1 : Int32)))])) (fun tg kt => ?_) ?_
      · show Steps p.tables e below (T4.setTop (mkF m 28 #[.val (.ref a1), .val (.int n), .val (.int q), .val (.int o), .val (.int ((12 : Int32) ||| q))] [(.int M)])) tg
        refine XS.iload X4.here hx rfl (hb hby d3_28) rfl ?_
        show Steps p.tables e below (T4.setTop (mkF m 30 #[.val (.ref a1), .val (.int n), .val (.int q), .val (.int o), .val (.int ((12 : Int32) ||| q))] [(.int ((12 : Int32) ||| q)), (.int M)])) tg
        refine XS.iushr X4.here hx rfl (hb hby d3_30) rfl ?_
        show Steps p.tables e below (T4.setTop (mkF m 31 #[.val (.ref a1), .val (.int n), .val (.int q), .val (.int o), .val (.int ((12 : Int32) ||| q))] [(.int ((M.toUInt32 >>> (((12 : Int32) ||| q) &&& 31).toUInt32).toInt32))])) tg
        refine XS.iconst X4.here hx rfl (hb hby d3_31) ?_
        show Steps p.tables e below (T4.setTop (mkF m 32 #[.val (.ref a1), .val (.int n), .val (.int q), .val (.int o), .val (.int ((12 : Int32) ||| q))] [(.int (1 : Int32)), (.int ((M.toUInt32 >>> (((12 : Int32) ||| q) &&& 31).toUInt32).toInt32))])) tg
        refine XS.iand X4.here hx rfl (hb hby d3_32) rfl ?_
        exact kt
      by_cases hc33 : (((M.toUInt32 >>> (((12 : Int32) ||| q) &&& 31).toUInt32).toInt32) &&& (1 : Int32)) = (0 : Int32)
      · skip
        refine own_seg (T' := T4) (g' := (mkF m 40 #[.val (.ref a1), .val (.int n), .val (.int q), .val (.int o), .val (.int ((12 : Int32) ||| q))] [])) (fun tg kt => XS.ifYes X4.here hx rfl (pc0 := 33) (pc' := 40) rfl (hb hby d3_33) rfl ((if0 _ _).trans (teq hc33).1) (by decide) (by decide) kt) ?_
        refine own_seg (T' := T4) (g' := (mkF m 41 #[.val (.ref a1), .val (.int n), .val (.int q), .val (.int o), .val (.int ((12 : Int32) ||| q))] [(.int (0 : Int32))])) (fun tg kt => ?_) ?_
        · show Steps p.tables e below (T4.setTop (mkF m 40 #[.val (.ref a1), .val (.int n), .val (.int q), .val (.int o), .val (.int ((12 : Int32) ||| q))] [])) tg
          refine XS.iconst X4.here hx rfl (hb hby d3_40) ?_
          exact kt
        exact own_retN K (by simp) X4 d3_41 (⟨by rw [own_away, own_ix, if_neg hc1, if_neg hc11, if_pos hc33]; rfl, N0, e4⟩) (by decide) (by decide)
      · skip
        refine own_seg (T' := T4) (g' := (mkF m 36 #[.val (.ref a1), .val (.int n), .val (.int q), .val (.int o), .val (.int ((12 : Int32) ||| q))] [])) (fun tg kt => XS.ifNo X4.here hx rfl (hb hby d3_33) rfl ((if0 _ _).trans (feq hc33).1) kt) ?_
        refine own_seg (T' := T4) (g' := (mkF m 41 #[.val (.ref a1), .val (.int n), .val (.int q), .val (.int o), .val (.int ((12 : Int32) ||| q))] [(.int (1 : Int32))])) (fun tg kt => ?_) ?_
        · show Steps p.tables e below (T4.setTop (mkF m 36 #[.val (.ref a1), .val (.int n), .val (.int q), .val (.int o), .val (.int ((12 : Int32) ||| q))] [])) tg
          refine XS.iconst X4.here hx rfl (hb hby d3_36) ?_
          show Steps p.tables e below (T4.setTop (mkF m 37 #[.val (.ref a1), .val (.int n), .val (.int q), .val (.int o), .val (.int ((12 : Int32) ||| q))] [(.int (1 : Int32))])) tg
          refine XS.goto X4.here hx rfl (pc0 := 37) (pc' := 41) rfl (hb hby d3_37) (by decide) (by decide) ?_
          exact kt
        exact own_retN K (by simp) X4 d3_41 (⟨by rw [own_away, own_ix, if_neg hc1, if_neg hc11, if_neg hc33]; rfl, N0, e4⟩) (by decide) (by decide)
theorem own_pd0 : parseMethodDescriptor "(I)Lcom/example/rounder/rounder/RoundingRule;" = some ⟨[.int], some (.object "com/example/rounder/rounder/RoundingRule")⟩ := by decide +kernel
theorem own_pd1 : parseMethodDescriptor "(IZIZ)Z" = some ⟨[.int, .boolean, .int, .boolean], some .boolean⟩ := by decide +kernel
theorem own_pd2 : parseMethodDescriptor "(ZIZ)Z" = some ⟨[.boolean, .int, .boolean], some .boolean⟩ := by decide +kernel
set_option maxRecDepth 65536 in
set_option maxHeartbeats 40000000 in
theorem sg0_39 {p : Program} {l : Launch} {e : Env} {s : State} {m : MethodId} {args : Array Value} {below : List Frame} {meth : Method} {c : Code} {T0 : State} {locs : List Loc} {Z : State} {a0 : Array Value} {h0 : Heap} {n0 : Nat} (hw : ∀ d ∈ tables_1, d.before a0 Z = true) (p1 p2 p3 k n o q M : Int32) (r0 r1 r2 r3 r4 r5 r6 r7 r8 : Addr)
    (K : own_Ctx p Z s m meth c "com/example/rounder/rounder/RoundingRuleRoundsAwayPinLaw" code maxLocals ret "law") (X0 : Stand p l e room_1 s m args below meth c T0 locs 0 0) (e0 : T0.heap = h0) (N0 : Fr n0 locs) (Z0 : n0 ≤ h0.size) (S0 : Sta Z h0 "com/example/rounder/rounder/RoundingRule" "FLOOR" "Lcom/example/rounder/rounder/RoundingRule;" (.ref r0)) (S1 : Sta Z h0 "com/example/rounder/rounder/RoundingRule" "CEILING" "Lcom/example/rounder/rounder/RoundingRule;" (.ref r1)) (S2 : Sta Z h0 "com/example/rounder/rounder/RoundingRule" "TOWARD_ZERO" "Lcom/example/rounder/rounder/RoundingRule;" (.ref r2)) (S3 : Sta Z h0 "com/example/rounder/rounder/RoundingRule" "AWAY_FROM_ZERO" "Lcom/example/rounder/rounder/RoundingRule;" (.ref r3)) (S4 : Sta Z h0 "com/example/rounder/rounder/RoundingRule" "HALF_TO_FLOOR" "Lcom/example/rounder/rounder/RoundingRule;" (.ref r4)) (S5 : Sta Z h0 "com/example/rounder/rounder/RoundingRule" "HALF_TO_CEILING" "Lcom/example/rounder/rounder/RoundingRule;" (.ref r5)) (S6 : Sta Z h0 "com/example/rounder/rounder/RoundingRule" "HALF_TOWARD_ZERO" "Lcom/example/rounder/rounder/RoundingRule;" (.ref r6)) (S7 : Sta Z h0 "com/example/rounder/rounder/RoundingRule" "HALF_AWAY_FROM_ZERO" "Lcom/example/rounder/rounder/RoundingRule;" (.ref r7)) (S8 : Sta Z h0 "com/example/rounder/rounder/RoundingRule" "HALF_TO_EVEN" "Lcom/example/rounder/rounder/RoundingRule;" (.ref r8)) (hO : own_Obj Z h0 (own_pick k r0 r1 r2 r3 r4 r5 r6 r7 r8) "com/example/rounder/rounder/RoundingRule" [("com/example/rounder/rounder/RoundingRule", "awayFromZero", "I", .int M)]) (hk : own_away M n q o = own_exp k n q o) :
    own_Fin p e below (own_P s room_1 (own_Q1 n0)) T0 (mkF m 39 #[.val (.int p1), .val (.int p2), .val (.int p3), .val (.int k), .val (.int n), .val (.int o), .val (.int q), .unset, .unset] []) := by
  have hx := K.1
  have hZ := K.2.1
  have hby := K.2.2.1
  have hown := K.2.2.2.2.1
  refine own_seg (T' := T0) (g' := (mkF m 40 #[.val (.int p1), .val (.int p2), .val (.int p3), .val (.int k), .val (.int n), .val (.int o), .val (.int q), .unset, .unset] [(.int k)])) (fun tg kt => ?_) ?_
  · show Steps p.tables e below (T0.setTop (mkF m 39 #[.val (.int p1), .val (.int p2), .val (.int p3), .val (.int k), .val (.int n), .val (.int o), .val (.int q), .unset, .unset] [])) tg
    refine XS.iloadN X0.here hx rfl (hb hby at_39) rfl ?_
    exact kt
  refine own_callS K X0 e0 (rm1 l Z a0 hw k r0 r1 r2 r3 r4 r5 r6 r7 r8 h0 n0 Z0 S0 S1 S2 S3 S4 S5 S6 S7 S8) (hw _ (List.mem_of_getElem? (i := 1) rfl)) (hw _ (List.mem_of_getElem? (i := 2) rfl)) (hw _ (List.mem_of_getElem? (i := 3) rfl)) (hw _ (List.mem_of_getElem? (i := 4) rfl)) (by decide) [(.int k)] [] own_pd0 rfl rfl rfl rfl at_40 (by decide) (Nat.le_of_ble_eq_true rfl) (by decide) (by decide) ?_
  intro T1 L1 v1 X1 hQ1
  obtain ⟨rfl, Nq1, e1⟩ := hQ1
  have N1 := Fr.app N0 Nq1
  show own_Fin p e below _ T1 (mkF m 43 #[.val (.int p1), .val (.int p2), .val (.int p3), .val (.int k), .val (.int n), .val (.int o), .val (.int q), .unset, .unset] [(.ref (own_pick k r0 r1 r2 r3 r4 r5 r6 r7 r8))])
  refine own_seg (T' := T1) (g' := (mkF m 52 #[.val (.int p1), .val (.int p2), .val (.int p3), .val (.int k), .val (.int n), .val (.int o), .val (.int q), .val (.ref (own_pick k r0 r1 r2 r3 r4 r5 r6 r7 r8)), .unset] [(.int o), (.int q), (.int n), (.int k)])) (fun tg kt => ?_) ?_
  · show Steps p.tables e below (T1.setTop (mkF m 43 #[.val (.int p1), .val (.int p2), .val (.int p3), .val (.int k), .val (.int n), .val (.int o), .val (.int q), .unset, .unset] [(.ref (own_pick k r0 r1 r2 r3 r4 r5 r6 r7 r8))])) tg
    refine XS.astore X1.here hx rfl (hb hby at_43) rfl rfl (l' := #[.val (.int p1), .val (.int p2), .val (.int p3), .val (.int k), .val (.int n), .val (.int o), .val (.int q), .val (.ref (own_pick k r0 r1 r2 r3 r4 r5 r6 r7 r8)), .unset]) rfl ?_
    show Steps p.tables e below (T1.setTop (mkF m 45 #[.val (.int p1), .val (.int p2), .val (.int p3), .val (.int k), .val (.int n), .val (.int o), .val (.int q), .val (.ref (own_pick k r0 r1 r2 r3 r4 r5 r6 r7 r8)), .unset] [])) tg
    refine XS.iloadN X1.here hx rfl (hb hby at_45) rfl ?_
    show Steps p.tables e below (T1.setTop (mkF m 46 #[.val (.int p1), .val (.int p2), .val (.int p3), .val (.int k), .val (.int n), .val (.int o), .val (.int q), .val (.ref (own_pick k r0 r1 r2 r3 r4 r5 r6 r7 r8)), .unset] [(.int k)])) tg
    refine XS.iload X1.here hx rfl (hb hby at_46) rfl ?_
    show Steps p.tables e below (T1.setTop (mkF m 48 #[.val (.int p1), .val (.int p2), .val (.int p3), .val (.int k), .val (.int n), .val (.int o), .val (.int q), .val (.ref (own_pick k r0 r1 r2 r3 r4 r5 r6 r7 r8)), .unset] [(.int n), (.int k)])) tg
    refine XS.iload X1.here hx rfl (hb hby at_48) rfl ?_
    show Steps p.tables e below (T1.setTop (mkF m 50 #[.val (.int p1), .val (.int p2), .val (.int p3), .val (.int k), .val (.int n), .val (.int o), .val (.int q), .val (.ref (own_pick k r0 r1 r2 r3 r4 r5 r6 r7 r8)), .unset] [(.int q), (.int n), (.int k)])) tg
    refine XS.iload X1.here hx rfl (hb hby at_50) rfl ?_
    exact kt
  refine own_callS K X1 e1 (rm2 l Z a0 hw k n q o h0 n0 Z0) (hw _ (List.mem_of_getElem? (i := 8) rfl)) (hw _ (List.mem_of_getElem? (i := 9) rfl)) (hw _ (List.mem_of_getElem? (i := 3) rfl)) (hw _ (List.mem_of_getElem? (i := 10) rfl)) (by decide) [(.int k), (.int n), (.int q), (.int o)] [] own_pd1 rfl rfl rfl rfl at_52 (by decide) (Nat.le_of_ble_eq_true rfl) (by decide) (by decide) ?_
  intro T2 L2 v2 X2 hQ2
  obtain ⟨rfl, Nq2, e2⟩ := hQ2
  have N2 := Fr.app N1 Nq2
  show own_Fin p e below _ T2 (mkF m 55 #[.val (.int p1), .val (.int p2), .val (.int p3), .val (.int k), .val (.int n), .val (.int o), .val (.int q), .val (.ref (own_pick k r0 r1 r2 r3 r4 r5 r6 r7 r8)), .unset] [(.int (own_exp k n q o))])
  refine own_seg (T' := T2) (g' := (mkF m 65 #[.val (.int p1), .val (.int p2), .val (.int p3), .val (.int k), .val (.int n), .val (.int o), .val (.int q), .val (.ref (own_pick k r0 r1 r2 r3 r4 r5 r6 r7 r8)), .val (.int (own_exp k n q o))] [(.int o), (.int q), (.int n), (.ref (own_pick k r0 r1 r2 r3 r4 r5 r6 r7 r8))])) (fun tg kt => ?_) ?_
  · show Steps p.tables e below (T2.setTop (mkF m 55 #[.val (.int p1), .val (.int p2), .val (.int p3), .val (.int k), .val (.int n), .val (.int o), .val (.int q), .val (.ref (own_pick k r0 r1 r2 r3 r4 r5 r6 r7 r8)), .unset] [(.int (own_exp k n q o))])) tg
    refine XS.istore X2.here hx rfl (hb hby at_55) rfl (l' := #[.val (.int p1), .val (.int p2), .val (.int p3), .val (.int k), .val (.int n), .val (.int o), .val (.int q), .val (.ref (own_pick k r0 r1 r2 r3 r4 r5 r6 r7 r8)), .val (.int (own_exp k n q o))]) rfl ?_
    show Steps p.tables e below (T2.setTop (mkF m 57 #[.val (.int p1), .val (.int p2), .val (.int p3), .val (.int k), .val (.int n), .val (.int o), .val (.int q), .val (.ref (own_pick k r0 r1 r2 r3 r4 r5 r6 r7 r8)), .val (.int (own_exp k n q o))] [])) tg
    refine XS.aload X2.here hx rfl (hb hby at_57) rfl rfl ?_
    show Steps p.tables e below (T2.setTop (mkF m 59 #[.val (.int p1), .val (.int p2), .val (.int p3), .val (.int k), .val (.int n), .val (.int o), .val (.int q), .val (.ref (own_pick k r0 r1 r2 r3 r4 r5 r6 r7 r8)), .val (.int (own_exp k n q o))] [(.ref (own_pick k r0 r1 r2 r3 r4 r5 r6 r7 r8))])) tg
    refine XS.iload X2.here hx rfl (hb hby at_59) rfl ?_
    show Steps p.tables e below (T2.setTop (mkF m 61 #[.val (.int p1), .val (.int p2), .val (.int p3), .val (.int k), .val (.int n), .val (.int o), .val (.int q), .val (.ref (own_pick k r0 r1 r2 r3 r4 r5 r6 r7 r8)), .val (.int (own_exp k n q o))] [(.int n), (.ref (own_pick k r0 r1 r2 r3 r4 r5 r6 r7 r8))])) tg
    refine XS.iload X2.here hx rfl (hb hby at_61) rfl ?_
    show Steps p.tables e below (T2.setTop (mkF m 63 #[.val (.int p1), .val (.int p2), .val (.int p3), .val (.int k), .val (.int n), .val (.int o), .val (.int q), .val (.ref (own_pick k r0 r1 r2 r3 r4 r5 r6 r7 r8)), .val (.int (own_exp k n q o))] [(.int q), (.int n), (.ref (own_pick k r0 r1 r2 r3 r4 r5 r6 r7 r8))])) tg
    refine XS.iload X2.here hx rfl (hb hby at_63) rfl ?_
    exact kt
  refine own_callV K X2 e2 (rm3 l Z a0 hw (own_pick k r0 r1 r2 r3 r4 r5 r6 r7 r8) M n q o h0 n0 Z0 hO) (hw _ (List.mem_of_getElem? (i := 11) rfl)) (hw _ (List.mem_of_getElem? (i := 12) rfl)) (fun _ q => notFace_of_selects q) (hw _ (List.mem_of_getElem? (i := 14) rfl)) (hw _ (List.mem_of_getElem? (i := 13) rfl)) (hw _ (List.mem_of_getElem? (i := 6) rfl)) (hw _ (List.mem_of_getElem? (i := 15) rfl)) (by decide) (own_pick k r0 r1 r2 r3 r4 r5 r6 r7 r8) hO.exa [(.int n), (.int q), (.int o)] [] own_pd2 rfl rfl rfl rfl at_65 (by decide) (Nat.le_of_ble_eq_true rfl) (by decide) (by decide) ?_
  intro T3 L3 v3 X3 hQ3
  obtain ⟨rfl, Nq3, e3⟩ := hQ3
  have N3 := Fr.app N2 Nq3
  show own_Fin p e below _ T3 (mkF m 68 #[.val (.int p1), .val (.int p2), .val (.int p3), .val (.int k), .val (.int n), .val (.int o), .val (.int q), .val (.ref (own_pick k r0 r1 r2 r3 r4 r5 r6 r7 r8)), .val (.int (own_exp k n q o))] [(.int (own_away M n q o))])
  refine own_seg (T' := T3) (g' := (mkF m 70 #[.val (.int p1), .val (.int p2), .val (.int p3), .val (.int k), .val (.int n), .val (.int o), .val (.int q), .val (.ref (own_pick k r0 r1 r2 r3 r4 r5 r6 r7 r8)), .val (.int (own_exp k n q o))] [(.int (own_exp k n q o)), (.int (own_away M n q o))])) (fun tg kt => ?_) ?_
  · show Steps p.tables e below (T3.setTop (mkF m 68 #[.val (.int p1), .val (.int p2), .val (.int p3), .val (.int k), .val (.int n), .val (.int o), .val (.int q), .val (.ref (own_pick k r0 r1 r2 r3 r4 r5 r6 r7 r8)), .val (.int (own_exp k n q o))] [(.int (own_away M n q o))])) tg
    refine XS.iload X3.here hx rfl (hb hby at_68) rfl ?_
    exact kt
  have hc70 : (own_away M n q o) = (own_exp k n q o) := hk
  refine own_seg (T' := T3) (g' := (mkF m 73 #[.val (.int p1), .val (.int p2), .val (.int p3), .val (.int k), .val (.int n), .val (.int o), .val (.int q), .val (.ref (own_pick k r0 r1 r2 r3 r4 r5 r6 r7 r8)), .val (.int (own_exp k n q o))] [])) (fun tg kt => XS.icmpNo X3.here hx rfl (hb hby at_70) rfl (teq hc70).2 kt) ?_
  refine own_seg (T' := T3) (g' := (mkF m 78 #[.val (.int p1), .val (.int p2), .val (.int p3), .val (.int k), .val (.int n), .val (.int o), .val (.int q), .val (.ref (own_pick k r0 r1 r2 r3 r4 r5 r6 r7 r8)), .val (.int (own_exp k n q o))] [(.int (1 : Int32))])) (fun tg kt => ?_) ?_
  · show Steps p.tables e below (T3.setTop (mkF m 73 #[.val (.int p1), .val (.int p2), .val (.int p3), .val (.int k), .val (.int n), .val (.int o), .val (.int q), .val (.ref (own_pick k r0 r1 r2 r3 r4 r5 r6 r7 r8)), .val (.int (own_exp k n q o))] [])) tg
    refine XS.iconst X3.here hx rfl (hb hby at_73) ?_
    show Steps p.tables e below (T3.setTop (mkF m 74 #[.val (.int p1), .val (.int p2), .val (.int p3), .val (.int k), .val (.int n), .val (.int o), .val (.int q), .val (.ref (own_pick k r0 r1 r2 r3 r4 r5 r6 r7 r8)), .val (.int (own_exp k n q o))] [(.int (1 : Int32))])) tg
    refine XS.goto X3.here hx rfl (pc0 := 74) (pc' := 78) rfl (hb hby at_74) (by decide) (by decide) ?_
    exact kt
  exact own_retN K (by simp) X3 at_78 (⟨rfl, N3⟩) (by decide) (by decide)
theorem own_pn0 : plainName "com/example/rounder/rounder/RoundingRuleRoundsAwayPinLaw" = true := by first | (simp [plainName, overriddenIn]; done) | decide +kernel
set_option maxRecDepth 65536 in
set_option maxHeartbeats 40000000 in
theorem rm0 (l : Launch) (Z : State) (a0 : Array Value) (hw : ∀ d ∈ tables_1, d.before a0 Z = true) (p1 p2 p3 : Int32) (r0 r1 r2 r3 r4 r5 r6 r7 r8 : Addr) (h0 : Heap) (n0 : Nat) (Z0 : n0 ≤ h0.size) (S0 : Sta Z h0 "com/example/rounder/rounder/RoundingRule" "FLOOR" "Lcom/example/rounder/rounder/RoundingRule;" (.ref r0)) (S1 : Sta Z h0 "com/example/rounder/rounder/RoundingRule" "CEILING" "Lcom/example/rounder/rounder/RoundingRule;" (.ref r1)) (S2 : Sta Z h0 "com/example/rounder/rounder/RoundingRule" "TOWARD_ZERO" "Lcom/example/rounder/rounder/RoundingRule;" (.ref r2)) (S3 : Sta Z h0 "com/example/rounder/rounder/RoundingRule" "AWAY_FROM_ZERO" "Lcom/example/rounder/rounder/RoundingRule;" (.ref r3)) (S4 : Sta Z h0 "com/example/rounder/rounder/RoundingRule" "HALF_TO_FLOOR" "Lcom/example/rounder/rounder/RoundingRule;" (.ref r4)) (S5 : Sta Z h0 "com/example/rounder/rounder/RoundingRule" "HALF_TO_CEILING" "Lcom/example/rounder/rounder/RoundingRule;" (.ref r5)) (S6 : Sta Z h0 "com/example/rounder/rounder/RoundingRule" "HALF_TOWARD_ZERO" "Lcom/example/rounder/rounder/RoundingRule;" (.ref r6)) (S7 : Sta Z h0 "com/example/rounder/rounder/RoundingRule" "HALF_AWAY_FROM_ZERO" "Lcom/example/rounder/rounder/RoundingRule;" (.ref r7)) (S8 : Sta Z h0 "com/example/rounder/rounder/RoundingRule" "HALF_TO_EVEN" "Lcom/example/rounder/rounder/RoundingRule;" (.ref r8)) (hO : ∀ i : Fin 9, own_Obj Z h0 (own_pick (Int32.ofNat i.val) r0 r1 r2 r3 r4 r5 r6 r7 r8) "com/example/rounder/rounder/RoundingRule" [("com/example/rounder/rounder/RoundingRule", "awayFromZero", "I", .int (own_M i.val))]) :
    own_Met l Z x code maxLocals ret room_1 #[(.int p1), (.int p2), (.int p3)] h0 (own_Q1 n0) := by
  refine own_enter (plainFor_of_name own_pn0) (fun m => by first | (simp [entryFrame, mkF, argsToLocals, Value.category, maxLocals]; done) | rfl) (Ls := #[.val (.int p1), .val (.int p2), .val (.int p3), .unset, .unset, .unset, .unset, .unset, .unset]) ?_
  intro p e s m below meth c T0 K X0 e0
  have hx := K.1
  have hZ := K.2.1
  have hby := K.2.2.1
  have hown := K.2.2.2.2.1
  have N0 := Fr.nil n0
  show own_Fin p e below _ T0 (mkF m 0 #[.val (.int p1), .val (.int p2), .val (.int p3), .unset, .unset, .unset, .unset, .unset, .unset] [])
  refine own_seg (T' := T0) (g' := (mkF m 11 #[.val (.int p1), .val (.int p2), .val (.int p3), .val (.int ((p1 &&& (2147483647 : Int32)) % (9 : Int32))), .unset, .unset, .unset, .unset, .unset] [(.int (p2 &&& (1 : Int32)))])) (fun tg kt => ?_) ?_
  · show Steps p.tables e below (T0.setTop (mkF m 0 #[.val (.int p1), .val (.int p2), .val (.int p3), .unset, .unset, .unset, .unset, .unset, .unset] [])) tg
    refine XS.iloadN X0.here hx rfl (hb hby at_0) rfl ?_
    show Steps p.tables e below (T0.setTop (mkF m 1 #[.val (.int p1), .val (.int p2), .val (.int p3), .unset, .unset, .unset, .unset, .unset, .unset] [(.int p1)])) tg
    refine X0.ldcInt hx hown (mvT hZ (hw _ (List.mem_of_getElem? (i := 0) rfl))) (g := (mkF m 1 #[.val (.int p1), .val (.int p2), .val (.int p3), .unset, .unset, .unset, .unset, .unset, .unset] [(.int p1)])) rfl (hb hby at_1) _ ?_
    show Steps p.tables e below (T0.setTop (mkF m 3 #[.val (.int p1), .val (.int p2), .val (.int p3), .unset, .unset, .unset, .unset, .unset, .unset] [(.int (2147483647 : Int32)), (.int p1)])) tg
    refine XS.iand X0.here hx rfl (hb hby at_3) rfl ?_
    show Steps p.tables e below (T0.setTop (mkF m 4 #[.val (.int p1), .val (.int p2), .val (.int p3), .unset, .unset, .unset, .unset, .unset, .unset] [(.int (p1 &&& (2147483647 : Int32)))])) tg
    refine XS.bipush X0.here hx rfl (hb hby at_4) ?_
    show Steps p.tables e below (T0.setTop (mkF m 6 #[.val (.int p1), .val (.int p2), .val (.int p3), .unset, .unset, .unset, .unset, .unset, .unset] [(.int (9 : Int32)), (.int (p1 &&& (2147483647 : Int32)))])) tg
    refine iremM X0 hx rfl (hb hby at_6) rfl (by decide) ?_
    show Steps p.tables e below (T0.setTop (mkF m 7 #[.val (.int p1), .val (.int p2), .val (.int p3), .unset, .unset, .unset, .unset, .unset, .unset] [(.int ((p1 &&& (2147483647 : Int32)) % (9 : Int32)))])) tg
    refine XS.istoreN X0.here hx rfl (hb hby at_7) rfl (l' := #[.val (.int p1), .val (.int p2), .val (.int p3), .val (.int ((p1 &&& (2147483647 : Int32)) % (9 : Int32))), .unset, .unset, .unset, .unset, .unset]) rfl ?_
    show Steps p.tables e below (T0.setTop (mkF m 8 #[.val (.int p1), .val (.int p2), .val (.int p3), .val (.int ((p1 &&& (2147483647 : Int32)) % (9 : Int32))), .unset, .unset, .unset, .unset, .unset] [])) tg
    refine XS.iloadN X0.here hx rfl (hb hby at_8) rfl ?_
    show Steps p.tables e below (T0.setTop (mkF m 9 #[.val (.int p1), .val (.int p2), .val (.int p3), .val (.int ((p1 &&& (2147483647 : Int32)) % (9 : Int32))), .unset, .unset, .unset, .unset, .unset] [(.int p2)])) tg
    refine XS.iconst X0.here hx rfl (hb hby at_9) ?_
    show Steps p.tables e below (T0.setTop (mkF m 10 #[.val (.int p1), .val (.int p2), .val (.int p3), .val (.int ((p1 &&& (2147483647 : Int32)) % (9 : Int32))), .unset, .unset, .unset, .unset, .unset] [(.int (1 : Int32)), (.int p2)])) tg
    refine XS.iand X0.here hx rfl (hb hby at_10) rfl ?_
    exact kt
  by_cases hc11 : (p2 &&& (1 : Int32)) = (0 : Int32)
  · skip
    refine own_seg (T' := T0) (g' := (mkF m 18 #[.val (.int p1), .val (.int p2), .val (.int p3), .val (.int ((p1 &&& (2147483647 : Int32)) % (9 : Int32))), .unset, .unset, .unset, .unset, .unset] [])) (fun tg kt => XS.ifYes X0.here hx rfl (pc0 := 11) (pc' := 18) rfl (hb hby at_11) rfl ((if0 _ _).trans (teq hc11).1) (by decide) (by decide) kt) ?_
    refine own_seg (T' := T0) (g' := (mkF m 24 #[.val (.int p1), .val (.int p2), .val (.int p3), .val (.int ((p1 &&& (2147483647 : Int32)) % (9 : Int32))), .val (.int (0 : Int32)), .unset, .unset, .unset, .unset] [(.int (p2 &&& (2 : Int32)))])) (fun tg kt => ?_) ?_
    · show Steps p.tables e below (T0.setTop (mkF m 18 #[.val (.int p1), .val (.int p2), .val (.int p3), .val (.int ((p1 &&& (2147483647 : Int32)) % (9 : Int32))), .unset, .unset, .unset, .unset, .unset] [])) tg
      refine XS.iconst X0.here hx rfl (hb hby at_18) ?_
      show Steps p.tables e below (T0.setTop (mkF m 19 #[.val (.int p1), .val (.int p2), .val (.int p3), .val (.int ((p1 &&& (2147483647 : Int32)) % (9 : Int32))), .unset, .unset, .unset, .unset, .unset] [(.int (0 : Int32))])) tg
      refine XS.istore X0.here hx rfl (hb hby at_19) rfl (l' := #[.val (.int p1), .val (.int p2), .val (.int p3), .val (.int ((p1 &&& (2147483647 : Int32)) % (9 : Int32))), .val (.int (0 : Int32)), .unset, .unset, .unset, .unset]) rfl ?_
      show Steps p.tables e below (T0.setTop (mkF m 21 #[.val (.int p1), .val (.int p2), .val (.int p3), .val (.int ((p1 &&& (2147483647 : Int32)) % (9 : Int32))), .val (.int (0 : Int32)), .unset, .unset, .unset, .unset] [])) tg
      refine XS.iloadN X0.here hx rfl (hb hby at_21) rfl ?_
      show Steps p.tables e below (T0.setTop (mkF m 22 #[.val (.int p1), .val (.int p2), .val (.int p3), .val (.int ((p1 &&& (2147483647 : Int32)) % (9 : Int32))), .val (.int (0 : Int32)), .unset, .unset, .unset, .unset] [(.int p2)])) tg
      refine XS.iconst X0.here hx rfl (hb hby at_22) ?_
      show Steps p.tables e below (T0.setTop (mkF m 23 #[.val (.int p1), .val (.int p2), .val (.int p3), .val (.int ((p1 &&& (2147483647 : Int32)) % (9 : Int32))), .val (.int (0 : Int32)), .unset, .unset, .unset, .unset] [(.int (2 : Int32)), (.int p2)])) tg
      refine XS.iand X0.here hx rfl (hb hby at_23) rfl ?_
      exact kt
    by_cases hc24 : (p2 &&& (2 : Int32)) = (0 : Int32)
    · skip
      refine own_seg (T' := T0) (g' := (mkF m 31 #[.val (.int p1), .val (.int p2), .val (.int p3), .val (.int ((p1 &&& (2147483647 : Int32)) % (9 : Int32))), .val (.int (0 : Int32)), .unset, .unset, .unset, .unset] [])) (fun tg kt => XS.ifYes X0.here hx rfl (pc0 := 24) (pc' := 31) rfl (hb hby at_24) rfl ((if0 _ _).trans (teq hc24).1) (by decide) (by decide) kt) ?_
      refine own_seg (T' := T0) (g' := (mkF m 39 #[.val (.int p1), .val (.int p2), .val (.int p3), .val (.int ((p1 &&& (2147483647 : Int32)) % (9 : Int32))), .val (.int (0 : Int32)), .val (.int (0 : Int32)), .val (.int (p3 &&& (3 : Int32))), .unset, .unset] [])) (fun tg kt => ?_) ?_
      · show Steps p.tables e below (T0.setTop (mkF m 31 #[.val (.int p1), .val (.int p2), .val (.int p3), .val (.int ((p1 &&& (2147483647 : Int32)) % (9 : Int32))), .val (.int (0 : Int32)), .unset, .unset, .unset, .unset] [])) tg
        refine XS.iconst X0.here hx rfl (hb hby at_31) ?_
        show Steps p.tables e below (T0.setTop (mkF m 32 #[.val (.int p1), .val (.int p2), .val (.int p3), .val (.int ((p1 &&& (2147483647 : Int32)) % (9 : Int32))), .val (.int (0 : Int32)), .unset, .unset, .unset, .unset] [(.int (0 : Int32))])) tg
        refine XS.istore X0.here hx rfl (hb hby at_32) rfl (l' := #[.val (.int p1), .val (.int p2), .val (.int p3), .val (.int ((p1 &&& (2147483647 : Int32)) % (9 : Int32))), .val (.int (0 : Int32)), .val (.int (0 : Int32)), .unset, .unset, .unset]) rfl ?_
        show Steps p.tables e below (T0.setTop (mkF m 34 #[.val (.int p1), .val (.int p2), .val (.int p3), .val (.int ((p1 &&& (2147483647 : Int32)) % (9 : Int32))), .val (.int (0 : Int32)), .val (.int (0 : Int32)), .unset, .unset, .unset] [])) tg
        refine XS.iloadN X0.here hx rfl (hb hby at_34) rfl ?_
        show Steps p.tables e below (T0.setTop (mkF m 35 #[.val (.int p1), .val (.int p2), .val (.int p3), .val (.int ((p1 &&& (2147483647 : Int32)) % (9 : Int32))), .val (.int (0 : Int32)), .val (.int (0 : Int32)), .unset, .unset, .unset] [(.int p3)])) tg
        refine XS.iconst X0.here hx rfl (hb hby at_35) ?_
        show Steps p.tables e below (T0.setTop (mkF m 36 #[.val (.int p1), .val (.int p2), .val (.int p3), .val (.int ((p1 &&& (2147483647 : Int32)) % (9 : Int32))), .val (.int (0 : Int32)), .val (.int (0 : Int32)), .unset, .unset, .unset] [(.int (3 : Int32)), (.int p3)])) tg
        refine XS.iand X0.here hx rfl (hb hby at_36) rfl ?_
        show Steps p.tables e below (T0.setTop (mkF m 37 #[.val (.int p1), .val (.int p2), .val (.int p3), .val (.int ((p1 &&& (2147483647 : Int32)) % (9 : Int32))), .val (.int (0 : Int32)), .val (.int (0 : Int32)), .unset, .unset, .unset] [(.int (p3 &&& (3 : Int32)))])) tg
        refine XS.istore X0.here hx rfl (hb hby at_37) rfl (l' := #[.val (.int p1), .val (.int p2), .val (.int p3), .val (.int ((p1 &&& (2147483647 : Int32)) % (9 : Int32))), .val (.int (0 : Int32)), .val (.int (0 : Int32)), .val (.int (p3 &&& (3 : Int32))), .unset, .unset]) rfl ?_
        exact kt
      obtain ⟨i, hi⟩ := own_k9 p1
      obtain ⟨j, hj⟩ := own_p4 p3
      exact sg0_39 hw p1 p2 p3 _ 0 0 _ (own_M i.val) r0 r1 r2 r3 r4 r5 r6 r7 r8 K X0 e0 N0 Z0 S0 S1 S2 S3 S4 S5 S6 S7 S8 (by rw [hi]; exact hO i) (by rw [hi, hj]; exact own_all00 i j)
    · skip
      refine own_seg (T' := T0) (g' := (mkF m 27 #[.val (.int p1), .val (.int p2), .val (.int p3), .val (.int ((p1 &&& (2147483647 : Int32)) % (9 : Int32))), .val (.int (0 : Int32)), .unset, .unset, .unset, .unset] [])) (fun tg kt => XS.ifNo X0.here hx rfl (hb hby at_24) rfl ((if0 _ _).trans (feq hc24).1) kt) ?_
      refine own_seg (T' := T0) (g' := (mkF m 39 #[.val (.int p1), .val (.int p2), .val (.int p3), .val (.int ((p1 &&& (2147483647 : Int32)) % (9 : Int32))), .val (.int (0 : Int32)), .val (.int (1 : Int32)), .val (.int (p3 &&& (3 : Int32))), .unset, .unset] [])) (fun tg kt => ?_) ?_
      · show Steps p.tables e below (T0.setTop (mkF m 27 #[.val (.int p1), .val (.int p2), .val (.int p3), .val (.int ((p1 &&& (2147483647 : Int32)) % (9 : Int32))), .val (.int (0 : Int32)), .unset, .unset, .unset, .unset] [])) tg
        refine XS.iconst X0.here hx rfl (hb hby at_27) ?_
        show Steps p.tables e below (T0.setTop (mkF m 28 #[.val (.int p1), .val (.int p2), .val (.int p3), .val (.int ((p1 &&& (2147483647 : Int32)) % (9 : Int32))), .val (.int (0 : Int32)), .unset, .unset, .unset, .unset] [(.int (1 : Int32))])) tg
        refine XS.goto X0.here hx rfl (pc0 := 28) (pc' := 32) rfl (hb hby at_28) (by decide) (by decide) ?_
        show Steps p.tables e below (T0.setTop (mkF m 32 #[.val (.int p1), .val (.int p2), .val (.int p3), .val (.int ((p1 &&& (2147483647 : Int32)) % (9 : Int32))), .val (.int (0 : Int32)), .unset, .unset, .unset, .unset] [(.int (1 : Int32))])) tg
        refine XS.istore X0.here hx rfl (hb hby at_32) rfl (l' := #[.val (.int p1), .val (.int p2), .val (.int p3), .val (.int ((p1 &&& (2147483647 : Int32)) % (9 : Int32))), .val (.int (0 : Int32)), .val (.int (1 : Int32)), .unset, .unset, .unset]) rfl ?_
        show Steps p.tables e below (T0.setTop (mkF m 34 #[.val (.int p1), .val (.int p2), .val (.int p3), .val (.int ((p1 &&& (2147483647 : Int32)) % (9 : Int32))), .val (.int (0 : Int32)), .val (.int (1 : Int32)), .unset, .unset, .unset] [])) tg
        refine XS.iloadN X0.here hx rfl (hb hby at_34) rfl ?_
        show Steps p.tables e below (T0.setTop (mkF m 35 #[.val (.int p1), .val (.int p2), .val (.int p3), .val (.int ((p1 &&& (2147483647 : Int32)) % (9 : Int32))), .val (.int (0 : Int32)), .val (.int (1 : Int32)), .unset, .unset, .unset] [(.int p3)])) tg
        refine XS.iconst X0.here hx rfl (hb hby at_35) ?_
        show Steps p.tables e below (T0.setTop (mkF m 36 #[.val (.int p1), .val (.int p2), .val (.int p3), .val (.int ((p1 &&& (2147483647 : Int32)) % (9 : Int32))), .val (.int (0 : Int32)), .val (.int (1 : Int32)), .unset, .unset, .unset] [(.int (3 : Int32)), (.int p3)])) tg
        refine XS.iand X0.here hx rfl (hb hby at_36) rfl ?_
        show Steps p.tables e below (T0.setTop (mkF m 37 #[.val (.int p1), .val (.int p2), .val (.int p3), .val (.int ((p1 &&& (2147483647 : Int32)) % (9 : Int32))), .val (.int (0 : Int32)), .val (.int (1 : Int32)), .unset, .unset, .unset] [(.int (p3 &&& (3 : Int32)))])) tg
        refine XS.istore X0.here hx rfl (hb hby at_37) rfl (l' := #[.val (.int p1), .val (.int p2), .val (.int p3), .val (.int ((p1 &&& (2147483647 : Int32)) % (9 : Int32))), .val (.int (0 : Int32)), .val (.int (1 : Int32)), .val (.int (p3 &&& (3 : Int32))), .unset, .unset]) rfl ?_
        exact kt
      obtain ⟨i, hi⟩ := own_k9 p1
      obtain ⟨j, hj⟩ := own_p4 p3
      exact sg0_39 hw p1 p2 p3 _ 0 1 _ (own_M i.val) r0 r1 r2 r3 r4 r5 r6 r7 r8 K X0 e0 N0 Z0 S0 S1 S2 S3 S4 S5 S6 S7 S8 (by rw [hi]; exact hO i) (by rw [hi, hj]; exact own_all01 i j)
  · skip
    refine own_seg (T' := T0) (g' := (mkF m 14 #[.val (.int p1), .val (.int p2), .val (.int p3), .val (.int ((p1 &&& (2147483647 : Int32)) % (9 : Int32))), .unset, .unset, .unset, .unset, .unset] [])) (fun tg kt => XS.ifNo X0.here hx rfl (hb hby at_11) rfl ((if0 _ _).trans (feq hc11).1) kt) ?_
    refine own_seg (T' := T0) (g' := (mkF m 24 #[.val (.int p1), .val (.int p2), .val (.int p3), .val (.int ((p1 &&& (2147483647 : Int32)) % (9 : Int32))), .val (.int (1 : Int32)), .unset, .unset, .unset, .unset] [(.int (p2 &&& (2 : Int32)))])) (fun tg kt => ?_) ?_
    · show Steps p.tables e below (T0.setTop (mkF m 14 #[.val (.int p1), .val (.int p2), .val (.int p3), .val (.int ((p1 &&& (2147483647 : Int32)) % (9 : Int32))), .unset, .unset, .unset, .unset, .unset] [])) tg
      refine XS.iconst X0.here hx rfl (hb hby at_14) ?_
      show Steps p.tables e below (T0.setTop (mkF m 15 #[.val (.int p1), .val (.int p2), .val (.int p3), .val (.int ((p1 &&& (2147483647 : Int32)) % (9 : Int32))), .unset, .unset, .unset, .unset, .unset] [(.int (1 : Int32))])) tg
      refine XS.goto X0.here hx rfl (pc0 := 15) (pc' := 19) rfl (hb hby at_15) (by decide) (by decide) ?_
      show Steps p.tables e below (T0.setTop (mkF m 19 #[.val (.int p1), .val (.int p2), .val (.int p3), .val (.int ((p1 &&& (2147483647 : Int32)) % (9 : Int32))), .unset, .unset, .unset, .unset, .unset] [(.int (1 : Int32))])) tg
      refine XS.istore X0.here hx rfl (hb hby at_19) rfl (l' := #[.val (.int p1), .val (.int p2), .val (.int p3), .val (.int ((p1 &&& (2147483647 : Int32)) % (9 : Int32))), .val (.int (1 : Int32)), .unset, .unset, .unset, .unset]) rfl ?_
      show Steps p.tables e below (T0.setTop (mkF m 21 #[.val (.int p1), .val (.int p2), .val (.int p3), .val (.int ((p1 &&& (2147483647 : Int32)) % (9 : Int32))), .val (.int (1 : Int32)), .unset, .unset, .unset, .unset] [])) tg
      refine XS.iloadN X0.here hx rfl (hb hby at_21) rfl ?_
      show Steps p.tables e below (T0.setTop (mkF m 22 #[.val (.int p1), .val (.int p2), .val (.int p3), .val (.int ((p1 &&& (2147483647 : Int32)) % (9 : Int32))), .val (.int (1 : Int32)), .unset, .unset, .unset, .unset] [(.int p2)])) tg
      refine XS.iconst X0.here hx rfl (hb hby at_22) ?_
      show Steps p.tables e below (T0.setTop (mkF m 23 #[.val (.int p1), .val (.int p2), .val (.int p3), .val (.int ((p1 &&& (2147483647 : Int32)) % (9 : Int32))), .val (.int (1 : Int32)), .unset, .unset, .unset, .unset] [(.int (2 : Int32)), (.int p2)])) tg
      refine XS.iand X0.here hx rfl (hb hby at_23) rfl ?_
      exact kt
    by_cases hc24 : (p2 &&& (2 : Int32)) = (0 : Int32)
    · skip
      refine own_seg (T' := T0) (g' := (mkF m 31 #[.val (.int p1), .val (.int p2), .val (.int p3), .val (.int ((p1 &&& (2147483647 : Int32)) % (9 : Int32))), .val (.int (1 : Int32)), .unset, .unset, .unset, .unset] [])) (fun tg kt => XS.ifYes X0.here hx rfl (pc0 := 24) (pc' := 31) rfl (hb hby at_24) rfl ((if0 _ _).trans (teq hc24).1) (by decide) (by decide) kt) ?_
      refine own_seg (T' := T0) (g' := (mkF m 39 #[.val (.int p1), .val (.int p2), .val (.int p3), .val (.int ((p1 &&& (2147483647 : Int32)) % (9 : Int32))), .val (.int (1 : Int32)), .val (.int (0 : Int32)), .val (.int (p3 &&& (3 : Int32))), .unset, .unset] [])) (fun tg kt => ?_) ?_
      · show Steps p.tables e below (T0.setTop (mkF m 31 #[.val (.int p1), .val (.int p2), .val (.int p3), .val (.int ((p1 &&& (2147483647 : Int32)) % (9 : Int32))), .val (.int (1 : Int32)), .unset, .unset, .unset, .unset] [])) tg
        refine XS.iconst X0.here hx rfl (hb hby at_31) ?_
        show Steps p.tables e below (T0.setTop (mkF m 32 #[.val (.int p1), .val (.int p2), .val (.int p3), .val (.int ((p1 &&& (2147483647 : Int32)) % (9 : Int32))), .val (.int (1 : Int32)), .unset, .unset, .unset, .unset] [(.int (0 : Int32))])) tg
        refine XS.istore X0.here hx rfl (hb hby at_32) rfl (l' := #[.val (.int p1), .val (.int p2), .val (.int p3), .val (.int ((p1 &&& (2147483647 : Int32)) % (9 : Int32))), .val (.int (1 : Int32)), .val (.int (0 : Int32)), .unset, .unset, .unset]) rfl ?_
        show Steps p.tables e below (T0.setTop (mkF m 34 #[.val (.int p1), .val (.int p2), .val (.int p3), .val (.int ((p1 &&& (2147483647 : Int32)) % (9 : Int32))), .val (.int (1 : Int32)), .val (.int (0 : Int32)), .unset, .unset, .unset] [])) tg
        refine XS.iloadN X0.here hx rfl (hb hby at_34) rfl ?_
        show Steps p.tables e below (T0.setTop (mkF m 35 #[.val (.int p1), .val (.int p2), .val (.int p3), .val (.int ((p1 &&& (2147483647 : Int32)) % (9 : Int32))), .val (.int (1 : Int32)), .val (.int (0 : Int32)), .unset, .unset, .unset] [(.int p3)])) tg
        refine XS.iconst X0.here hx rfl (hb hby at_35) ?_
        show Steps p.tables e below (T0.setTop (mkF m 36 #[.val (.int p1), .val (.int p2), .val (.int p3), .val (.int ((p1 &&& (2147483647 : Int32)) % (9 : Int32))), .val (.int (1 : Int32)), .val (.int (0 : Int32)), .unset, .unset, .unset] [(.int (3 : Int32)), (.int p3)])) tg
        refine XS.iand X0.here hx rfl (hb hby at_36) rfl ?_
        show Steps p.tables e below (T0.setTop (mkF m 37 #[.val (.int p1), .val (.int p2), .val (.int p3), .val (.int ((p1 &&& (2147483647 : Int32)) % (9 : Int32))), .val (.int (1 : Int32)), .val (.int (0 : Int32)), .unset, .unset, .unset] [(.int (p3 &&& (3 : Int32)))])) tg
        refine XS.istore X0.here hx rfl (hb hby at_37) rfl (l' := #[.val (.int p1), .val (.int p2), .val (.int p3), .val (.int ((p1 &&& (2147483647 : Int32)) % (9 : Int32))), .val (.int (1 : Int32)), .val (.int (0 : Int32)), .val (.int (p3 &&& (3 : Int32))), .unset, .unset]) rfl ?_
        exact kt
      obtain ⟨i, hi⟩ := own_k9 p1
      obtain ⟨j, hj⟩ := own_p4 p3
      exact sg0_39 hw p1 p2 p3 _ 1 0 _ (own_M i.val) r0 r1 r2 r3 r4 r5 r6 r7 r8 K X0 e0 N0 Z0 S0 S1 S2 S3 S4 S5 S6 S7 S8 (by rw [hi]; exact hO i) (by rw [hi, hj]; exact own_all10 i j)
    · skip
      refine own_seg (T' := T0) (g' := (mkF m 27 #[.val (.int p1), .val (.int p2), .val (.int p3), .val (.int ((p1 &&& (2147483647 : Int32)) % (9 : Int32))), .val (.int (1 : Int32)), .unset, .unset, .unset, .unset] [])) (fun tg kt => XS.ifNo X0.here hx rfl (hb hby at_24) rfl ((if0 _ _).trans (feq hc24).1) kt) ?_
      refine own_seg (T' := T0) (g' := (mkF m 39 #[.val (.int p1), .val (.int p2), .val (.int p3), .val (.int ((p1 &&& (2147483647 : Int32)) % (9 : Int32))), .val (.int (1 : Int32)), .val (.int (1 : Int32)), .val (.int (p3 &&& (3 : Int32))), .unset, .unset] [])) (fun tg kt => ?_) ?_
      · show Steps p.tables e below (T0.setTop (mkF m 27 #[.val (.int p1), .val (.int p2), .val (.int p3), .val (.int ((p1 &&& (2147483647 : Int32)) % (9 : Int32))), .val (.int (1 : Int32)), .unset, .unset, .unset, .unset] [])) tg
        refine XS.iconst X0.here hx rfl (hb hby at_27) ?_
        show Steps p.tables e below (T0.setTop (mkF m 28 #[.val (.int p1), .val (.int p2), .val (.int p3), .val (.int ((p1 &&& (2147483647 : Int32)) % (9 : Int32))), .val (.int (1 : Int32)), .unset, .unset, .unset, .unset] [(.int (1 : Int32))])) tg
        refine XS.goto X0.here hx rfl (pc0 := 28) (pc' := 32) rfl (hb hby at_28) (by decide) (by decide) ?_
        show Steps p.tables e below (T0.setTop (mkF m 32 #[.val (.int p1), .val (.int p2), .val (.int p3), .val (.int ((p1 &&& (2147483647 : Int32)) % (9 : Int32))), .val (.int (1 : Int32)), .unset, .unset, .unset, .unset] [(.int (1 : Int32))])) tg
        refine XS.istore X0.here hx rfl (hb hby at_32) rfl (l' := #[.val (.int p1), .val (.int p2), .val (.int p3), .val (.int ((p1 &&& (2147483647 : Int32)) % (9 : Int32))), .val (.int (1 : Int32)), .val (.int (1 : Int32)), .unset, .unset, .unset]) rfl ?_
        show Steps p.tables e below (T0.setTop (mkF m 34 #[.val (.int p1), .val (.int p2), .val (.int p3), .val (.int ((p1 &&& (2147483647 : Int32)) % (9 : Int32))), .val (.int (1 : Int32)), .val (.int (1 : Int32)), .unset, .unset, .unset] [])) tg
        refine XS.iloadN X0.here hx rfl (hb hby at_34) rfl ?_
        show Steps p.tables e below (T0.setTop (mkF m 35 #[.val (.int p1), .val (.int p2), .val (.int p3), .val (.int ((p1 &&& (2147483647 : Int32)) % (9 : Int32))), .val (.int (1 : Int32)), .val (.int (1 : Int32)), .unset, .unset, .unset] [(.int p3)])) tg
        refine XS.iconst X0.here hx rfl (hb hby at_35) ?_
        show Steps p.tables e below (T0.setTop (mkF m 36 #[.val (.int p1), .val (.int p2), .val (.int p3), .val (.int ((p1 &&& (2147483647 : Int32)) % (9 : Int32))), .val (.int (1 : Int32)), .val (.int (1 : Int32)), .unset, .unset, .unset] [(.int (3 : Int32)), (.int p3)])) tg
        refine XS.iand X0.here hx rfl (hb hby at_36) rfl ?_
        show Steps p.tables e below (T0.setTop (mkF m 37 #[.val (.int p1), .val (.int p2), .val (.int p3), .val (.int ((p1 &&& (2147483647 : Int32)) % (9 : Int32))), .val (.int (1 : Int32)), .val (.int (1 : Int32)), .unset, .unset, .unset] [(.int (p3 &&& (3 : Int32)))])) tg
        refine XS.istore X0.here hx rfl (hb hby at_37) rfl (l' := #[.val (.int p1), .val (.int p2), .val (.int p3), .val (.int ((p1 &&& (2147483647 : Int32)) % (9 : Int32))), .val (.int (1 : Int32)), .val (.int (1 : Int32)), .val (.int (p3 &&& (3 : Int32))), .unset, .unset]) rfl ?_
        exact kt
      obtain ⟨i, hi⟩ := own_k9 p1
      obtain ⟨j, hj⟩ := own_p4 p3
      exact sg0_39 hw p1 p2 p3 _ 1 1 _ (own_M i.val) r0 r1 r2 r3 r4 r5 r6 r7 r8 K X0 e0 N0 Z0 S0 S1 S2 S3 S4 S5 S6 S7 S8 (by rw [hi]; exact hO i) (by rw [hi, hj]; exact own_all11 i j)
set_option maxRecDepth 65536 in
set_option maxHeartbeats 40000000 in
theorem own_comes {Post : Tables → Env → Array Value → State → Outcome → State → Prop} (hpost : ∀ tb e args s v u, (limb_1_1.after args s (.returned v) u = true ∧ limb_1_2.after args s (.returned v) u = true) → FrameEnd s (.returned v) u (Jvm.fieldLocs frame_1_writes args s ++ Jvm.arrayLocs frame_1_arrays args s ++ Jvm.staticLocs frame_1_statics s) 0 0 → Post tb e args s (.returned v) u) :
    ArmFor flags0 classFile x code maxLocals ret World_1 tables_1 room_1 Calls_1 rest_1 Pre_1 Post := by
  intro l hfl _ _ p e ha hc hk s m args below hf hA hF happ hP
  obtain ⟨hcalls, hrest, hpre⟩ := hP
  obtain ⟨-, -, -, hnamed, -, -, -, hat⟩ := (Spec.applies_iff hf).mp happ
  obtain ⟨hg, hn⟩ := and_e (Cond.before_iff.mp (show (Jvm.Cond.and given_1 narrow_1).before args s = true from hpre))
  obtain ⟨q1, q2⟩ := and_e hg
  obtain ⟨q3, q4⟩ := and_e q2
  obtain ⟨q5, q6⟩ := and_e q4
  obtain ⟨w0, w1, w2, rfl⟩ : ∃ w0 w1 w2 : Value, args = #[w0, w1, w2] := by
    have hs : args.size = 3 := by simpa [Cond.value, given_1] using q1
    obtain ⟨L⟩ := args
    match L, hs with
    | [w0, w1, w2], _ => exact ⟨w0, w1, w2, rfl⟩
  have hw := fun d (hd : d ∈ tables_1) => atoms_spec (ws := Jvm.Cond.code x code maxLocals ret :: tables_1) hat d (List.mem_cons_of_mem _ hd)
  obtain ⟨i0, ei0⟩ := is_v q3
  obtain rfl : w0 = (.int i0) := Option.some.inj ei0
  obtain ⟨i1, ei1⟩ := is_v q5
  obtain rfl : w1 = (.int i1) := Option.some.inj ei1
  obtain ⟨i2, ei2⟩ := is_v q6
  obtain rfl : w2 = (.int i2) := Option.some.inj ei2
  obtain ⟨m0, q0'⟩ := and_e hn
  obtain ⟨m1, q1'⟩ := and_e q0'
  obtain ⟨m2, q2'⟩ := and_e q1'
  obtain ⟨m3, q3'⟩ := and_e q2'
  obtain ⟨m4, q4'⟩ := and_e q3'
  obtain ⟨m5, q5'⟩ := and_e q4'
  obtain ⟨m6, q6'⟩ := and_e q5'
  obtain ⟨m7, q7'⟩ := and_e q6'
  obtain ⟨m8, q8'⟩ := and_e q7'
  obtain ⟨m9, q9'⟩ := and_e q8'
  obtain ⟨m10, q10'⟩ := and_e q9'
  obtain ⟨m11, q11'⟩ := and_e q10'
  obtain ⟨m12, q12'⟩ := and_e q11'
  obtain ⟨m13, q13'⟩ := and_e q12'
  obtain ⟨m14, q14'⟩ := and_e q13'
  obtain ⟨m15, q15'⟩ := and_e q14'
  obtain ⟨m16, q16'⟩ := and_e q15'
  have m17 := q16'
  obtain ⟨r0, er0⟩ := exa_v m0
  have S0 := Sta.start er0 (Or.inr ⟨(hw _ (List.mem_of_getElem? (i := 6) rfl)), (hw _ (List.mem_of_getElem? (i := 7) rfl))⟩)
  have O0 : own_Obj s s.heap r0 "com/example/rounder/rounder/RoundingRule" [("com/example/rounder/rounder/RoundingRule", "awayFromZero", "I", .int 60928)] := ⟨Exa.start er0 m0, fun z hz => by
    simp only [List.mem_cons, List.not_mem_nil, or_false] at hz
    subst hz
    exact own_fieldI m1 er0⟩
  obtain ⟨r1, er1⟩ := exa_v m2
  have S1 := Sta.start er1 (Or.inr ⟨(hw _ (List.mem_of_getElem? (i := 6) rfl)), (hw _ (List.mem_of_getElem? (i := 19) rfl))⟩)
  have O1 : own_Obj s s.heap r1 "com/example/rounder/rounder/RoundingRule" [("com/example/rounder/rounder/RoundingRule", "awayFromZero", "I", .int 238)] := ⟨Exa.start er1 m2, fun z hz => by
    simp only [List.mem_cons, List.not_mem_nil, or_false] at hz
    subst hz
    exact own_fieldI m3 er1⟩
  obtain ⟨r2, er2⟩ := exa_v m4
  have S2 := Sta.start er2 (Or.inr ⟨(hw _ (List.mem_of_getElem? (i := 6) rfl)), (hw _ (List.mem_of_getElem? (i := 21) rfl))⟩)
  have O2 : own_Obj s s.heap r2 "com/example/rounder/rounder/RoundingRule" [("com/example/rounder/rounder/RoundingRule", "awayFromZero", "I", .int 0)] := ⟨Exa.start er2 m4, fun z hz => by
    simp only [List.mem_cons, List.not_mem_nil, or_false] at hz
    subst hz
    exact own_fieldI m5 er2⟩
  obtain ⟨r8, er8⟩ := exa_v m6
  have S8 := Sta.start er8 (Or.inr ⟨(hw _ (List.mem_of_getElem? (i := 6) rfl)), (hw _ (List.mem_of_getElem? (i := 23) rfl))⟩)
  have O8 : own_Obj s s.heap r8 "com/example/rounder/rounder/RoundingRule" [("com/example/rounder/rounder/RoundingRule", "awayFromZero", "I", .int 51400)] := ⟨Exa.start er8 m6, fun z hz => by
    simp only [List.mem_cons, List.not_mem_nil, or_false] at hz
    subst hz
    exact own_fieldI m7 er8⟩
  obtain ⟨r6, er6⟩ := exa_v m8
  have S6 := Sta.start er6 (Or.inr ⟨(hw _ (List.mem_of_getElem? (i := 6) rfl)), (hw _ (List.mem_of_getElem? (i := 25) rfl))⟩)
  have O6 : own_Obj s s.heap r6 "com/example/rounder/rounder/RoundingRule" [("com/example/rounder/rounder/RoundingRule", "awayFromZero", "I", .int 34952)] := ⟨Exa.start er6 m8, fun z hz => by
    simp only [List.mem_cons, List.not_mem_nil, or_false] at hz
    subst hz
    exact own_fieldI m9 er6⟩
  obtain ⟨r7, er7⟩ := exa_v m10
  have S7 := Sta.start er7 (Or.inr ⟨(hw _ (List.mem_of_getElem? (i := 6) rfl)), (hw _ (List.mem_of_getElem? (i := 27) rfl))⟩)
  have O7 : own_Obj s s.heap r7 "com/example/rounder/rounder/RoundingRule" [("com/example/rounder/rounder/RoundingRule", "awayFromZero", "I", .int 52428)] := ⟨Exa.start er7 m10, fun z hz => by
    simp only [List.mem_cons, List.not_mem_nil, or_false] at hz
    subst hz
    exact own_fieldI m11 er7⟩
  obtain ⟨r3, er3⟩ := exa_v m12
  have S3 := Sta.start er3 (Or.inr ⟨(hw _ (List.mem_of_getElem? (i := 6) rfl)), (hw _ (List.mem_of_getElem? (i := 29) rfl))⟩)
  have O3 : own_Obj s s.heap r3 "com/example/rounder/rounder/RoundingRule" [("com/example/rounder/rounder/RoundingRule", "awayFromZero", "I", .int 61166)] := ⟨Exa.start er3 m12, fun z hz => by
    simp only [List.mem_cons, List.not_mem_nil, or_false] at hz
    subst hz
    exact own_fieldI m13 er3⟩
  obtain ⟨r4, er4⟩ := exa_v m14
  have S4 := Sta.start er4 (Or.inr ⟨(hw _ (List.mem_of_getElem? (i := 6) rfl)), (hw _ (List.mem_of_getElem? (i := 31) rfl))⟩)
  have O4 : own_Obj s s.heap r4 "com/example/rounder/rounder/RoundingRule" [("com/example/rounder/rounder/RoundingRule", "awayFromZero", "I", .int 52360)] := ⟨Exa.start er4 m14, fun z hz => by
    simp only [List.mem_cons, List.not_mem_nil, or_false] at hz
    subst hz
    exact own_fieldI m15 er4⟩
  obtain ⟨r5, er5⟩ := exa_v m16
  have S5 := Sta.start er5 (Or.inr ⟨(hw _ (List.mem_of_getElem? (i := 6) rfl)), (hw _ (List.mem_of_getElem? (i := 33) rfl))⟩)
  have O5 : own_Obj s s.heap r5 "com/example/rounder/rounder/RoundingRule" [("com/example/rounder/rounder/RoundingRule", "awayFromZero", "I", .int 35020)] := ⟨Exa.start er5 m16, fun z hz => by
    simp only [List.mem_cons, List.not_mem_nil, or_false] at hz
    subst hz
    exact own_fieldI m17 er5⟩
  have hO : ∀ i : Fin 9, own_Obj s s.heap (own_pick (Int32.ofNat i.val) r0 r1 r2 r3 r4 r5 r6 r7 r8) "com/example/rounder/rounder/RoundingRule" [("com/example/rounder/rounder/RoundingRule", "awayFromZero", "I", .int (own_M i.val))] := fun i => by
    match i with
    | ⟨0, _⟩ => exact O0
    | ⟨1, _⟩ => exact O1
    | ⟨2, _⟩ => exact O2
    | ⟨3, _⟩ => exact O3
    | ⟨4, _⟩ => exact O4
    | ⟨5, _⟩ => exact O5
    | ⟨6, _⟩ => exact O6
    | ⟨7, _⟩ => exact O7
    | ⟨8, _⟩ => exact O8
    | ⟨n + 9, h⟩ => omega
  obtain ⟨n, o, h1, h2, h3, _, L, rfl, ⟨rfl, N⟩, hq⟩ := rm0 l s _ hw i0 i1 i2 r0 r1 r2 r3 r4 r5 r6 r7 r8 s.heap s.heap.size (Nat.le_refl _) S0 S1 S2 S3 S4 S5 S6 S7 S8 hO tables_1 p e ha hc hk s m _ below hf ((Spec.applies_iff_loose hf).mp happ).1 ⟨rfl, State.Warmed39.refl s, rfl⟩ trivial
  exact ⟨n, _, h1, h2, h3, hpost _ _ _ _ _ _ ⟨Cond.after_iff.mpr rfl, Cond.after_iff.mpr (eq_i res_at (Term.int_eval (1)) rfl)⟩ ⟨hq.1, hq.2.1, (hq.2.2.sift fun y hy => Or.inr (N y hy)).mono (by decide) (by decide)⟩⟩
theorem main_1_1 : Claimed_1_1 := own_comes fun _ _ _ _ _ _ h hF => ⟨h.1, hF⟩
theorem main_1_2 : Claimed_1_2 := own_comes fun _ _ _ _ _ _ h hF => ⟨h.2, hF⟩
end Jvm.Pilot.@@N@@
namespace Jvm.Pilot.@@N@@
open Jvm Jvm.ClassFile Sem Op Lib Jvm.Free Jvm.Stand Jvm.Pilot.@@N@@.Jvm.D
/-! MADE BY PROGRAM (witnessworld.py) out of the Statement's table words and the real class files: 12 classes; the members and pool entries that the words name. The judged class is class 1, her method 3. -/
namespace start1
open Jvm.ClassFile
def u (s : String) : CpInfo := .utf8 (stringToUtf16 s)
/-- a pool by its gaps: so many unusable entries, then the entry; so many at the end -/
def gap : Nat → List CpInfo → List CpInfo
  | 0, r => r
  | n + 1, r => .unusable :: gap n r
def poolList (es : List (Nat × CpInfo)) (last : Nat) : List CpInfo := es.foldr (fun e r => gap e.1 (e.2 :: r)) (gap last [])
def pool (es : List (Nat × CpInfo)) (last : Nat) : Array CpInfo := ⟨poolList es last⟩
def fileOf (pool : Array CpInfo) (this : Nat) (attrs : Array Attribute := #[]) (ms : Array MethodInfo := #[]) (fl : Nat := 33) (sup : Nat := 0) (ifs : Array Nat := #[]) (fds : Array FieldInfo := #[]) : ClassFile where
  minorVersion := 0
  majorVersion := 65
  constantPool := pool
  accessFlags := fl
  thisClass := this
  superClass := sup
  interfaces := ifs
  fields := fds
  methods := ms
  attributes := attrs
def plain (name : String) (sup : Option ClassId) : Class where
  name := name
  kind := .ordinary
  loader := none
  accessFlags := 33
  super := sup
  interfaces := #[]
  cf := none
  fields := #[]
  methods := #[]
  instanceTypes := #[]
  staticTypes := #[]
  resolved := #[]
  callSites := []
  init := .initialized
  statics := none
  mirror := none

def pool0 : Array CpInfo := pool [(5, u "<init>"), (0, u "()V"), (1, .class_ 10), (1, u "java/lang/Object")] 113

def k0m0 : Method := { name := "<init>", desc := "()V", sig := { parameters := [], returnType := none }, accessFlags := 1, code := none }
/-- java/lang/Object -/
def k0 : Class := { plain "java/lang/Object" none with
  accessFlags := 33
  interfaces := #[]
  cf := some (fileOf pool0 8 #[] #[{ accessFlags := 1, nameIndex := 5, descriptorIndex := 6, attributes := #[] }] 33 0 #[] #[])
  fields := #[]
  methods := #[k0m0]
  instanceTypes := #[]
  staticTypes := #[]
  resolved := Array.replicate 124 none
  statics := none }

def pool1 : Array CpInfo := pool [(2, .class_ 4), (1, u "java/lang/Object"), (0, u "<init>"), (0, u "()V"), (0, .fieldref 8 9), (0, .class_ 10), (0, .nameAndType 11 12), (0, u "com/example/rounder/rounder/RoundingRule"), (0, u "FLOOR"), (0, u "Lcom/example/rounder/rounder/RoundingRule;"), (0, .fieldref 8 14), (0, .nameAndType 15 12), (0, u "CEILING"), (0, .fieldref 8 17), (0, .nameAndType 18 12), (0, u "TOWARD_ZERO"), (0, .fieldref 8 20), (0, .nameAndType 21 12), (0, u "AWAY_FROM_ZERO"), (0, .fieldref 8 23), (0, .nameAndType 24 12), (0, u "HALF_TO_FLOOR"), (0, .fieldref 8 26), (0, .nameAndType 27 12), (0, u "HALF_TO_CEILING"), (0, .fieldref 8 29), (0, .nameAndType 30 12), (0, u "HALF_TOWARD_ZERO"), (0, .fieldref 8 32), (0, .nameAndType 33 12), (0, u "HALF_AWAY_FROM_ZERO"), (0, .fieldref 8 35), (0, .nameAndType 36 12), (0, u "HALF_TO_EVEN"), (0, .integer 2147483647), (0, .methodref 39 40), (0, .class_ 41), (0, .nameAndType 42 43), (0, u "com/example/rounder/rounder/RoundingRuleRoundsAwayPinLaw"), (0, u "rule"), (0, u "(I)Lcom/example/rounder/rounder/RoundingRule;"), (0, .methodref 39 45), (0, .nameAndType 46 47), (0, u "expected"), (0, u "(IZIZ)Z"), (0, .methodref 8 49), (0, .nameAndType 50 51), (0, u "roundsAway"), (0, u "(ZIZ)Z"), (3, u "law"), (0, u "(III)Z")] 2

def k1m0 : Method := { name := "<init>", desc := "()V", sig := { parameters := [], returnType := none }, accessFlags := 2, code := none }
def k1c1 : Code := { maxStack := 2, maxLocals := 1, code := method_2_code, exceptionTable := #[], attributes := #[] }
def k1m1 : Method := { name := "rule", desc := "(I)Lcom/example/rounder/rounder/RoundingRule;", sig := { parameters := [.int], returnType := some (.object "com/example/rounder/rounder/RoundingRule") }, accessFlags := 10, code := some k1c1 }
def k1c2 : Code := { maxStack := 2, maxLocals := 4, code := method_3_code, exceptionTable := #[], attributes := #[] }
def k1m2 : Method := { name := "expected", desc := "(IZIZ)Z", sig := { parameters := [.int, .boolean, .int, .boolean], returnType := some .boolean }, accessFlags := 10, code := some k1c2 }
def k1c3 : Code := { maxStack := 4, maxLocals := 9, code := code, exceptionTable := #[], attributes := #[] }
def k1m3 : Method := { name := "law", desc := "(III)Z", sig := { parameters := [.int, .int, .int], returnType := some .boolean }, accessFlags := 9, code := some k1c3 }
/-- com/example/rounder/rounder/RoundingRuleRoundsAwayPinLaw -/
def k1 : Class := { plain "com/example/rounder/rounder/RoundingRuleRoundsAwayPinLaw" (some 0) with
  accessFlags := 49
  interfaces := #[]
  cf := some (fileOf pool1 39 #[] #[{ accessFlags := 2, nameIndex := 5, descriptorIndex := 6, attributes := #[] }, { accessFlags := 10, nameIndex := 42, descriptorIndex := 43, attributes := #[] }, { accessFlags := 10, nameIndex := 46, descriptorIndex := 47, attributes := #[] }, { accessFlags := 9, nameIndex := 55, descriptorIndex := 56, attributes := #[] }] 49 2 #[] #[])
  fields := #[]
  methods := #[k1m0, k1m1, k1m2, k1m3]
  instanceTypes := #[]
  staticTypes := #[]
  resolved := Array.replicate 59 none
  statics := none }

def pool2 : Array CpInfo := pool [(1, .class_ 2), (0, u "java/lang/constant/Constable"), (0, .class_ 4), (0, u "java/lang/Object")] 6

/-- java/lang/constant/Constable -/
def k2 : Class := { plain "java/lang/constant/Constable" (some 0) with
  accessFlags := 1537
  interfaces := #[]
  cf := some (fileOf pool2 1 #[] #[] 1537 3 #[] #[])
  fields := #[]
  methods := #[]
  instanceTypes := #[]
  staticTypes := #[]
  resolved := Array.replicate 11 none
  statics := none }

def pool3 : Array CpInfo := pool [(1, .class_ 2), (0, u "java/lang/Comparable"), (0, .class_ 4), (0, u "java/lang/Object")] 7

/-- java/lang/Comparable -/
def k3 : Class := { plain "java/lang/Comparable" (some 0) with
  accessFlags := 1537
  interfaces := #[]
  cf := some (fileOf pool3 1 #[] #[] 1537 3 #[] #[])
  fields := #[]
  methods := #[]
  instanceTypes := #[]
  staticTypes := #[]
  resolved := Array.replicate 12 none
  statics := none }

def pool4 : Array CpInfo := pool [(1, .class_ 2), (0, u "java/io/Serializable"), (0, .class_ 4), (0, u "java/lang/Object")] 2

/-- java/io/Serializable -/
def k4 : Class := { plain "java/io/Serializable" (some 0) with
  accessFlags := 1537
  interfaces := #[]
  cf := some (fileOf pool4 1 #[] #[] 1537 3 #[] #[])
  fields := #[]
  methods := #[]
  instanceTypes := #[]
  staticTypes := #[]
  resolved := Array.replicate 7 none
  statics := none }

def pool5 : Array CpInfo := pool [(2, .class_ 4), (1, u "java/lang/Enum"), (0, u "name"), (0, u "Ljava/lang/String;"), (2, u "ordinal"), (0, u "I"), (1, .class_ 14), (1, u "java/lang/Object"), (4, u "hash"), (86, .class_ 108), (1, u "java/lang/Enum$EnumDesc"), (2, .class_ 112), (0, u "java/lang/constant/Constable"), (0, .class_ 114), (0, u "java/lang/Comparable"), (0, .class_ 116), (0, u "java/io/Serializable")] 87

/-- java/lang/Enum -/
def k5 : Class := { plain "java/lang/Enum" (some 0) with
  accessFlags := 1057
  interfaces := #[2, 3, 4]
  cf := some (fileOf pool5 2 #[.nestMembers #[106]] #[] 1057 12 #[111, 113, 115] #[{ accessFlags := 18, nameIndex := 5, descriptorIndex := 6, attributes := #[] }, { accessFlags := 18, nameIndex := 9, descriptorIndex := 10, attributes := #[] }, { accessFlags := 2, nameIndex := 19, descriptorIndex := 10, attributes := #[] }])
  fields := #[{ name := "name", type := (.object "java/lang/String"), accessFlags := 18, slot := 0, constantValue := 0 }, { name := "ordinal", type := .int, accessFlags := 18, slot := 1, constantValue := 0 }, { name := "hash", type := .int, accessFlags := 2, slot := 2, constantValue := 0 }]
  methods := #[]
  instanceTypes := #[(.object "java/lang/String"), .int, .int]
  staticTypes := #[]
  resolved := Array.replicate 204 none
  statics := none }

def pool6 : Array CpInfo := pool [(1, .class_ 2), (0, u "com/example/rounder/rounder/RoundingRule"), (2, u "FLOOR"), (0, u "Lcom/example/rounder/rounder/RoundingRule;"), (2, u "CEILING"), (2, u "TOWARD_ZERO"), (2, u "AWAY_FROM_ZERO"), (2, u "HALF_TO_FLOOR"), (2, u "HALF_TO_CEILING"), (2, u "HALF_TOWARD_ZERO"), (2, u "HALF_AWAY_FROM_ZERO"), (2, u "HALF_TO_EVEN"), (2, u "$VALUES"), (0, u "[Lcom/example/rounder/rounder/RoundingRule;"), (6, .class_ 43), (1, u "java/lang/Enum"), (8, u "modeName"), (0, u "Ljava/lang/String;"), (2, u "positiveMode"), (0, u "Ljava/math/RoundingMode;"), (2, u "negativeMode"), (28, .fieldref 1 90), (0, .nameAndType 91 92), (0, u "awayFromZero"), (0, u "I"), (2, u "toNearest"), (0, u "Z"), (61, u "roundsAway"), (0, u "(ZIZ)Z"), (75, u "HALF_BIT"), (2, u "STICKY_BIT"), (1, u "ODD_ENTRY"), (1, u "NEGATIVE_ENTRY"), (1, u "ENTRIES")] 34

def k6c0 : Code := { maxStack := 2, maxLocals := 5, code := prog_39_method_7_code, exceptionTable := #[], attributes := #[] }
def k6m0 : Method := { name := "roundsAway", desc := "(ZIZ)Z", sig := { parameters := [.boolean, .int, .boolean], returnType := some .boolean }, accessFlags := 0, code := some k6c0 }
/-- com/example/rounder/rounder/RoundingRule -/
def k6 : Class := { plain "com/example/rounder/rounder/RoundingRule" (some 5) with
  accessFlags := 16433
  interfaces := #[]
  cf := some (fileOf pool6 1 #[] #[{ accessFlags := 0, nameIndex := 158, descriptorIndex := 159, attributes := #[] }] 16433 41 #[] #[{ accessFlags := 16409, nameIndex := 5, descriptorIndex := 6, attributes := #[] }, { accessFlags := 16409, nameIndex := 9, descriptorIndex := 6, attributes := #[] }, { accessFlags := 16409, nameIndex := 12, descriptorIndex := 6, attributes := #[] }, { accessFlags := 16409, nameIndex := 15, descriptorIndex := 6, attributes := #[] }, { accessFlags := 16409, nameIndex := 18, descriptorIndex := 6, attributes := #[] }, { accessFlags := 16409, nameIndex := 21, descriptorIndex := 6, attributes := #[] }, { accessFlags := 16409, nameIndex := 24, descriptorIndex := 6, attributes := #[] }, { accessFlags := 16409, nameIndex := 27, descriptorIndex := 6, attributes := #[] }, { accessFlags := 16409, nameIndex := 30, descriptorIndex := 6, attributes := #[] }, { accessFlags := 24, nameIndex := 235, descriptorIndex := 92, attributes := #[] }, { accessFlags := 24, nameIndex := 238, descriptorIndex := 92, attributes := #[] }, { accessFlags := 26, nameIndex := 240, descriptorIndex := 92, attributes := #[] }, { accessFlags := 26, nameIndex := 242, descriptorIndex := 92, attributes := #[] }, { accessFlags := 26, nameIndex := 244, descriptorIndex := 92, attributes := #[] }, { accessFlags := 18, nameIndex := 52, descriptorIndex := 53, attributes := #[] }, { accessFlags := 18, nameIndex := 56, descriptorIndex := 57, attributes := #[] }, { accessFlags := 18, nameIndex := 60, descriptorIndex := 57, attributes := #[] }, { accessFlags := 18, nameIndex := 91, descriptorIndex := 92, attributes := #[] }, { accessFlags := 18, nameIndex := 95, descriptorIndex := 96, attributes := #[] }, { accessFlags := 4122, nameIndex := 33, descriptorIndex := 34, attributes := #[] }])
  fields := #[{ name := "FLOOR", type := (.object "com/example/rounder/rounder/RoundingRule"), accessFlags := 16409, slot := 0, constantValue := 0 }, { name := "CEILING", type := (.object "com/example/rounder/rounder/RoundingRule"), accessFlags := 16409, slot := 1, constantValue := 0 }, { name := "TOWARD_ZERO", type := (.object "com/example/rounder/rounder/RoundingRule"), accessFlags := 16409, slot := 2, constantValue := 0 }, { name := "AWAY_FROM_ZERO", type := (.object "com/example/rounder/rounder/RoundingRule"), accessFlags := 16409, slot := 3, constantValue := 0 }, { name := "HALF_TO_FLOOR", type := (.object "com/example/rounder/rounder/RoundingRule"), accessFlags := 16409, slot := 4, constantValue := 0 }, { name := "HALF_TO_CEILING", type := (.object "com/example/rounder/rounder/RoundingRule"), accessFlags := 16409, slot := 5, constantValue := 0 }, { name := "HALF_TOWARD_ZERO", type := (.object "com/example/rounder/rounder/RoundingRule"), accessFlags := 16409, slot := 6, constantValue := 0 }, { name := "HALF_AWAY_FROM_ZERO", type := (.object "com/example/rounder/rounder/RoundingRule"), accessFlags := 16409, slot := 7, constantValue := 0 }, { name := "HALF_TO_EVEN", type := (.object "com/example/rounder/rounder/RoundingRule"), accessFlags := 16409, slot := 8, constantValue := 0 }, { name := "HALF_BIT", type := .int, accessFlags := 24, slot := 9, constantValue := 0 }, { name := "STICKY_BIT", type := .int, accessFlags := 24, slot := 10, constantValue := 0 }, { name := "ODD_ENTRY", type := .int, accessFlags := 26, slot := 11, constantValue := 0 }, { name := "NEGATIVE_ENTRY", type := .int, accessFlags := 26, slot := 12, constantValue := 0 }, { name := "ENTRIES", type := .int, accessFlags := 26, slot := 13, constantValue := 0 }, { name := "modeName", type := (.object "java/lang/String"), accessFlags := 18, slot := 3, constantValue := 0 }, { name := "positiveMode", type := (.object "java/math/RoundingMode"), accessFlags := 18, slot := 4, constantValue := 0 }, { name := "negativeMode", type := (.object "java/math/RoundingMode"), accessFlags := 18, slot := 5, constantValue := 0 }, { name := "awayFromZero", type := .int, accessFlags := 18, slot := 6, constantValue := 0 }, { name := "toNearest", type := .boolean, accessFlags := 18, slot := 7, constantValue := 0 }, { name := "$VALUES", type := (.array (.object "com/example/rounder/rounder/RoundingRule")), accessFlags := 4122, slot := 14, constantValue := 0 }]
  methods := #[k6m0]
  instanceTypes := #[(.object "java/lang/String"), .int, .int, (.object "java/lang/String"), (.object "java/math/RoundingMode"), (.object "java/math/RoundingMode"), .int, .boolean]
  staticTypes := #[(.object "com/example/rounder/rounder/RoundingRule"), (.object "com/example/rounder/rounder/RoundingRule"), (.object "com/example/rounder/rounder/RoundingRule"), (.object "com/example/rounder/rounder/RoundingRule"), (.object "com/example/rounder/rounder/RoundingRule"), (.object "com/example/rounder/rounder/RoundingRule"), (.object "com/example/rounder/rounder/RoundingRule"), (.object "com/example/rounder/rounder/RoundingRule"), (.object "com/example/rounder/rounder/RoundingRule"), .int, .int, .int, .int, .int, (.array (.object "com/example/rounder/rounder/RoundingRule"))]
  resolved := Array.replicate 279 none
  statics := some 0 }

def pool7 : Array CpInfo := pool [(1, u "java/lang/Cloneable"), (0, .class_ 1), (0, u "java/lang/Object"), (0, .class_ 3)] 3

/-- java/lang/Cloneable -/
def k7 : Class := { plain "java/lang/Cloneable" (some 0) with
  accessFlags := 1537
  interfaces := #[]
  cf := some (fileOf pool7 2 #[] #[] 1537 4 #[] #[])
  fields := #[]
  methods := #[]
  instanceTypes := #[]
  staticTypes := #[]
  resolved := Array.replicate 8 none
  statics := none }

/-- the primitive byte -/
def k8 : Class := { plain "byte" none with kind := .primitive 'B', accessFlags := 0x411 }
/-- [B -/
def k9 : Class := { plain "[B" (some 0) with kind := .array 8 .byte, interfaces := #[7, 4], accessFlags := 1041 }

/-- the primitive int -/
def k10 : Class := { plain "int" none with kind := .primitive 'I', accessFlags := 0x411 }
/-- [I -/
def k11 : Class := { plain "[I" (some 0) with kind := .array 10 .int, interfaces := #[7, 4], accessFlags := 1041 }

def heap : Heap := #[{ cls := 6, slots := #[.ref 1, .ref 2, .ref 3, .ref 7, .ref 8, .ref 9, .ref 5, .ref 6, .ref 4, .int 0, .int 0, .int 0, .int 0, .int 0, .null], vm := .statics 6 },
  { cls := 6, slots := #[.null, .int 0, .int 0, .null, .null, .null, .int 60928, .int 0], vm := .none },
  { cls := 6, slots := #[.null, .int 0, .int 0, .null, .null, .null, .int 238, .int 0], vm := .none },
  { cls := 6, slots := #[.null, .int 0, .int 0, .null, .null, .null, .int 0, .int 0], vm := .none },
  { cls := 6, slots := #[.null, .int 0, .int 0, .null, .null, .null, .int 51400, .int 0], vm := .none },
  { cls := 6, slots := #[.null, .int 0, .int 0, .null, .null, .null, .int 34952, .int 0], vm := .none },
  { cls := 6, slots := #[.null, .int 0, .int 0, .null, .null, .null, .int 52428, .int 0], vm := .none },
  { cls := 6, slots := #[.null, .int 0, .int 0, .null, .null, .null, .int 61166, .int 0], vm := .none },
  { cls := 6, slots := #[.null, .int 0, .int 0, .null, .null, .null, .int 52360, .int 0], vm := .none },
  { cls := 6, slots := #[.null, .int 0, .int 0, .null, .null, .null, .int 35020, .int 0], vm := .none }]
def classes : Array Class := #[k0, k1, k2, k3, k4, k5, k6, k7, k8, k9, k10, k11]
def interned : List (Array UInt16 × Addr) := []
def slotsUsed : Nat := 87
def theMethod : MethodId := ⟨1, 3⟩
def args0 : Array Value := #[.int 1, .int 2, .int 3]
def aboutOver (below : List Frame) : State where
  vm := { classes := classes, interned := interned.toArray }
  heap := heap
  slotsUsed := slotsUsed
  threads := #[{ frames := .invoking theMethod args0 :: below }]
def below0 : List Frame := [.native { method := ⟨0, 0⟩, args := #[] }]
def about1 : State := aboutOver below0
def p0 : Program := .bare "" "" ""
def e0 : Env := launch0.env 0 0 0
theorem w_frames : about1.frames = Frame.invoking theMethod args0 :: below0 := rfl
set_option maxRecDepth 65536 in
theorem w_args : argsFit about1.vm theMethod args0 = true := by decide +kernel
set_option maxRecDepth 65536 in
theorem w_heap : heapFits about1 = true := by decide +kernel
set_option maxRecDepth 65536 in
theorem w_runnable : about1.curStatus? = some .runnable := by decide +kernel
set_option maxRecDepth 65536 in
theorem w_alone : about1.alone = true := by decide +kernel
set_option maxRecDepth 65536 in
theorem w_named : about1.methodNamed? x = some theMethod := by decide +kernel
set_option maxRecDepth 65536 in
theorem w_hears : about1.hears theMethod below0 = true := by decide +kernel
set_option maxRecDepth 65536 in
theorem w_ripe : about1.ripe theMethod args0 below0 = true := by decide +kernel
theorem w_running : about1.status = .running := rfl
set_option maxRecDepth 65536 in
theorem w_room : about1.hasRoom e0.platform room_1 = true :=
  launch0.hasRoom_least _ room_1 (by decide +kernel) (by decide +kernel) (by decide +kernel) (by decide +kernel) (by decide +kernel) (by decide +kernel)
theorem allAtoms_all (ts : List Jvm.Cond) (a : Array Jvm.Value) (st : Jvm.State) : (allAtoms ts).before a st = ts.all (fun c => c.before a st) := by
  induction ts with
  | nil => rfl
  | cons c t ih =>
    show (Jvm.Cond.and c (allAtoms t)).before a st = _
    rw [Jvm.Cond.before_and, ih, List.all_cons]
def words1 : List Jvm.Cond := Jvm.Cond.code x code maxLocals ret :: tables_1
/-- a 'code' word, met by the world's own term for the bytes: nothing is compared byte by byte -/
theorem code_word {y : MethodName} {bytes : ByteArray} {mx : Nat} {rt : Option FieldType} {a : Array Value} {s : State} {m : MethodId} {meth : Method} {c : Code} (h1 : s.methodNamed? y = some m) (h2 : s.vm.method? m = some meth) (h3 : meth.code = some c) (h4 : c.code = bytes)
    (h5 : (c.maxLocals == mx && c.exceptionTable.isEmpty && decide (c.maxStack ≤ mostOperands) && decide (meth.sig.returnType = rt) && !meth.locks && decide (parseMethodDescriptor y.desc = some meth.sig)) = true) : (Jvm.Cond.code y bytes mx rt).before a s = true := by
  simp only [Bool.and_eq_true, beq_iff_eq, Bool.not_eq_true', decide_eq_true_eq] at h5
  obtain ⟨⟨⟨⟨⟨g1, g2⟩, g3⟩, g4⟩, g5⟩, g6⟩ := h5
  simp [Cond.before, Cond.holds, Cond.value, h1, h2, h3, h4, g1, g2, g3, g4, g5, g6]
def isCode : Jvm.Cond → Bool
  | .code _ _ _ _ => true
  | _ => false
theorem all_split {L : List Jvm.Cond} {P : Jvm.Cond → Bool} (h1 : L.all (fun c => isCode c || P c) = true) (h2 : ∀ c ∈ L.filter isCode, P c = true) : L.all P = true := by
  refine List.all_eq_true.mpr fun c hc => ?_
  have h := List.all_eq_true.mp h1 c hc
  rcases Bool.eq_false_or_eq_true (isCode c) with hi | hi
  · exact h2 c (List.mem_filter.mpr ⟨hc, hi⟩)
  · simpa [hi] using h
set_option maxRecDepth 65536 in
theorem w_c0 : (Jvm.Cond.code x code maxLocals ret).before args0 about1 = true := code_word (m := ⟨1, 3⟩) (meth := k1m3) (c := k1c3) (by decide +kernel) rfl rfl rfl (by decide +kernel)
set_option maxRecDepth 65536 in
theorem w_c1 : (Jvm.Cond.code ({ cls := "com/example/rounder/rounder/RoundingRuleRoundsAwayPinLaw", name := "rule", desc := "(I)Lcom/example/rounder/rounder/RoundingRule;" } : Jvm.MethodName) method_2_code (1 : Nat) (Option.some (Jvm.ClassFile.FieldType.object "com/example/rounder/rounder/RoundingRule"))).before args0 about1 = true := code_word (m := ⟨1, 1⟩) (meth := k1m1) (c := k1c1) (by decide +kernel) rfl rfl rfl (by decide +kernel)
set_option maxRecDepth 65536 in
theorem w_c2 : (Jvm.Cond.code ({ cls := "com/example/rounder/rounder/RoundingRuleRoundsAwayPinLaw", name := "expected", desc := "(IZIZ)Z" } : Jvm.MethodName) method_3_code (4 : Nat) (Option.some Jvm.ClassFile.FieldType.boolean)).before args0 about1 = true := code_word (m := ⟨1, 2⟩) (meth := k1m2) (c := k1c2) (by decide +kernel) rfl rfl rfl (by decide +kernel)
set_option maxRecDepth 65536 in
theorem w_c3 : (Jvm.Cond.code ({ cls := "com/example/rounder/rounder/RoundingRule", name := "roundsAway", desc := "(ZIZ)Z" } : Jvm.MethodName) prog_39_method_7_code (5 : Nat) (Option.some Jvm.ClassFile.FieldType.boolean)).before args0 about1 = true := code_word (m := ⟨6, 0⟩) (meth := k6m0) (c := k6c0) (by decide +kernel) rfl rfl rfl (by decide +kernel)
def codes1 : List Jvm.Cond := [Jvm.Cond.code x code maxLocals ret, Jvm.Cond.code ({ cls := "com/example/rounder/rounder/RoundingRuleRoundsAwayPinLaw", name := "rule", desc := "(I)Lcom/example/rounder/rounder/RoundingRule;" } : Jvm.MethodName) method_2_code (1 : Nat) (Option.some (Jvm.ClassFile.FieldType.object "com/example/rounder/rounder/RoundingRule")), Jvm.Cond.code ({ cls := "com/example/rounder/rounder/RoundingRuleRoundsAwayPinLaw", name := "expected", desc := "(IZIZ)Z" } : Jvm.MethodName) method_3_code (4 : Nat) (Option.some Jvm.ClassFile.FieldType.boolean), Jvm.Cond.code ({ cls := "com/example/rounder/rounder/RoundingRule", name := "roundsAway", desc := "(ZIZ)Z" } : Jvm.MethodName) prog_39_method_7_code (5 : Nat) (Option.some Jvm.ClassFile.FieldType.boolean)]
set_option maxRecDepth 65536 in
theorem codes_eq : words1.filter isCode = codes1 := rfl
theorem w_codes : ∀ c ∈ words1.filter isCode, c.before args0 about1 = true := by
  rw [codes_eq]
  intro c hc
  simp only [codes1, List.mem_cons, List.not_mem_nil, or_false] at hc
  rcases hc with rfl | rfl | rfl | rfl
  · exact w_c0
  · exact w_c1
  · exact w_c2
  · exact w_c3
set_option maxRecDepth 65536 in
theorem w_t1 : (words1.take 24).all (fun c => isCode c || c.before args0 about1) = true := by decide +kernel
set_option maxRecDepth 65536 in
theorem w_t2 : (words1.drop 24).all (fun c => isCode c || c.before args0 about1) = true := by decide +kernel
theorem w_tables : (allAtoms (Jvm.Cond.code x code maxLocals ret :: tables_1)).before args0 about1 = true := by
  rw [allAtoms_all]
  show words1.all (fun c => c.before args0 about1) = true
  refine all_split ?_ w_codes
  rw [← List.take_append_drop 24 words1, List.all_append, w_t1, w_t2]
  rfl
set_option maxRecDepth 65536 in
theorem w_case : (Jvm.Cond.and given_1 narrow_1).before args0 about1 = true := by decide +kernel
theorem w_applies : (headSpec (Jvm.Cond.code x code maxLocals ret :: tables_1) room_1).applies x e0.platform about1 = true :=
  (Spec.applies_iff w_frames).mpr ⟨w_running, w_runnable, w_alone, w_named, w_hears, w_ripe, w_room, w_tables⟩
theorem atStart : AtStart classFile x code maxLocals ret World_1 tables_1 room_1 Calls_1 rest_1 Pre_1 launch0 p0 e0 about1 theMethod args0 below0 :=
  ⟨lists_1, trivial, launch0.admits_env _ _ _, launch0.least_env, fairChoices_fair.cas, fairChoices_fair.clock, w_frames, w_args, w_heap, w_applies, trivial, trivial, w_case⟩
end start1
theorem witness_1 : WitnessClaimed_1 := ⟨start1.p0, start1.e0, start1.about1, start1.theMethod, start1.args0, start1.below0, start1.atStart⟩
end Jvm.Pilot.@@N@@
