import JvmDerived
import JvmDerived.Pilot.@@N@@Statement
import JvmDerived.Pilot.@@N@@Code
set_option linter.unusedVariables false
set_option linter.unusedSimpArgs false
@@BLOCK:HandJ.lean.txt@@
@@BLOCK:NumsL.lean.txt@@
@@BLOCK:SymMore.lean.txt@@
namespace Jvm.Pilot.@@N@@
open Jvm Jvm.ClassFile Sem Op Lib Jvm.Free Jvm.Stand Jvm.LawKit Jvm.RoadKit Bundle Jvm.Pilot.@@N@@.Jvm.D
/-! ## own_..: a layer of continuations over the library's laws: a walk that may branch -/
/-- from T with the frame g on top the run comes to an end of which P holds -/
def own_Fin (p : Program) (e : Env) (below : List Frame) (P : Outcome → State → Prop) (T : State) (g : JFrame) : Prop :=
  ∃ s₂ o, Steps p.tables e below (T.setTop g) s₂ ∧ s₂.status = .running ∧ Ended s₂ below o ∧ P o s₂
/-- what is known of the method that is walked -/
def own_Ctx (p : Program) (Z s : State) (m : MethodId) (meth : Method) (c : Code) (cls : String) (bytes : ByteArray) (maxL : Nat) (ret : Option FieldType) (nm : String) : Prop :=
  p.tables.exec = Jvm.exec ∧ Z.Warmed39 s.vm ∧ c.code = bytes ∧ c.maxLocals = maxL ∧ s.vm.findClass cls = some m.cls ∧ meth.sig.returnType = ret ∧ meth.locks = false ∧ meth.name = nm
/-- the walk's end: it returns v, Q says what it leaves -/
def own_P (s : State) (rm : Room) (Q : Option Value → Heap → List Loc → Prop) : Outcome → State → Prop :=
  fun o t => ∃ v L, o = .returned v ∧ Q v t.heap L ∧ FrameEnd s o t L rm.cells rm.slots
/-- a method's contract at one heap and one list of arguments -/
def own_Met (l : Launch) (Z : State) (y : MethodName) (bytes : ByteArray) (maxL : Nat) (ret : Option FieldType) (rm : Room) (as' : Array Value) (h : Heap) (Q : Option Value → Heap → List Loc → Prop) : Prop :=
  ∀ ws, MetFree l y (head1 (Jvm.Cond.code y bytes maxL ret :: ws) rm) (fun a U => a = as' ∧ Z.Warmed39 U.vm ∧ U.heap = h) (fun _ _ _ _ _ => True) (fun _ U o U' => ∃ v L, o = .returned v ∧ Q v U'.heap L ∧ FrameEnd U o U' L rm.cells rm.slots)
theorem own_enter {l : Launch} {Z : State} {y : MethodName} {bytes : ByteArray} {maxL : Nat} {ret : Option FieldType} {rm : Room} {as' : Array Value} {h : Heap} {Q : Option Value → Heap → List Loc → Prop} {Ls : Array Slot}
    (hpl : plainFor y = true) (hef : ∀ m, entryFrame m as' maxL = mkF m 0 Ls [])
    (body : ∀ (p : Program) (e : Env) (s : State) (m : MethodId) (below : List Frame) (meth : Method) (c : Code) (T : State), own_Ctx p Z s m meth c y.cls bytes maxL ret y.name → Stand p l e rm s m as' below meth c T [] 0 0 → T.heap = h → own_Fin p e below (own_P s rm Q) T (mkF m 0 Ls [])) :
    own_Met l Z y bytes maxL ret rm as' h Q := by
  intro ws
  refine MetFree.of_bodySF hpl hisR ?_
  intro p e s m args below meth c s₁ Bd hml0 hP hK
  obtain ⟨rfl, hZ, hh⟩ := hP
  have q := body p e s m below meth c s₁ ⟨Bd.exec, hZ, Bd.bytes, hml0, findClass_of_methodNamed Bd.named, Bd.returns, BodyLoose.notSynchronized Bd, (name_of_methodNamed Bd.named Bd.method).1⟩ (Stand.of_body Bd) (by rw [← hh, Bd.state]; rfl)
  rw [← hef m] at q
  exact q
/-- what a method leaves that writes nothing: the value, and the heap as it was -/
def own_QI (r : Int32) (h0 : Heap) (n0 : Nat) (v : Option Value) (h : Heap) (L : List Loc) : Prop := v = some (.int r) ∧ Fr n0 L ∧ h = h0
def own_QJ (r : Int64) (h0 : Heap) (n0 : Nat) (v : Option Value) (h : Heap) (L : List Loc) : Prop := v = some (.long r) ∧ Fr n0 L ∧ h = h0
def own_QR (r : Value) (h0 : Heap) (n0 : Nat) (v : Option Value) (h : Heap) (L : List Loc) : Prop := v = some r ∧ Fr n0 L ∧ h = h0
def own_QV (h0 : Heap) (n0 : Nat) (v : Option Value) (h : Heap) (L : List Loc) : Prop := v = none ∧ Fr n0 L ∧ h = h0
/-- what a law leaves: true -/
def own_Q1 (n0 : Nat) (v : Option Value) (h : Heap) (L : List Loc) : Prop := v = some (.int 1) ∧ Fr n0 L
theorem own_lrem_eq (x y : Int64) : x - (x / y) * y = x % y := Int64.toInt_inj.mp ((Jvm.Kit.i64_rem x y).trans (Int64.toInt_mod x y).symm)
theorem own_lrem {tb : Tables} [Ours tb] {e : Env} {below : List Frame} {T target : State} {m : MethodId} {c : Code} {g : JFrame} (h : At T m c below) (hx : tb.exec = Jvm.exec) (hg : g.method = m) {x y : Int64} {rest : List Value} (hd : decode c.code g.pc = .ok (.lrem, 1)) (hs : g.stack = .long y :: .long x :: rest) (hy : y ≠ 0)
    (hr : Steps tb e below (T.setTop { g with pc := g.pc + 1, stack := .long (x % y) :: rest }) target) : Steps tb e below (T.setTop g) target :=
  XS.lrem h hx hg hd hs hy (by rw [own_lrem_eq]; exact hr)
section Own
variable {p : Program} {l : Launch} {e : Env} {R : Room} {s : State} {m : MethodId} {args : Array Value} {below : List Frame} {meth : Method} {c : Code} {T : State} {locs : List Loc} {cells slots : Nat} {Z : State} {a0 : Array Value} {h : Heap}
  {P : Outcome → State → Prop} {cls : String} {bytes : ByteArray} {maxL : Nat} {ret : Option FieldType} {nm : String} {Q : Option Value → Heap → List Loc → Prop}
theorem own_seg {T' : State} {g g' : JFrame} (st : ∀ t, Steps p.tables e below (T'.setTop g') t → Steps p.tables e below (T.setTop g) t) (k : own_Fin p e below P T' g') : own_Fin p e below P T g := by
  obtain ⟨s₂, o, h1, h2⟩ := k
  exact ⟨s₂, o, st _ h1, h2⟩
theorem own_mono (X : Stand p l e R s m args below meth c T locs cells slots) {cells' slots' : Nat} (h1 : cells ≤ cells') (h2 : slots ≤ slots') : Stand p l e R s m args below meth c T locs cells' slots' :=
  ⟨X.admits, X.cas, X.clock, X.frames, X.room, X.hears, X.method, X.code, X.here, X.tail, X.warmed, X.limits, X.bytes, X.same.mono h1 h2⟩
/-- the end of a walk -/
theorem own_out (K : own_Ctx p Z s m meth c cls bytes maxL ret nm) (X : Stand p l e R s m args below meth c T locs cells slots) {v : Option Value} (hv : ret = none → v = none) {g : JFrame}
    (st : ∀ fs, (∀ (f : JFrame) (acts : List Action), f.method = m → f.locked = none → f.entered = [] → (doReturn e (T.setTop f) acts v).1 = T.setFrames fs) → Steps p.tables e below (T.setTop g) (T.setFrames fs))
    (hQ : Q v T.heap locs) (hc : cells ≤ R.cells) (hs : slots ≤ R.slots) : own_Fin p e below (own_P s R Q) T g := by
  obtain ⟨hx, hZ, hby, hml, hown, hret, hlk, hnm⟩ := K
  obtain ⟨fs, hr, hrun, hended, hW, hsame⟩ := X.leave (v := v) (fun q => hv (hret ▸ q)) hlk
  exact ⟨_, _, st fs hr, hrun, hended, _, _, rfl, hQ, ⟨_, rfl⟩, hW, hsame.mono hc hs⟩
theorem own_retV (K : own_Ctx p Z s m meth c cls bytes maxL none nm) (X : Stand p l e R s m args below meth c T locs cells slots) {pc : Nat} {Ls : Array Slot} (hd : decode bytes pc = .ok (.return_, 1))
    (hQ : Q none T.heap locs) (hc : cells ≤ R.cells) (hs : slots ≤ R.slots) : own_Fin p e below (own_P s R Q) T (mkF m pc Ls []) :=
  own_out K X (fun _ => rfl) (fun fs hr => X.returnOut K.1 K.2.2.2.2.2.1 (hb K.2.2.1 hd) hr) hQ hc hs
theorem own_retO {t : FieldType} (K : own_Ctx p Z s m meth c cls bytes maxL (some t) nm) (X : Stand p l e R s m args below meth c T locs cells slots) {pc : Nat} {Ls : Array Slot} {w : Value} {i : Instr} {rest : List Value} (hn : narrow t w = w)
    (hi : (i = .ireturn ∧ (t = .int ∨ t = .boolean ∨ t = .byte ∨ t = .char ∨ t = .short) ∧ ∃ z, w = .int z) ∨ (i = .lreturn ∧ t = .long ∧ ∃ z, w = .long z) ∨ (i = .dreturn ∧ t = .double ∧ ∃ z, w = .double z) ∨ (i = .freturn ∧ t = .float ∧ ∃ z, w = .float z) ∨ (i = .areturn ∧ t.isReference = true ∧ w.isRef = true))
    (hd : decode bytes pc = .ok (i, 1)) (hQ : Q (some w) T.heap locs) (hc : cells ≤ R.cells) (hs : slots ≤ R.slots) : own_Fin p e below (own_P s R Q) T (mkF m pc Ls (w :: rest)) :=
  own_out K X (fun q => nomatch q) (fun fs hr => retOut X K.1 K.2.2.2.2.2.1 hn hi (hb K.2.2.1 hd) hr) hQ hc hs
theorem own_retI (K : own_Ctx p Z s m meth c cls bytes maxL (some .int) nm) (X : Stand p l e R s m args below meth c T locs cells slots) {pc : Nat} {Ls : Array Slot} {z : Int32} {rest : List Value}
    (hd : decode bytes pc = .ok (.ireturn, 1)) (hQ : Q (some (.int z)) T.heap locs) (hc : cells ≤ R.cells) (hs : slots ≤ R.slots) : own_Fin p e below (own_P s R Q) T (mkF m pc Ls (.int z :: rest)) :=
  own_retO K X rfl (Or.inl ⟨rfl, Or.inl rfl, z, rfl⟩) hd hQ hc hs
theorem own_retJ (K : own_Ctx p Z s m meth c cls bytes maxL (some .long) nm) (X : Stand p l e R s m args below meth c T locs cells slots) {pc : Nat} {Ls : Array Slot} {z : Int64} {rest : List Value}
    (hd : decode bytes pc = .ok (.lreturn, 1)) (hQ : Q (some (.long z)) T.heap locs) (hc : cells ≤ R.cells) (hs : slots ≤ R.slots) : own_Fin p e below (own_P s R Q) T (mkF m pc Ls (.long z :: rest)) :=
  own_retO K X rfl (Or.inr (Or.inl ⟨rfl, rfl, z, rfl⟩)) hd hQ hc hs
theorem own_retA {t : FieldType} (K : own_Ctx p Z s m meth c cls bytes maxL (some t) nm) (ht : t.isReference = true) (X : Stand p l e R s m args below meth c T locs cells slots) {pc : Nat} {Ls : Array Slot} {w : Value} {rest : List Value} (hw : w.isRef = true)
    (hd : decode bytes pc = .ok (.areturn, 1)) (hQ : Q (some w) T.heap locs) (hc : cells ≤ R.cells) (hs : slots ≤ R.slots) : own_Fin p e below (own_P s R Q) T (mkF m pc Ls (w :: rest)) :=
  own_retO K X (by cases t <;> first | rfl | (cases ht; done) | (rcases ref_cases hw with rfl | ⟨a, rfl⟩ <;> rfl)) (Or.inr (Or.inr (Or.inr (Or.inr ⟨rfl, ht, hw⟩)))) hd hQ hc hs
theorem own_retN {t : FieldType} (K : own_Ctx p Z s m meth c cls bytes maxL (some t) nm) (ht : t = .boolean ∨ t = .byte ∨ t = .char ∨ t = .short) (X : Stand p l e R s m args below meth c T locs cells slots) {pc : Nat} {Ls : Array Slot} {z : Int32} {rest : List Value}
    (hd : decode bytes pc = .ok (.ireturn, 1)) (hQ : Q (some (.int (nar t z))) T.heap locs) (hc : cells ≤ R.cells) (hs : slots ≤ R.slots) : own_Fin p e below (own_P s R Q) T (mkF m pc Ls (.int z :: rest)) :=
  own_out K X (fun q => nomatch q) (fun fs hr => retN X K.1 K.2.2.2.2.2.1 ht (hb K.2.2.1 hd) hr) hQ hc hs
/-! calls -/
theorem own_callS (K : own_Ctx p Z s m meth c cls bytes maxL ret nm) (X : Stand p l e R s m args below meth c T locs cells slots) (eT : T.heap = h) {y : MethodName} {yb : ByteArray} {yl : Nat} {yr : Option FieldType} {rm : Room} {as' : Array Value} {Q' : Option Value → Heap → List Loc → Prop}
    (M : own_Met l Z y yb yl yr rm as' h Q') {index : Nat} (w1 : (Jvm.Cond.methodLink cls index y).before a0 Z = true) (w2 : (Jvm.Cond.static y).before a0 Z = true) (w3 : (Jvm.Cond.initialized y.cls).before a0 Z = true) (w4 : (Jvm.Cond.code y yb yl yr).before a0 Z = true)
    (hy : y.cls ≠ "java/lang/invoke/MethodHandle" ∧ y.cls ≠ "java/lang/invoke/VarHandle") (argsL rest : List Value) {ps : List FieldType} {r : Option FieldType} (hpd : parseMethodDescriptor y.desc = some ⟨ps, r⟩) (hlen : argsL.length = ps.length) {pc : Nat} {Ls : Array Slot} {stk : List Value}
    (hstk : stk = argsL.reverse ++ rest) (has : argsL.toArray = as') (hsize : Ls.size = maxL) (hd : decode bytes pc = .ok (.invokestatic index, 3)) (hf : rm.frames + 1 ≤ R.frames) (hl : (rest.map fun v => v.category).sum + (yl + 11) + rm.locals ≤ R.locals) (hc : cells + rm.cells ≤ R.cells) (hs : slots + rm.slots ≤ R.slots)
    (k : ∀ (T' : State) (L : List Loc) (v : Option Value), Stand p l e R s m args below meth c T' (locs ++ L) (cells + rm.cells) (slots + rm.slots) → Q' v T'.heap L → own_Fin p e below P T' (mkF m (pc + 3) Ls (v.toList ++ rest))) :
    own_Fin p e below P T (mkF m pc Ls stk) := by
  obtain ⟨hx, hZ, hby, hml, hown, hret, hlk, hnm⟩ := K
  obtain ⟨v, _, ⟨T', L', k', n'⟩, -, X', ⟨L, hQ, l1, l2, l3⟩, st⟩ := Jvm.LawKit.callS X hx (y := y) hown (mvT hZ w1) (mvT hZ w2) (mvT hZ w3) (mvT hZ w4) hy (backOf (W := (rest.map fun v => v.category).sum) (M []) hZ w4 w3 hf hl) (g := mkF m pc Ls stk) rfl (hsize.trans hml.symm) (argsL := argsL) (rest := rest) (lenOf hpd hlen) hstk (by show 2 * 0 + _ ≤ _; omega) (hb hby hd) (fun _ _ => ⟨has, eT, hc, hs⟩)
  dsimp only [Pt.U, Pt.locs, Pt.cells, Pt.slots] at X' l1 l2 l3 st hQ
  subst l1 l2 l3
  exact own_seg st (k T' L v X' hQ)
theorem own_callI (K : own_Ctx p Z s m meth c cls bytes maxL ret nm) (X : Stand p l e R s m args below meth c T locs cells slots) (eT : T.heap = h) {y : MethodName} {yb : ByteArray} {yl : Nat} {rm : Room} {as' : Array Value} {Q' : Option Value → Heap → List Loc → Prop}
    (M : own_Met l Z y yb yl none rm as' h Q') (hy1 : y.name = "<init>") {index : Nat} (w1 : (Jvm.Cond.methodLink cls index y).before a0 Z = true) (w2 : (Jvm.Cond.instanceMethod y).before a0 Z = true) (w3 : (Jvm.Cond.initialized y.cls).before a0 Z = true) (w4 : (Jvm.Cond.code y yb yl none).before a0 Z = true)
    (hy : y.cls ≠ "java/lang/invoke/MethodHandle" ∧ y.cls ≠ "java/lang/invoke/VarHandle") (a : Addr) (argsL rest : List Value) {ps : List FieldType} {r : Option FieldType} (hpd : parseMethodDescriptor y.desc = some ⟨ps, r⟩) (hlen : argsL.length = ps.length) {pc : Nat} {Ls : Array Slot} {stk : List Value}
    (hstk : stk = argsL.reverse ++ .ref a :: rest) (has : (.ref a :: argsL).toArray = as') (hsize : Ls.size = maxL) (hd : decode bytes pc = .ok (.invokespecial index, 3)) (hf : rm.frames + 1 ≤ R.frames) (hl : (rest.map fun v => v.category).sum + (yl + 11) + rm.locals ≤ R.locals) (hc : cells + rm.cells ≤ R.cells) (hs : slots + rm.slots ≤ R.slots)
    (k : ∀ (T' : State) (L : List Loc) (v : Option Value), Stand p l e R s m args below meth c T' (locs ++ L) (cells + rm.cells) (slots + rm.slots) → Q' v T'.heap L → own_Fin p e below P T' (mkF m (pc + 3) Ls (v.toList ++ rest))) :
    own_Fin p e below P T (mkF m pc Ls stk) := by
  obtain ⟨hx, hZ, hby, hml, hown, hret, hlk, hnm⟩ := K
  obtain ⟨v, _, ⟨T', L', k', n'⟩, -, X', ⟨L, hQ, l1, l2, l3⟩, st⟩ := X.specialBack hx (y := y) hy1 hown (mvT hZ w1) (mvT hZ w2) (mvT hZ w4) hy (backOf (W := (rest.map fun v => v.category).sum) (M []) hZ w4 w3 hf hl) (g := mkF m pc Ls stk) rfl (hsize.trans hml.symm) (Steps.refl _) (a := a) (argsL := argsL) (rest := rest) (lenOf hpd hlen) hstk (by show 2 * 0 + _ ≤ _; omega) (hb hby hd) (fun _ _ => ⟨has, eT, hc, hs⟩)
  dsimp only [Pt.U, Pt.locs, Pt.cells, Pt.slots] at X' l1 l2 l3 st hQ
  subst l1 l2 l3
  exact own_seg (fun t q => st.trans q) (k T' L v X' hQ)
theorem own_callV (K : own_Ctx p Z s m meth c cls bytes maxL ret nm) (X : Stand p l e R s m args below meth c T locs cells slots) (eT : T.heap = h) {y z : MethodName} {yb : ByteArray} {yl : Nat} {yr : Option FieldType} {rm : Room} {as' : Array Value} {Q' : Option Value → Heap → List Loc → Prop}
    (M : own_Met l Z z yb yl yr rm as' h Q') {index : Nat} {C : String} (w1 : (Jvm.Cond.methodLink cls index y).before a0 Z = true) (w2 : (Jvm.Cond.declares y).before a0 Z = true) (nf : ∀ args, (Jvm.Cond.selects C y z).before args s = true → NotFace s y) (w5 : (Jvm.Cond.selects C y z).before a0 Z = true) (w6 : (Jvm.Cond.instanceMethod z).before a0 Z = true) (w3 : (Jvm.Cond.initialized z.cls).before a0 Z = true) (w4 : (Jvm.Cond.code z yb yl yr).before a0 Z = true)
    (hy : y.cls ≠ "java/lang/invoke/MethodHandle" ∧ y.cls ≠ "java/lang/invoke/VarHandle") (a : Addr) (E : Exa Z h a C) (argsL rest : List Value) {ps : List FieldType} {r : Option FieldType} (hpd : parseMethodDescriptor y.desc = some ⟨ps, r⟩) (hlen : argsL.length = ps.length) {pc : Nat} {Ls : Array Slot} {stk : List Value}
    (hstk : stk = argsL.reverse ++ .ref a :: rest) (has : (.ref a :: argsL).toArray = as') (hsize : Ls.size = maxL) (hd : decode bytes pc = .ok (.invokevirtual index, 3)) (hf : rm.frames + 1 ≤ R.frames) (hl : (rest.map fun v => v.category).sum + (yl + 11) + rm.locals ≤ R.locals) (hc : cells + rm.cells ≤ R.cells) (hs : slots + rm.slots ≤ R.slots)
    (k : ∀ (T' : State) (L : List Loc) (v : Option Value), Stand p l e R s m args below meth c T' (locs ++ L) (cells + rm.cells) (slots + rm.slots) → Q' v T'.heap L → own_Fin p e below P T' (mkF m (pc + 3) Ls (v.toList ++ rest))) :
    own_Fin p e below P T (mkF m pc Ls stk) := by
  obtain ⟨hx, hZ, hby, hml, hown, hret, hlk, hnm⟩ := K
  obtain ⟨cq, kq, qa, qb, qc⟩ := isOf hZ eT E
  obtain ⟨v, _, ⟨T', L', k', n'⟩, -, X', ⟨L, hQ, l1, l2, l3⟩, st⟩ := X.virtualBack hx (y := y) (z := z) hown (mvT hZ w1) (mvT hZ w2) (nf #[] (mvT hZ w5)) (mvT hZ w5) (mvT hZ w6) hy (backOf (W := (rest.map fun v => v.category).sum) (M []) hZ w4 w3 hf hl) qa qc (g := mkF m pc Ls stk) rfl (hsize.trans hml.symm) (Steps.refl _) (argsL := argsL) (rest := rest) (lenOf hpd hlen) hstk (by show 2 * 0 + _ ≤ _; omega) (hb hby hd) (fun _ _ => ⟨has, eT, hc, hs⟩)
  dsimp only [Pt.U, Pt.locs, Pt.cells, Pt.slots] at X' l1 l2 l3 st hQ
  subst l1 l2 l3
  exact own_seg (fun t q => st.trans q) (k T' L v X' hQ)
theorem own_callP (K : own_Ctx p Z s m meth c cls bytes maxL ret nm) (X : Stand p l e R s m args below meth c T locs cells slots) (eT : T.heap = h) {y : MethodName} {yb : ByteArray} {yl : Nat} {yr : Option FieldType} {rm : Room} {as' : Array Value} {Q' : Option Value → Heap → List Loc → Prop}
    (M : own_Met l Z y yb yl yr rm as' h Q') {index kk : Nat} (w1 : (Jvm.Cond.methodLink cls index y).before a0 Z = true) (w2 : (Jvm.Cond.instanceMethod y).before a0 Z = true) (w7 : (Jvm.Cond.instantiable y.cls kk).before a0 Z = true) (w6 : (Jvm.Cond.privateMethod y).before a0 Z = true) (w3 : (Jvm.Cond.initialized y.cls).before a0 Z = true) (w4 : (Jvm.Cond.code y yb yl yr).before a0 Z = true)
    (hy : y.cls ≠ "java/lang/invoke/MethodHandle" ∧ y.cls ≠ "java/lang/invoke/VarHandle") (a : Addr) (E : Exa Z h a y.cls) (argsL rest : List Value) {ps : List FieldType} {r : Option FieldType} (hpd : parseMethodDescriptor y.desc = some ⟨ps, r⟩) (hlen : argsL.length = ps.length) {pc : Nat} {Ls : Array Slot} {stk : List Value}
    (hstk : stk = argsL.reverse ++ .ref a :: rest) (has : (.ref a :: argsL).toArray = as') (hsize : Ls.size = maxL) (hd : decode bytes pc = .ok (.invokevirtual index, 3)) (hf : rm.frames + 1 ≤ R.frames) (hl : (rest.map fun v => v.category).sum + (yl + 11) + rm.locals ≤ R.locals) (hc : cells + rm.cells ≤ R.cells) (hs : slots + rm.slots ≤ R.slots)
    (k : ∀ (T' : State) (L : List Loc) (v : Option Value), Stand p l e R s m args below meth c T' (locs ++ L) (cells + rm.cells) (slots + rm.slots) → Q' v T'.heap L → own_Fin p e below P T' (mkF m (pc + 3) Ls (v.toList ++ rest))) :
    own_Fin p e below P T (mkF m pc Ls stk) := by
  obtain ⟨hx, hZ, hby, hml, hown, hret, hlk, hnm⟩ := K
  obtain ⟨cq, q1, q2⟩ := E.cell
  obtain ⟨v, _, ⟨T', L', k', n'⟩, -, X', ⟨L, hQ, l1, l2, l3⟩, st⟩ := X.privateBack hx (y := y) hown (mvT hZ w1) (mvT hZ w2) (Jvm.Kit.selects_private hy (mvT hZ w7) (mvP hZ w6) (mvT hZ w2)) (Cond.privateMethod_at (mvP hZ w6 (args := #[]))) (mvT hZ w4) hy (backOf (W := (rest.map fun v => v.category).sum) (M []) hZ w4 w3 hf hl) (g := mkF m pc Ls stk) rfl (hsize.trans hml.symm) (Steps.refl _) (a := a) (by rw [eT]; exact q1) q2 (argsL := argsL) (rest := rest) (lenOf hpd hlen) hstk (by show 2 * 0 + _ ≤ _; omega) (hb hby hd) (fun _ _ => ⟨has, eT, hc, hs⟩)
  dsimp only [Pt.U, Pt.locs, Pt.cells, Pt.slots] at X' l1 l2 l3 st hQ
  subst l1 l2 l3
  exact own_seg (fun t q => st.trans q) (k T' L v X' hQ)
theorem own_callF (K : own_Ctx p Z s m meth c cls bytes maxL ret nm) (X : Stand p l e R s m args below meth c T locs cells slots) (eT : T.heap = h) {xi y : MethodName} {yb : ByteArray} {yl : Nat} {yr : Option FieldType} {rm : Room} {as' : Array Value} {Q' : Option Value → Heap → List Loc → Prop}
    (M : own_Met l Z y yb yl yr rm as' h Q') {index count : Nat} {C : String} (w1 : (Jvm.Cond.methodLink cls index xi).before a0 Z = true) (w2 : (Jvm.Cond.declares xi).before a0 Z = true) (w8 : (Jvm.Cond.interfaceMethod xi.cls xi.cls xi.name xi.desc).before a0 Z = true) (w8f : ((Jvm.Cond.interfaceMethod xi.cls xi.cls xi.name xi.desc).onTables && (Jvm.Cond.interfaceMethod xi.cls xi.cls xi.name xi.desc).keepsFace) = true) (w5 : (Jvm.Cond.selects C xi y).before a0 Z = true) (w6 : (Jvm.Cond.instanceMethod y).before a0 Z = true) (w9 : (Jvm.Cond.publicMethod y).before a0 Z = true) (w10 : (Jvm.Cond.unhidden C xi.name xi.desc).before a0 Z = true) (w11 : (Jvm.Cond.castable C xi.cls).before a0 Z = true) (w3 : (Jvm.Cond.initialized y.cls).before a0 Z = true) (w4 : (Jvm.Cond.code y yb yl yr).before a0 Z = true)
    (hy : xi.cls ≠ "java/lang/invoke/MethodHandle" ∧ xi.cls ≠ "java/lang/invoke/VarHandle") (a : Addr) (E : Exa Z h a C) (argsL rest : List Value) {ps : List FieldType} {r : Option FieldType} (hpd : parseMethodDescriptor xi.desc = some ⟨ps, r⟩) (hlen : argsL.length = ps.length) {pc : Nat} {Ls : Array Slot} {stk : List Value}
    (hstk : stk = argsL.reverse ++ .ref a :: rest) (has : (.ref a :: argsL).toArray = as') (hsize : Ls.size = maxL) (hd : decode bytes pc = .ok (.invokeinterface index count, 5)) (hf : rm.frames + 1 ≤ R.frames) (hl : (rest.map fun v => v.category).sum + (yl + 11) + rm.locals ≤ R.locals) (hc : cells + rm.cells ≤ R.cells) (hs : slots + rm.slots ≤ R.slots)
    (k : ∀ (T' : State) (L : List Loc) (v : Option Value), Stand p l e R s m args below meth c T' (locs ++ L) (cells + rm.cells) (slots + rm.slots) → Q' v T'.heap L → own_Fin p e below P T' (mkF m (pc + 5) Ls (v.toList ++ rest))) :
    own_Fin p e below P T (mkF m pc Ls stk) := by
  obtain ⟨hx, hZ, hby, hml, hown, hret, hlk, hnm⟩ := K
  obtain ⟨cq, kq, qa, qb, qc⟩ := isOf hZ eT E
  obtain ⟨v, _, ⟨T', L', k', n'⟩, -, X', ⟨L, hQ, l1, l2, l3⟩, st⟩ := X.interfaceBack hx (xi := xi) (y := y) hown (mvT hZ w1) (mvT hZ w2) (mvT hZ w8 w8f) (mvT hZ w5) (mvT hZ w6) (mvT hZ w9) (mvT hZ w10) (mvT hZ w11) hy (backOf (W := (rest.map fun v => v.category).sum) (M []) hZ w4 w3 hf hl) qa qb qc (g := mkF m pc Ls stk) rfl (hsize.trans hml.symm) (Steps.refl _) (argsL := argsL) (rest := rest) (lenOf hpd hlen) hstk (by show 2 * 0 + _ ≤ _; omega) (hb hby hd) (fun _ _ => ⟨has, eT, hc, hs⟩)
  dsimp only [Pt.U, Pt.locs, Pt.cells, Pt.slots] at X' l1 l2 l3 st hQ
  subst l1 l2 l3
  exact own_seg (fun t q => st.trans q) (k T' L v X' hQ)
/-! fields, objects -/
theorem own_getF (K : own_Ctx p Z s m meth c cls bytes maxL ret nm) (X : Stand p l e R s m args below meth c T locs cells slots) (eT : T.heap = h) {index : Nat} {R0 O n d host : String} {a : Addr} {v : Value} (w : (Jvm.Cond.fieldLink cls index R0 n d).before a0 Z = true ∨ (Jvm.Cond.fieldLinkNest cls index R0 n d host).before a0 Z = true) (via : Via Z R0 O n d) (F : Fld Z h a O n d v)
    {pc : Nat} {Ls : Array Slot} {rest : List Value} (hd : decode bytes pc = .ok (.getfield index, 3)) (k : ∀ T', Stand p l e R s m args below meth c T' locs cells slots → T'.heap = h → own_Fin p e below P T' (mkF m (pc + 3) Ls (v :: rest))) : own_Fin p e below P T (mkF m pc Ls (.ref a :: rest)) := by
  obtain ⟨hx, hZ, hby, hml, hown, hret, hlk, hnm⟩ := K
  obtain ⟨T', X', e', st⟩ := getF X hx hZ hown w via eT F (g := mkF m pc Ls (.ref a :: rest)) rfl rfl (hb hby hd)
  exact own_seg st (k T' X' e')
theorem own_putF (K : own_Ctx p Z s m meth c cls bytes maxL ret nm) (X : Stand p l e R s m args below meth c T locs cells slots) (eT : T.heap = h) {index kk : Nat} {R0 O n d host C : String} {a : Addr} {v old : Value} {ty : FieldType} (w : (Jvm.Cond.fieldLink cls index R0 n d).before a0 Z = true ∨ (Jvm.Cond.fieldLinkNest cls index R0 n d host).before a0 Z = true) (via : Via Z R0 O n d) (F : Fld Z h a O n d old) (E : Exa Z h a C)
    (L : (Jvm.Cond.lays C O n d).before a0 Z = true ∨ ((Jvm.Cond.laysFinal C O n d).before a0 Z = true ∧ cls = O ∧ nm = "<init>")) (wi : (Jvm.Cond.instantiable C kk).before a0 Z = true) (hty : parseFieldDescriptor d = some ty) (hn : narrow ty v = v) (hf : fits ty v = true)
    {pc : Nat} {Ls : Array Slot} {rest : List Value} (hd : decode bytes pc = .ok (.putfield index, 3)) (k : ∀ T' h', Stand p l e R s m args below meth c T' (locs ++ [⟨a, Jvm.RoadKit.slotOf Z O n d⟩]) cells slots → T'.heap = h' → Wr h h' a (Jvm.RoadKit.slotOf Z O n d) v → own_Fin p e below P T' (mkF m (pc + 3) Ls rest)) : own_Fin p e below P T (mkF m pc Ls (v :: .ref a :: rest)) := by
  obtain ⟨hx, hZ, hby, hml, hown, hret, hlk, hnm⟩ := K
  obtain ⟨T', h', X', e', W, st⟩ := putF X hx hZ hown w via eT F E (L.imp id fun q => ⟨q.1, q.2.1, hnm.trans q.2.2⟩) wi hty hn hf (g := mkF m pc Ls (v :: .ref a :: rest)) rfl rfl (hb hby hd)
  exact own_seg st (k T' h' X' e' W)
theorem own_newO (K : own_Ctx p Z s m meth c cls bytes maxL ret nm) (X : Stand p l e R s m args below meth c T locs cells slots) (eT : T.heap = h) {C : String} {index n : Nat} (w : (Jvm.Cond.classLink cls index C).before a0 Z = true) (wi : (Jvm.Cond.instantiable C n).before a0 Z = true) (wz : (Jvm.Cond.initialized C).before a0 Z = true)
    {pc : Nat} {Ls : Array Slot} {stk : List Value} (hd : decode bytes pc = .ok (.new index, 3)) (hc : cells + 1 ≤ R.cells) (hl : slots + n ≤ R.slots)
    (k : ∀ T' h' a, a = h.size → Stand p l e R s m args below meth c T' locs (cells + 1) (slots + n) → T'.heap = h' → Ext h h' → Exa Z h' a C → (∀ {O nm d : String} {ty : FieldType}, Laid Z a0 C O nm d → parseFieldDescriptor d = some ty → Fld Z h' a O nm d (defaultValue ty)) → own_Fin p e below P T' (mkF m (pc + 3) Ls (.ref a :: stk))) : own_Fin p e below P T (mkF m pc Ls stk) := by
  obtain ⟨hx, hZ, hby, hml, hown, hret, hlk, hnm⟩ := K
  obtain ⟨T', h', X', e', E, A, D, -, st⟩ := newO X hx hZ hown w wi wz eT (g := mkF m pc Ls stk) rfl (hb hby hd) hc hl
  exact own_seg st (k T' h' _ rfl X' e' E A D)
theorem own_initO (K : own_Ctx p Z s m meth c cls bytes maxL ret nm) (X : Stand p l e R s m args below meth c T locs cells slots) (eT : T.heap = h) {index : Nat} (w1 : (Jvm.Cond.methodLink cls index Lib.objectInit).before a0 Z = true) (w2 : (Jvm.Cond.instanceMethod Lib.objectInit).before a0 Z = true) (w3 : (Jvm.Cond.code Lib.objectInit ⟨#[0xb1]⟩ 1 none).before a0 Z = true)
    {pc : Nat} {Ls : Array Slot} {a : Addr} {rest : List Value} (hsize : Ls.size = maxL) (hd : decode bytes pc = .ok (.invokespecial index, 3)) (hf : 1 ≤ R.frames) (hl : (rest.map fun v => v.category).sum + 12 ≤ R.locals)
    (k : ∀ T', Stand p l e R s m args below meth c T' locs cells slots → T'.heap = h → own_Fin p e below P T' (mkF m (pc + 3) Ls rest)) : own_Fin p e below P T (mkF m pc Ls (.ref a :: rest)) := by
  obtain ⟨hx, hZ, hby, hml, hown, hret, hlk, hnm⟩ := K
  obtain ⟨T', X', e', st⟩ := initO X hx hZ hown w1 w2 w3 eT (g := mkF m pc Ls (.ref a :: rest)) rfl (hsize.trans hml.symm) rfl (hb hby hd) hf (W := (rest.map fun v => v.category).sum) (by show 2 * 0 + _ ≤ _; omega) hl
  exact own_seg st (k T' X' e')
theorem own_getS (K : own_Ctx p Z s m meth c cls bytes maxL ret nm) (X : Stand p l e R s m args below meth c T locs cells slots) (eT : T.heap = h) {index : Nat} {R0 O n d host : String} {v : Value} (w : (Jvm.Cond.fieldLink cls index R0 n d).before a0 Z = true ∨ (Jvm.Cond.fieldLinkNest cls index R0 n d host).before a0 Z = true) (via : Via Z R0 O n d) (F : Sta Z h O n d v)
    {pc : Nat} {Ls : Array Slot} {stk : List Value} (hd : decode bytes pc = .ok (.getstatic index, 3)) (k : ∀ T', Stand p l e R s m args below meth c T' locs cells slots → T'.heap = h → own_Fin p e below P T' (mkF m (pc + 3) Ls (v :: stk))) : own_Fin p e below P T (mkF m pc Ls stk) := by
  obtain ⟨hx, hZ, hby, hml, hown, hret, hlk, hnm⟩ := K
  obtain ⟨T', X', e', st⟩ := getS2 X hx hZ hown w via eT F (g := mkF m pc Ls stk) rfl (hb hby hd)
  exact own_seg st (k T' X' e')
end Own
/-! ## what an object's fields hold, all at once -/
def own_Obj (Z : State) (h : Heap) (a : Addr) (C : String) (fs : List (String × String × String × Value)) : Prop := Exa Z h a C ∧ ∀ q ∈ fs, Fld Z h a q.1 q.2.1 q.2.2.1 q.2.2.2
def own_Lay (Z : State) (a0 : Array Value) (C : String) (fs : List (String × String × String)) : Prop := ∀ q ∈ fs, Laid Z a0 C q.1 q.2.1 q.2.2 ∧ ∃ t, parseFieldDescriptor q.2.2 = some t
section Obj
variable {Z : State} {a0 : Array Value} {h h' : Heap} {a b : Addr} {C : String} {fs : List (String × String × String × Value)} {ws : List Addr} {sl : Nat} {v : Value}
theorem own_Obj.exa (O : own_Obj Z h a C fs) : Exa Z h a C := O.1
theorem own_Obj.lt (O : own_Obj Z h a C fs) : a < h.size := O.1.lt
theorem own_Obj.get (O : own_Obj Z h a C fs) (i : Nat) {q : String × String × String × Value} (hi : fs[i]? = some q) : Fld Z h a q.1 q.2.1 q.2.2.1 q.2.2.2 := O.2 q (List.mem_of_getElem? hi)
theorem own_Obj.ext (O : own_Obj Z h a C fs) (E : Ext h h') : own_Obj Z h' a C fs := ⟨O.1.ext E, fun q hq => (O.2 q hq).ext E⟩
theorem own_Obj.keep (O : own_Obj Z h a C fs) (K : Keep h h' ws) (n : a ∉ ws) : own_Obj Z h' a C fs := ⟨O.1.keep K, fun q hq => (O.2 q hq).keep K n⟩
theorem own_Obj.other (O : own_Obj Z h b C fs) (W : Wr h h' a sl v) (n : b ≠ a) : own_Obj Z h' b C fs := ⟨O.1.wr W, fun q hq => (O.2 q hq).other W (Or.inl n)⟩
theorem own_Obj.put (O : own_Obj Z h a C fs) {ls : List (String × String × String)} (Y : own_Lay Z a0 C ls) (hls : fs.map (fun q => (q.1, q.2.1, q.2.2.1)) = ls) (hnd : (ls.map (fun q => q.2.1)).Nodup) (i : Nat) {O' n d : String} {old : Value} (hi : fs[i]? = some (O', n, d, old)) (W : Wr h h' a (Jvm.RoadKit.slotOf Z O' n d) v) : own_Obj Z h' a C (fs.set i (O', n, d, v)) := by
  subst hls
  refine ⟨O.1.wr W, fun q hq => ?_⟩
  obtain ⟨j, hj⟩ := List.mem_iff_getElem?.mp hq
  by_cases e : i = j
  · subst e
    have hlt : i < fs.length := (List.getElem?_eq_some_iff.mp hi).1
    rw [List.getElem?_set_self hlt] at hj
    cases hj
    exact (O.get i hi).same W
  · rw [List.getElem?_set_ne e] at hj
    refine (O.get j hj).other W (Or.inr ?_)
    obtain ⟨L1, t1, p1⟩ := Y (q.1, q.2.1, q.2.2.1) (List.mem_map.mpr ⟨q, List.mem_of_getElem? hj, rfl⟩)
    obtain ⟨L2, t2, p2⟩ := Y (O', n, d) (List.mem_map.mpr ⟨(O', n, d, old), List.mem_of_getElem? hi, rfl⟩)
    refine slot_ne L1 L2 ?_ p1 p2
    intro en
    apply e
    rw [List.map_map] at hnd
    have k1 : (fs.map ((fun q : String × String × String => q.2.1) ∘ fun q : String × String × String × Value => (q.1, q.2.1, q.2.2.1)))[i]? = some n := by rw [List.getElem?_map, hi]; rfl
    have k2 : (fs.map ((fun q : String × String × String => q.2.1) ∘ fun q : String × String × String × Value => (q.1, q.2.1, q.2.2.1)))[j]? = some n := by rw [List.getElem?_map, hj, ← en]; rfl
    exact (List.getElem?_inj (List.getElem?_eq_some_iff.mp k1).1 hnd).mp (k1.trans k2.symm)
end Obj
/-! ## an array by the list of all that it holds -/
def own_Arr (Z : State) (h : Heap) (a : Addr) (ty : FieldType) (vs : List Value) : Prop := ∃ cl : Cell, Arr Z h a cl ty ∧ cl.slots.toList = vs
section Arrs
variable {p : Program} {l : Launch} {e : Env} {R : Room} {s : State} {m : MethodId} {args : Array Value} {below : List Frame} {meth : Method} {c : Code} {T : State} {locs : List Loc} {cells slots : Nat} {Z : State} {a0 : Array Value} {h h' : Heap}
  {P : Outcome → State → Prop} {cls : String} {bytes : ByteArray} {maxL : Nat} {ret : Option FieldType} {nm : String} {a b : Addr} {ty : FieldType} {vs : List Value} {ws : List Addr} {sl : Nat} {v : Value}
theorem own_Arr.lt (A : own_Arr Z h a ty vs) : a < h.size := by obtain ⟨cl, A, -⟩ := A; exact A.lt
theorem own_Arr.ext (A : own_Arr Z h a ty vs) (E : Ext h h') : own_Arr Z h' a ty vs := by obtain ⟨cl, A, q⟩ := A; exact ⟨cl, A.ext E, q⟩
theorem own_Arr.other (A : own_Arr Z h b ty vs) (W : Wr h h' a sl v) (n : b ≠ a) : own_Arr Z h' b ty vs := by obtain ⟨cl, A, q⟩ := A; exact ⟨cl, A.other W n, q⟩
theorem own_Arr.keep (A : own_Arr Z h a ty vs) (K : Keep h h' ws) (n : a ∉ ws) : own_Arr Z h' a ty vs := by obtain ⟨cl, A, q⟩ := A; exact ⟨cl, ⟨K.2.1 a cl A.1 n, A.2⟩, q⟩
theorem own_Arr.set (A : own_Arr Z h a ty vs) (W : Wr h h' a sl v) : own_Arr Z h' a ty (vs.set sl v) := by
  obtain ⟨cl, A, q⟩ := A
  exact ⟨_, A.same W, by simp [Cell.setSlot, q]⟩
theorem own_Arr.new {cA : ClassId} {n : Int32} (A : Arr Z h a (newA cA ty n) ty) : own_Arr Z h a ty (List.replicate n.toNatClampNeg (defaultValue ty)) := ⟨_, A, by simp [newA]⟩
theorem own_at {cl : Cell} (q : cl.slots.toList = vs) {i : Nat} (hv : vs[i]? = some v) : cl.slots[i]? = some v := by rw [← hv, ← q, Array.getElem?_toList]
theorem own_in {cl : Cell} (q : cl.slots.toList = vs) {j : Int32} (hj : ¬ j < 0) (hv : vs[j.toNatClampNeg]? = some v) : ¬ (j < 0 ∨ cl.slots.size ≤ j.toNatClampNeg) := by
  rintro (r | r)
  · exact hj r
  · have := (Array.getElem?_eq_some_iff.mp (own_at q hv)).1; omega
theorem own_iaload (K : own_Ctx p Z s m meth c cls bytes maxL ret nm) (X : Stand p l e R s m args below meth c T locs cells slots) (eT : T.heap = h) (A : own_Arr Z h a .int vs) {j : Int32} (hj : ¬ j < 0) (hv : vs[j.toNatClampNeg]? = some v)
    {pc : Nat} {Ls : Array Slot} {rest : List Value} (hd : decode bytes pc = .ok (.iaload, 1)) (k : own_Fin p e below P T (mkF m (pc + 1) Ls (v :: rest))) : own_Fin p e below P T (mkF m pc Ls (.int j :: .ref a :: rest)) := by
  obtain ⟨hx, hZ, hby, -⟩ := K
  obtain ⟨cl, A, q⟩ := A
  exact own_seg (fun t u => X.iaload hx (j := j) (v := v) (by rw [eT]; exact A.1) (State.isArrayOf_alike hZ.alike A.2.1) A.2.2 (own_in q hj hv) (own_at q hv) (g := mkF m pc Ls (.int j :: .ref a :: rest)) rfl rfl (hb hby hd) t u) k
theorem own_laload (K : own_Ctx p Z s m meth c cls bytes maxL ret nm) (X : Stand p l e R s m args below meth c T locs cells slots) (eT : T.heap = h) (A : own_Arr Z h a .long vs) {j : Int32} (hj : ¬ j < 0) (hv : vs[j.toNatClampNeg]? = some v)
    {pc : Nat} {Ls : Array Slot} {rest : List Value} (hd : decode bytes pc = .ok (.laload, 1)) (k : own_Fin p e below P T (mkF m (pc + 1) Ls (v :: rest))) : own_Fin p e below P T (mkF m pc Ls (.int j :: .ref a :: rest)) := by
  obtain ⟨hx, hZ, hby, -⟩ := K
  obtain ⟨cl, A, q⟩ := A
  exact own_seg (fun t u => X.laload hx (j := j) (v := v) (by rw [eT]; exact A.1) (State.isArrayOf_alike hZ.alike A.2.1) A.2.2 (own_in q hj hv) (own_at q hv) (g := mkF m pc Ls (.int j :: .ref a :: rest)) rfl rfl (hb hby hd) t u) k
theorem own_alen (K : own_Ctx p Z s m meth c cls bytes maxL ret nm) (X : Stand p l e R s m args below meth c T locs cells slots) (eT : T.heap = h) (A : own_Arr Z h a ty vs) {n : Int32} (hn : vs.length.toInt32 = n)
    {pc : Nat} {Ls : Array Slot} {rest : List Value} (hd : decode bytes pc = .ok (.arraylength, 1)) (k : own_Fin p e below P T (mkF m (pc + 1) Ls (.int n :: rest))) : own_Fin p e below P T (mkF m pc Ls (.ref a :: rest)) := by
  obtain ⟨hx, hZ, hby, -⟩ := K
  obtain ⟨cl, A, q⟩ := A
  subst q hn
  rw [Array.length_toList] at k
  exact own_seg (fun t u => X.arraylength hx (by rw [eT]; exact A.1) (State.isArrayOf_alike hZ.alike A.2.1) (g := mkF m pc Ls (.ref a :: rest)) rfl rfl (hb hby hd) t u) k
theorem own_iastore (K : own_Ctx p Z s m meth c cls bytes maxL ret nm) (X : Stand p l e R s m args below meth c T locs cells slots) (eT : T.heap = h) (A : own_Arr Z h a .int vs) {j x : Int32} (hj : ¬ j < 0) (hv : j.toNatClampNeg < vs.length)
    {pc : Nat} {Ls : Array Slot} {rest : List Value} (hd : decode bytes pc = .ok (.iastore, 1)) (k : ∀ T' h', Stand p l e R s m args below meth c T' (locs ++ [⟨a, j.toNatClampNeg⟩]) cells slots → T'.heap = h' → Wr h h' a j.toNatClampNeg (.int x) → own_Fin p e below P T' (mkF m (pc + 1) Ls rest)) : own_Fin p e below P T (mkF m pc Ls (.int x :: .int j :: .ref a :: rest)) := by
  obtain ⟨hx, hZ, hby, -⟩ := K
  obtain ⟨cl, A, q⟩ := A
  obtain ⟨T', h', X', e', W, st⟩ := stI X hx hZ eT A (j := j) (x := x) (own_in q hj (List.getElem?_eq_getElem hv)) (g := mkF m pc Ls (.int x :: .int j :: .ref a :: rest)) rfl rfl (hb hby hd)
  exact own_seg st (k T' h' X' e' W)
theorem own_lastore (K : own_Ctx p Z s m meth c cls bytes maxL ret nm) (X : Stand p l e R s m args below meth c T locs cells slots) (eT : T.heap = h) (A : own_Arr Z h a .long vs) {j : Int32} {x : Int64} (hj : ¬ j < 0) (hv : j.toNatClampNeg < vs.length)
    {pc : Nat} {Ls : Array Slot} {rest : List Value} (hd : decode bytes pc = .ok (.lastore, 1)) (k : ∀ T' h', Stand p l e R s m args below meth c T' (locs ++ [⟨a, j.toNatClampNeg⟩]) cells slots → T'.heap = h' → Wr h h' a j.toNatClampNeg (.long x) → own_Fin p e below P T' (mkF m (pc + 1) Ls rest)) : own_Fin p e below P T (mkF m pc Ls (.long x :: .int j :: .ref a :: rest)) := by
  obtain ⟨hx, hZ, hby, -⟩ := K
  obtain ⟨cl, A, q⟩ := A
  obtain ⟨T', h', X', e', W, st⟩ := stJ X hx hZ eT A (j := j) (x := x) (own_in q hj (List.getElem?_eq_getElem hv)) (g := mkF m pc Ls (.long x :: .int j :: .ref a :: rest)) rfl rfl (hb hby hd)
  exact own_seg st (k T' h' X' e' W)
theorem own_newP (K : own_Ctx p Z s m meth c cls bytes maxL ret nm) (X : Stand p l e R s m args below meth c T locs cells slots) (eT : T.heap = h) {aty : ArrayType} (w : (Jvm.Cond.arrayClass (newarray.typeOf aty)).before a0 Z = true) {n : Int32} (hn : ¬ n < 0) (cap : Nat) (hcap : n.toNatClampNeg ≤ cap) (hcb : cap * 8 ≤ 536870912)
    {pc : Nat} {Ls : Array Slot} {rest : List Value} (hd : decode bytes pc = .ok (.newarray aty, 2)) (hc : cells + 1 ≤ R.cells) (hl : slots + cap ≤ R.slots)
    (k : ∀ T' h' a, a = h.size → Stand p l e R s m args below meth c T' locs (cells + 1) (slots + cap) → T'.heap = h' → Ext h h' → own_Arr Z h' a (newarray.typeOf aty) (List.replicate n.toNatClampNeg (defaultValue (newarray.typeOf aty))) → own_Fin p e below P T' (mkF m (pc + 2) Ls (.ref a :: rest))) : own_Fin p e below P T (mkF m pc Ls (.int n :: rest)) := by
  obtain ⟨hx, hZ, hby, -⟩ := K
  obtain ⟨T', h', cA, X', e', E, A, st⟩ := newP X hx hZ w eT (g := mkF m pc Ls (.int n :: rest)) rfl (hb hby hd) rfl hn hcap hcb hc hl
  exact own_seg st (k T' h' _ rfl X' e' E (own_Arr.new A))
end Arrs
/-! ## an array of references, of which only the class and the length are told; a list of ints by a function -/
def own_RArr (Z : State) (h : Heap) (a : Addr) (C : String) (n : Nat) : Prop := ∃ cl : Cell, Arr Z h a cl (.object C) ∧ cl.slots.size = n ∧ Ovr Z cl.cls C
section RArrs
variable {p : Program} {l : Launch} {e : Env} {R : Room} {s : State} {m : MethodId} {args : Array Value} {below : List Frame} {meth : Method} {c : Code} {T : State} {locs : List Loc} {cells slots : Nat} {Z : State} {a0 : Array Value} {h h' : Heap}
  {P : Outcome → State → Prop} {cls : String} {bytes : ByteArray} {maxL : Nat} {ret : Option FieldType} {nm : String} {a b : Addr} {C : String} {n : Nat} {ws : List Addr} {sl : Nat} {v : Value}
theorem own_RArr.lt (A : own_RArr Z h a C n) : a < h.size := by obtain ⟨cl, A, -⟩ := A; exact A.lt
theorem own_RArr.ext (A : own_RArr Z h a C n) (E : Ext h h') : own_RArr Z h' a C n := by obtain ⟨cl, A, q⟩ := A; exact ⟨cl, A.ext E, q⟩
theorem own_RArr.other (A : own_RArr Z h b C n) (W : Wr h h' a sl v) (q : b ≠ a) : own_RArr Z h' b C n := by obtain ⟨cl, A, r⟩ := A; exact ⟨cl, A.other W q, r⟩
theorem own_RArr.keep (A : own_RArr Z h a C n) (K : Keep h h' ws) (q : a ∉ ws) : own_RArr Z h' a C n := by obtain ⟨cl, A, r⟩ := A; exact ⟨cl, ⟨K.2.1 a cl A.1 q, A.2⟩, r⟩
theorem own_RArr.set (A : own_RArr Z h a C n) (W : Wr h h' a sl v) : own_RArr Z h' a C n := by obtain ⟨cl, A, r1, r2⟩ := A; exact ⟨_, A.same W, by rw [sz_set]; exact r1, r2⟩
theorem own_aastore (K : own_Ctx p Z s m meth c cls bytes maxL ret nm) (X : Stand p l e R s m args below meth c T locs cells slots) (eT : T.heap = h) (A : own_RArr Z h a C n) {j : Int32} (hj : ¬ j < 0) (hv : j.toNatClampNeg < n) (F : v = .null ∨ ∃ y, v = .ref y ∧ Ins Z h y C true)
    {pc : Nat} {Ls : Array Slot} {rest : List Value} (hd : decode bytes pc = .ok (.aastore, 1)) (k : ∀ T' h', Stand p l e R s m args below meth c T' (locs ++ [⟨a, j.toNatClampNeg⟩]) cells slots → T'.heap = h' → Wr h h' a j.toNatClampNeg v → own_Fin p e below P T' (mkF m (pc + 1) Ls rest)) : own_Fin p e below P T (mkF m pc Ls (v :: .int j :: .ref a :: rest)) := by
  obtain ⟨hx, hZ, hby, -⟩ := K
  obtain ⟨cl, A, r1, r2⟩ := A
  have S : Sto Z h a v := by
    rcases F with rfl | ⟨y, rfl, I⟩
    · exact Or.inl rfl
    · exact Sto.of A r2 I
  obtain ⟨T', h', X', e', W, st⟩ := stR X hx hZ eT A (j := j) (v := v) (fun q => q.elim hj (fun q => by omega)) rfl S (g := mkF m pc Ls (v :: .int j :: .ref a :: rest)) rfl rfl (hb hby hd)
  exact own_seg st (k T' h' X' e' W)
theorem own_newR (K : own_Ctx p Z s m meth c cls bytes maxL ret nm) (X : Stand p l e R s m args below meth c T locs cells slots) (eT : T.heap = h) {index : Nat} (w1 : (Jvm.Cond.classLink cls index C).before a0 Z = true) (w2 : (Jvm.Cond.arrayOver (.object C)).before a0 Z = true) {z : Int32} (hn : ¬ z < 0) (cap : Nat) (hcap : z.toNatClampNeg = cap) (hcb : cap * 8 ≤ 536870912)
    {pc : Nat} {Ls : Array Slot} {rest : List Value} (hd : decode bytes pc = .ok (.anewarray index, 3)) (hc : cells + 1 ≤ R.cells) (hl : slots + cap ≤ R.slots)
    (k : ∀ T' h' a, a = h.size → Stand p l e R s m args below meth c T' locs (cells + 1) (slots + cap) → T'.heap = h' → Ext h h' → own_RArr Z h' a C cap → own_Fin p e below P T' (mkF m (pc + 3) Ls (.ref a :: rest))) : own_Fin p e below P T (mkF m pc Ls (.int z :: rest)) := by
  obtain ⟨hx, hZ, hby, hml, hown, -⟩ := K
  obtain ⟨T', h', cA, X', e', E, A, O, st⟩ := newR X hx hZ hown w1 w2 eT (g := mkF m pc Ls (.int z :: rest)) rfl (hb hby hd) rfl hn (Nat.le_of_eq hcap) hcb hc hl
  exact own_seg st (k T' h' _ rfl X' e' E ⟨_, A, by rw [sz_new]; exact hcap, O⟩)
end RArrs
def own_L (n : Nat) (f : Nat → Int32) : List Value := (List.range n).map fun i => Value.int (f i)
theorem own_L_len (n : Nat) (f : Nat → Int32) : (own_L n f).length = n := by simp [own_L]
theorem own_L_at {n : Nat} {f : Nat → Int32} {i : Nat} (h : i < n) : (own_L n f)[i]? = some (.int (f i)) := by simp [own_L, h]
theorem own_L_set {n : Nat} {f : Nat → Int32} {i : Nat} {v : Int32} (h : i < n) : (own_L n f).set i (.int v) = own_L n (fun j => if j = i then v else f j) := by
  apply List.ext_getElem?
  intro j
  by_cases e : i = j
  · subst e
    rw [List.getElem?_set_self (by rw [own_L_len]; exact h), own_L_at h, if_pos rfl]
  · rw [List.getElem?_set_ne e]
    by_cases q : j < n
    · rw [own_L_at q, own_L_at q, if_neg (Ne.symm e)]
    · rw [List.getElem?_eq_none (by rw [own_L_len]; omega), List.getElem?_eq_none (by rw [own_L_len]; omega)]
theorem own_L_rep (n : Nat) : List.replicate n (Value.int 0) = own_L n (fun _ => 0) := by
  apply List.ext_getElem?
  intro j
  by_cases q : j < n
  · rw [own_L_at q, List.getElem?_replicate, if_pos q]
  · rw [List.getElem?_replicate, if_neg q, List.getElem?_eq_none (by rw [own_L_len]; omega)]
def own_ten : Nat → Int64
  | 0 => 1
  | 1 => 10
  | 2 => 100
  | 3 => 1000
  | 4 => 10000
  | 5 => 100000
  | 6 => 1000000
  | 7 => 10000000
  | 8 => 100000000
  | 9 => 1000000000
  | 10 => 10000000000
  | 11 => 100000000000
  | 12 => 1000000000000
  | 13 => 10000000000000
  | 14 => 100000000000000
  | 15 => 1000000000000000
  | 16 => 10000000000000000
  | 17 => 100000000000000000
  | 18 => 1000000000000000000
  | _ => 1
def own_Tens (Z : State) (h : Heap) (t : Addr) : Prop := Sta Z h "com/example/rounder/rounder/LongDigits" "TENS" "[J" (.ref t) ∧ ∃ cl : Cell, Arr Z h t cl .long ∧ ∀ k, k < 19 → cl.slots[k]? = some (.long (own_ten k))
theorem own_elemJ {args : Array Value} {s : State} {t : Term} {x : Addr} {cl : Cell} {j : Int32} {c : Int64} (h : (Jvm.Cond.eq (.elem t (.int j)) (.long c)).value args s none s [] = some true) (ht : t.eval args s none [] s = some (.ref x)) (hc : s.heap[x]? = some cl) : cl.slots[j.toNatClampNeg]? = some (.long c) := by
  obtain ⟨u, w, h1, h2, hk, hk'⟩ := cmp_v (Or.inl h)
  obtain rfl : w = .long c := Option.some.inj (h2.symm.trans (long_at c))
  obtain ⟨z, rfl⟩ := hk'
  have q := gotT (eq_L h1 h2) h
  subst q
  exact (elem_in h1 ht (Term.int_eval j) hc).2
theorem own_t1 : ∀ k : Fin 19, (own_ten k.val).toInt = 10 ^ k.val := by decide +kernel
theorem own_t2 : ∀ k : Fin 18, (own_ten k.val * 10).toInt = 10 ^ k.val * 10 := by decide +kernel
theorem own_i0 : (0 : Int32).toInt = 0 := by decide
theorem own_j0 : (0 : Int64).toInt = 0 := by decide
theorem own_clamp (k : Int32) : k.toNatClampNeg = k.toInt.toNat := rfl
def own_R (num : Int64) (most r : Int32) : Prop := 0 ≤ r.toInt ∧ r.toInt ≤ most.toInt ∧ ∃ q : Int, num.toInt = q * 10 ^ r.toInt.toNat ∧ (r.toInt = most.toInt ∨ ¬ (10 : Int) ∣ q)
theorem own_Rneg {num : Int64} {most r : Int32} (h : own_R num most r) : ¬ r < 0 := by
  rw [Int32.lt_iff_toInt_lt, own_i0]; have := h.1; omega
theorem own_Rle {num : Int64} {most r : Int32} (h : own_R num most r) : ¬ most < r := by
  rw [Int32.lt_iff_toInt_lt]; have := h.2.1; omega
theorem own_R18 {num : Int64} {most r : Int32} (h : own_R num most r) (hn : ¬ num = 0) : ¬ (18 : Int32) < r := by
  obtain ⟨h1, h2, q, h3, -⟩ := h
  have e : (18 : Int32).toInt = 18 := by decide
  rw [Int32.lt_iff_toInt_lt, e]
  intro h4
  have hq : q ≠ 0 := by
    rintro rfl
    rw [Int.zero_mul] at h3
    exact hn (Int64.toInt_inj.mp (h3.trans own_j0.symm))
  have b1 := num.toInt_lt
  have b2 := num.le_toInt
  have p1 : 10 ^ 19 ≤ 10 ^ r.toInt.toNat := Nat.pow_le_pow_right (by decide) (by omega)
  have a : num.toInt.natAbs = q.natAbs * 10 ^ r.toInt.toNat := by rw [h3, Int.natAbs_mul, Int.natAbs_pow]; rfl
  have c : 0 < q.natAbs := Int.natAbs_pos.mpr hq
  have d : 10 ^ r.toInt.toNat ≤ q.natAbs * 10 ^ r.toInt.toNat := Nat.le_mul_of_pos_left _ c
  have g : (10 : Nat) ^ 19 = 10000000000000000000 := by decide
  omega
theorem own_lt19 {r : Int32} (h : ¬ (18 : Int32) < r) : r < 19 := by
  have e : (18 : Int32).toInt = 18 := by decide
  have e' : (19 : Int32).toInt = 19 := by decide
  rw [Int32.lt_iff_toInt_lt] at *; omega
theorem own_tenInt {r : Int32} (h0 : ¬ r < 0) (h : r < 19) : (own_ten r.toNatClampNeg).toInt = 10 ^ r.toInt.toNat := by
  have e' : (19 : Int32).toInt = 19 := by decide
  rw [Int32.lt_iff_toInt_lt, own_i0] at h0
  rw [Int32.lt_iff_toInt_lt, e'] at h
  exact own_t1 ⟨r.toInt.toNat, by omega⟩
theorem own_ten10Int {r : Int32} (h0 : ¬ r < 0) (h : r < 18) : (own_ten r.toNatClampNeg * 10).toInt = 10 ^ r.toInt.toNat * 10 := by
  have e' : (18 : Int32).toInt = 18 := by decide
  rw [Int32.lt_iff_toInt_lt, own_i0] at h0
  rw [Int32.lt_iff_toInt_lt, e'] at h
  exact own_t2 ⟨r.toInt.toNat, by omega⟩
theorem own_pos (k : Nat) : (0 : Int) < 10 ^ k := Int.pow_pos (by decide)
theorem own_tenNz {r : Int32} (h0 : ¬ r < 0) (h : r < 19) : own_ten r.toNatClampNeg ≠ 0 := fun q => by
  have e := own_tenInt h0 h
  rw [q, own_j0] at e
  have := own_pos r.toInt.toNat
  omega
theorem own_ten10Nz {r : Int32} (h0 : ¬ r < 0) (h : r < 18) : own_ten r.toNatClampNeg * 10 ≠ 0 := fun q => by
  have e := own_ten10Int h0 h
  rw [q, own_j0] at e
  have := own_pos r.toInt.toNat
  omega
theorem own_Rdvd {num : Int64} {most r : Int32} (h : own_R num most r) (h' : r < 19) : num % own_ten r.toNatClampNeg = 0 := by
  have e := own_tenInt (own_Rneg h) h'
  obtain ⟨h1, h2, q, h3, -⟩ := h
  apply Int64.toInt_inj.mp
  rw [Int64.toInt_mod, e, h3, own_j0]
  exact Int.tmod_eq_zero_of_dvd (Int.dvd_mul_left _ _)
theorem own_Rlast {num : Int64} {most r : Int32} (h : own_R num most r) (hm : r < most) (h' : r < 18) : ¬ num % (own_ten r.toNatClampNeg * 10) = 0 := by
  have e := own_ten10Int (own_Rneg h) h'
  obtain ⟨h1, h2, q, h3, h4⟩ := h
  rw [Int32.lt_iff_toInt_lt] at hm
  intro z
  have z2 := congrArg Int64.toInt z
  rw [Int64.toInt_mod, e, h3, own_j0] at z2
  obtain ⟨c, hc⟩ := Int.dvd_of_tmod_eq_zero z2
  have p := own_pos r.toInt.toNat
  have k : q = 10 * c := by
    refine Int.eq_of_mul_eq_mul_right (Int.ne_of_gt p) ?_
    rw [hc, Int.mul_assoc, Int.mul_comm]
  rcases h4 with h4 | h4
  · omega
  · exact h4 ⟨c, k⟩
theorem own_Rstop {num rest : Int64} {most i : Int32} (hi : 0 ≤ i.toInt) (hle : i.toInt ≤ most.toInt) (hr : num.toInt = rest.toInt * 10 ^ i.toInt.toNat) (h : ¬ i < most) : own_R num most i := by
  rw [Int32.lt_iff_toInt_lt] at h
  exact ⟨hi, hle, _, hr, Or.inl (by omega)⟩
theorem own_Rodd {num rest : Int64} {most i : Int32} (hi : 0 ≤ i.toInt) (hle : i.toInt ≤ most.toInt) (hr : num.toInt = rest.toInt * 10 ^ i.toInt.toNat) (h : ¬ rest % 10 = 0) : own_R num most i := by
  refine ⟨hi, hle, _, hr, Or.inr fun d => h ?_⟩
  apply Int64.toInt_inj.mp
  have e : (10 : Int64).toInt = 10 := by decide
  rw [Int64.toInt_mod, e, own_j0]
  exact Int.tmod_eq_zero_of_dvd d
theorem own_inc {i most : Int32} (hi : 0 ≤ i.toInt) (h : i < most) : (i + 1).toInt = i.toInt + 1 := by
  rw [Int32.lt_iff_toInt_lt] at h
  have a := most.toInt_lt
  have e : (1 : Int32).toInt = 1 := by decide
  rw [Jvm.Kit.i32_add (by omega) (by omega), e]
theorem own_next {num rest : Int64} {i most : Int32} (hi : 0 ≤ i.toInt) (hr : num.toInt = rest.toInt * 10 ^ i.toInt.toNat) (h : i < most) (h2 : rest % 10 = 0) : num.toInt = (rest / 10).toInt * 10 ^ (i + 1).toInt.toNat := by
  have e : (10 : Int64).toInt = 10 := by decide
  have z2 := congrArg Int64.toInt h2
  rw [Int64.toInt_mod, e, own_j0] at z2
  have d : (rest / 10).toInt = rest.toInt.tdiv 10 := by rw [Jvm.Kit.i64_div (by rw [e]; omega), e]
  have f := Int.tdiv_mul_cancel (Int.dvd_of_tmod_eq_zero z2)
  have g : (i.toInt + 1).toNat = i.toInt.toNat + 1 := by omega
  rw [own_inc hi h, g, Int.pow_succ, d, Int.mul_comm (10 ^ _) 10, ← Int.mul_assoc, f, hr]
theorem own_k {x : Int32} : ¬ ((x &&& (2147483647 : Int32)) % (19 : Int32)) < 0 ∧ ((x &&& (2147483647 : Int32)) % (19 : Int32)) < 19 := by
  have e := Jvm.Kit.i32_mask x 2147483647 (k := 31) (by decide) (by decide)
  have e2 : ((x &&& (2147483647 : Int32)) % (19 : Int32)).toInt = (x &&& (2147483647 : Int32)).toInt % (19 : Int32).toInt := Jvm.Kit.i32_rem_nonneg (by omega)
  have e' : (19 : Int32).toInt = 19 := by decide
  rw [Int32.lt_iff_toInt_lt, Int32.lt_iff_toInt_lt, e2, e', own_i0]; omega
theorem own_most (x : Int32) : 0 ≤ (x &&& (31 : Int32)).toInt := by
  have e := Jvm.Kit.i32_mask x 31 (k := 5) (by decide) (by decide)
  omega
theorem own_laloadC {p : Program} {l : Launch} {e : Env} {R : Room} {s : State} {m : MethodId} {args : Array Value} {below : List Frame} {meth : Method} {c : Code} {T : State} {locs : List Loc} {cells slots : Nat} {Z : State} {h : Heap} {P : Outcome → State → Prop} {cls : String} {bytes : ByteArray} {maxL : Nat} {ret : Option FieldType} {nm : String}
    (K : own_Ctx p Z s m meth c cls bytes maxL ret nm) (X : Stand p l e R s m args below meth c T locs cells slots) (eT : T.heap = h) {a : Addr} {cl : Cell} (A : Arr Z h a cl .long) {j : Int32} {v : Value} (hj : ¬ j < 0) (hv : cl.slots[j.toNatClampNeg]? = some v)
    {pc : Nat} {Ls : Array Slot} {rest : List Value} (hd : decode bytes pc = .ok (.laload, 1)) (k : own_Fin p e below P T (mkF m (pc + 1) Ls (v :: rest))) : own_Fin p e below P T (mkF m pc Ls (.int j :: .ref a :: rest)) :=
  own_laload K X eT ⟨cl, A, rfl⟩ hj (by rw [Array.getElem?_toList]; exact hv) hd k
theorem own_klt {r : Int32} (h0 : ¬ r < 0) (h : r < 19) : r.toNatClampNeg < 19 := by
  have e' : (19 : Int32).toInt = 19 := by decide
  rw [Int32.lt_iff_toInt_lt, own_i0] at h0
  rw [Int32.lt_iff_toInt_lt, e'] at h
  rw [own_clamp]; omega
theorem own_pn1 : plainName "com/example/rounder/rounder/LongDigits" = true := by first | (simp [plainName, overriddenIn]; done) | decide +kernel
theorem d1_0 : decode prog_30_method_2_code 0 = .ok (.getstatic 9, 3) := by decide +kernel
theorem d1_3 : decode prog_30_method_2_code 3 = .ok (.iload_n 0, 1) := by decide +kernel
theorem d1_4 : decode prog_30_method_2_code 4 = .ok (.laload, 1) := by decide +kernel
theorem d1_5 : decode prog_30_method_2_code 5 = .ok (.lreturn, 1) := by decide +kernel
set_option maxRecDepth 65536 in
set_option maxHeartbeats 40000000 in
theorem rm1 (l : Launch) (Z : State) (a0 : Array Value) (hw : ∀ d ∈ tables_1, d.before a0 Z = true) (p1 : Int32) (t : Addr) (h0 : Heap) (n0 : Nat) (Z0 : n0 ≤ h0.size) (hT : own_Tens Z h0 t) (h0k : ¬ p1 < 0) (h19 : p1 < 19) :
    own_Met l Z (⟨"com/example/rounder/rounder/LongDigits", "tenTo", "(I)J"⟩ : MethodName) prog_30_method_2_code 1 (some .long) ({ frames := 0, cells := 0, slots := 0, locals := 0 } : Room) #[(.int p1)] h0 (own_QJ (own_ten p1.toNatClampNeg) h0 n0) := by
  refine own_enter (plainFor_of_name own_pn1) (fun m => by first | rfl | (simp [entryFrame, mkF, argsToLocals, Value.category, maxLocals]; done)) (Ls := #[.val (.int p1)]) ?_
  intro p e s m below meth c T0 K X0 e0
  have hx := K.1
  have hZ := K.2.1
  have hby := K.2.2.1
  have hown := K.2.2.2.2.1
  have N0 := Fr.nil n0
  show own_Fin p e below _ T0 (mkF m 0 #[.val (.int p1)] [])
  refine own_getS K X0 e0 (host := "") (Or.inl (hw _ (List.mem_of_getElem? (i := 5) rfl))) Via.refl hT.1 d1_0 ?_
  intro T1 X1 e1
  show own_Fin p e below _ T1 (mkF m 3 #[.val (.int p1)] [(.ref t)])
  refine own_seg (T' := T1) (g' := (mkF m 4 #[.val (.int p1)] [(.int p1), (.ref t)])) (fun tg kt => ?_) ?_
  · show Steps p.tables e below (T1.setTop (mkF m 3 #[.val (.int p1)] [(.ref t)])) tg
    refine XS.iloadN X1.here hx rfl (hb hby d1_3) rfl ?_
    exact kt
  obtain ⟨cl, Ar, hat⟩ := hT.2
  refine own_laloadC K X1 e1 Ar h0k (hat _ (own_klt h0k h19)) d1_4 ?_
  show own_Fin p e below _ T1 (mkF m 5 #[.val (.int p1)] [(.long (own_ten p1.toNatClampNeg))])
  exact own_retJ K X1 d1_5 (⟨rfl, N0, e1⟩) (by decide) (by decide)
def own_QZ (num : Int64) (most : Int32) (h0 : Heap) (n0 : Nat) (v : Option Value) (h : Heap) (L : List Loc) : Prop := ∃ r : Int32, v = some (.int r) ∧ own_R num most r ∧ Fr n0 L ∧ h = h0
theorem d2_5 : decode prog_30_method_4_code 5 = .ok (.iload_n 3, 1) := by decide +kernel
theorem d2_6 : decode prog_30_method_4_code 6 = .ok (.iload_n 2, 1) := by decide +kernel
theorem d2_7 : decode prog_30_method_4_code 7 = .ok (.if_icmp .ge 28, 3) := by decide +kernel
theorem d2_10 : decode prog_30_method_4_code 10 = .ok (.lload 4, 2) := by decide +kernel
theorem d2_12 : decode prog_30_method_4_code 12 = .ok (.ldc2_w 19, 3) := by decide +kernel
theorem d2_15 : decode prog_30_method_4_code 15 = .ok (.lrem, 1) := by decide +kernel
theorem d2_16 : decode prog_30_method_4_code 16 = .ok (.lconst 0, 1) := by decide +kernel
theorem d2_17 : decode prog_30_method_4_code 17 = .ok (.lcmp, 1) := by decide +kernel
theorem d2_18 : decode prog_30_method_4_code 18 = .ok (.ifCond .ne 17, 3) := by decide +kernel
theorem d2_21 : decode prog_30_method_4_code 21 = .ok (.lload 4, 2) := by decide +kernel
theorem d2_23 : decode prog_30_method_4_code 23 = .ok (.ldc2_w 19, 3) := by decide +kernel
theorem d2_26 : decode prog_30_method_4_code 26 = .ok (.ldiv, 1) := by decide +kernel
theorem d2_27 : decode prog_30_method_4_code 27 = .ok (.lstore 4, 2) := by decide +kernel
theorem d2_29 : decode prog_30_method_4_code 29 = .ok (.iinc 3 1, 3) := by decide +kernel
theorem d2_32 : decode prog_30_method_4_code 32 = .ok (.goto (-27), 3) := by decide +kernel
theorem d2_35 : decode prog_30_method_4_code 35 = .ok (.iload_n 3, 1) := by decide +kernel
theorem d2_36 : decode prog_30_method_4_code 36 = .ok (.ireturn, 1) := by decide +kernel
set_option maxRecDepth 65536 in
set_option maxHeartbeats 40000000 in
theorem sg2_5 {p : Program} {l : Launch} {e : Env} {s : State} {m : MethodId} {args : Array Value} {below : List Frame} {meth : Method} {c : Code} {T0 : State} {locs : List Loc} {Z : State} {a0 : Array Value} {h0 : Heap} {n0 : Nat} (hw : ∀ d ∈ tables_1, d.before a0 Z = true) (num rest : Int64) (most i : Int32)
    (K : own_Ctx p Z s m meth c "com/example/rounder/rounder/LongDigits" prog_30_method_4_code 6 (some .int) "zerosEnding") (X0 : Stand p l e ({ frames := 0, cells := 0, slots := 0, locals := 0 } : Room) s m args below meth c T0 locs 0 0) (e0 : T0.heap = h0) (N0 : Fr n0 locs) (Z0 : n0 ≤ h0.size) (hi : 0 ≤ i.toInt) (hle : i.toInt ≤ most.toInt) (hr : num.toInt = rest.toInt * 10 ^ i.toInt.toNat) (ih : i < most → rest % 10 = 0 → ∀ (T0 : State) (locs : List Loc), Stand p l e ({ frames := 0, cells := 0, slots := 0, locals := 0 } : Room) s m args below meth c T0 locs 0 0 → T0.heap = h0 → Fr n0 locs → own_Fin p e below (own_P s ({ frames := 0, cells := 0, slots := 0, locals := 0 } : Room) (own_QZ num most h0 n0)) T0 (mkF m 5 #[.val (.long num), .second, .val (.int most), .val (.int (i + 1)), .val (.long (rest / 10)), .second] [])) :
    own_Fin p e below (own_P s ({ frames := 0, cells := 0, slots := 0, locals := 0 } : Room) (own_QZ num most h0 n0)) T0 (mkF m 5 #[.val (.long num), .second, .val (.int most), .val (.int i), .val (.long rest), .second] []) := by
  have hx := K.1
  have hZ := K.2.1
  have hby := K.2.2.1
  have hown := K.2.2.2.2.1
  refine own_seg (T' := T0) (g' := (mkF m 7 #[.val (.long num), .second, .val (.int most), .val (.int i), .val (.long rest), .second] [(.int most), (.int i)])) (fun tg kt => ?_) ?_
  · show Steps p.tables e below (T0.setTop (mkF m 5 #[.val (.long num), .second, .val (.int most), .val (.int i), .val (.long rest), .second] [])) tg
    refine XS.iloadN X0.here hx rfl (hb hby d2_5) rfl ?_
    show Steps p.tables e below (T0.setTop (mkF m 6 #[.val (.long num), .second, .val (.int most), .val (.int i), .val (.long rest), .second] [(.int i)])) tg
    refine XS.iloadN X0.here hx rfl (hb hby d2_6) rfl ?_
    exact kt
  by_cases hc7 : i < most
  · skip
    refine own_seg (T' := T0) (g' := (mkF m 10 #[.val (.long num), .second, .val (.int most), .val (.int i), .val (.long rest), .second] [])) (fun tg kt => XS.icmpNo X0.here hx rfl (hb hby d2_7) rfl (tlt hc7).2.1 kt) ?_
    refine own_seg (T' := T0) (g' := (mkF m 18 #[.val (.long num), .second, .val (.int most), .val (.int i), .val (.long rest), .second] [(.int (lcmpW (rest % (10 : Int64)) (0 : Int64)))])) (fun tg kt => ?_) ?_
    · show Steps p.tables e below (T0.setTop (mkF m 10 #[.val (.long num), .second, .val (.int most), .val (.int i), .val (.long rest), .second] [])) tg
      refine XS.lload X0.here hx rfl (hb hby d2_10) rfl ?_
      show Steps p.tables e below (T0.setTop (mkF m 12 #[.val (.long num), .second, .val (.int most), .val (.int i), .val (.long rest), .second] [(.long rest)])) tg
      refine X0.ldc2Long hx hown (mvT hZ (hw _ (List.mem_of_getElem? (i := 10) rfl))) (g := (mkF m 12 #[.val (.long num), .second, .val (.int most), .val (.int i), .val (.long rest), .second] [(.long rest)])) rfl (hb hby d2_12) _ ?_
      show Steps p.tables e below (T0.setTop (mkF m 15 #[.val (.long num), .second, .val (.int most), .val (.int i), .val (.long rest), .second] [(.long (10 : Int64)), (.long rest)])) tg
      refine own_lrem X0.here hx rfl (hb hby d2_15) rfl (by decide) ?_
      show Steps p.tables e below (T0.setTop (mkF m 16 #[.val (.long num), .second, .val (.int most), .val (.int i), .val (.long rest), .second] [(.long (rest % (10 : Int64)))])) tg
      refine XS.lconst X0.here hx rfl (hb hby d2_16) ?_
      show Steps p.tables e below (T0.setTop (mkF m 17 #[.val (.long num), .second, .val (.int most), .val (.int i), .val (.long rest), .second] [(.long (0 : Int64)), (.long (rest % (10 : Int64)))])) tg
      refine XS.lcmp X0.here hx rfl (hb hby d2_17) rfl ?_
      exact kt
    by_cases hc18 : (rest % (10 : Int64)) = (0 : Int64)
    · skip
      refine own_seg (T' := T0) (g' := (mkF m 21 #[.val (.long num), .second, .val (.int most), .val (.int i), .val (.long rest), .second] [])) (fun tg kt => XS.ifNo X0.here hx rfl (hb hby d2_18) rfl ((if0 _ _).trans (teq ((lw_eq _ _).mpr hc18)).2) kt) ?_
      refine own_seg (T' := T0) (g' := (mkF m 5 #[.val (.long num), .second, .val (.int most), .val (.int (i + (1 : Int32))), .val (.long (rest / (10 : Int64))), .second] [])) (fun tg kt => ?_) ?_
      · show Steps p.tables e below (T0.setTop (mkF m 21 #[.val (.long num), .second, .val (.int most), .val (.int i), .val (.long rest), .second] [])) tg
        refine XS.lload X0.here hx rfl (hb hby d2_21) rfl ?_
        show Steps p.tables e below (T0.setTop (mkF m 23 #[.val (.long num), .second, .val (.int most), .val (.int i), .val (.long rest), .second] [(.long rest)])) tg
        refine X0.ldc2Long hx hown (mvT hZ (hw _ (List.mem_of_getElem? (i := 10) rfl))) (g := (mkF m 23 #[.val (.long num), .second, .val (.int most), .val (.int i), .val (.long rest), .second] [(.long rest)])) rfl (hb hby d2_23) _ ?_
        show Steps p.tables e below (T0.setTop (mkF m 26 #[.val (.long num), .second, .val (.int most), .val (.int i), .val (.long rest), .second] [(.long (10 : Int64)), (.long rest)])) tg
        refine XS.ldiv X0.here hx rfl (hb hby d2_26) rfl (by decide) ?_
        show Steps p.tables e below (T0.setTop (mkF m 27 #[.val (.long num), .second, .val (.int most), .val (.int i), .val (.long rest), .second] [(.long (rest / (10 : Int64)))])) tg
        refine XS.lstore X0.here hx rfl (hb hby d2_27) rfl (l' := #[.val (.long num), .second, .val (.int most), .val (.int i), .val (.long (rest / (10 : Int64))), .second]) rfl ?_
        show Steps p.tables e below (T0.setTop (mkF m 29 #[.val (.long num), .second, .val (.int most), .val (.int i), .val (.long (rest / (10 : Int64))), .second] [])) tg
        refine XS.iinc X0.here hx rfl (hb hby d2_29) rfl (l' := #[.val (.long num), .second, .val (.int most), .val (.int (i + (1 : Int32))), .val (.long (rest / (10 : Int64))), .second]) rfl ?_
        show Steps p.tables e below (T0.setTop (mkF m 32 #[.val (.long num), .second, .val (.int most), .val (.int (i + (1 : Int32))), .val (.long (rest / (10 : Int64))), .second] [])) tg
        refine XS.goto X0.here hx rfl (pc0 := 32) (pc' := 5) rfl (hb hby d2_32) (by decide) (by decide) ?_
        exact kt
      exact ih hc7 hc18 _ _ X0 e0 N0
    · skip
      refine own_seg (T' := T0) (g' := (mkF m 35 #[.val (.long num), .second, .val (.int most), .val (.int i), .val (.long rest), .second] [])) (fun tg kt => XS.ifYes X0.here hx rfl (pc0 := 18) (pc' := 35) rfl (hb hby d2_18) rfl ((if0 _ _).trans (feq (fun q_ => hc18 ((lw_eq _ _).mp q_))).2) (by decide) (by decide) kt) ?_
      refine own_seg (T' := T0) (g' := (mkF m 36 #[.val (.long num), .second, .val (.int most), .val (.int i), .val (.long rest), .second] [(.int i)])) (fun tg kt => ?_) ?_
      · show Steps p.tables e below (T0.setTop (mkF m 35 #[.val (.long num), .second, .val (.int most), .val (.int i), .val (.long rest), .second] [])) tg
        refine XS.iloadN X0.here hx rfl (hb hby d2_35) rfl ?_
        exact kt
      exact own_retI K X0 d2_36 (⟨i, rfl, own_Rodd hi hle hr hc18, N0, e0⟩) (by decide) (by decide)
  · skip
    refine own_seg (T' := T0) (g' := (mkF m 35 #[.val (.long num), .second, .val (.int most), .val (.int i), .val (.long rest), .second] [])) (fun tg kt => XS.icmpYes X0.here hx rfl (pc0 := 7) (pc' := 35) rfl (hb hby d2_7) rfl (flt hc7).2.1 (by decide) (by decide) kt) ?_
    refine own_seg (T' := T0) (g' := (mkF m 36 #[.val (.long num), .second, .val (.int most), .val (.int i), .val (.long rest), .second] [(.int i)])) (fun tg kt => ?_) ?_
    · show Steps p.tables e below (T0.setTop (mkF m 35 #[.val (.long num), .second, .val (.int most), .val (.int i), .val (.long rest), .second] [])) tg
      refine XS.iloadN X0.here hx rfl (hb hby d2_35) rfl ?_
      exact kt
    exact own_retI K X0 d2_36 (⟨i, rfl, own_Rstop hi hle hr hc7, N0, e0⟩) (by decide) (by decide)
theorem lp2 {p : Program} {l : Launch} {e : Env} {s : State} {m : MethodId} {args : Array Value} {below : List Frame} {meth : Method} {c : Code} {Z : State} {a0 : Array Value} {h0 : Heap} {n0 : Nat} (hw : ∀ d ∈ tables_1, d.before a0 Z = true) (num : Int64) (most : Int32) (K : own_Ctx p Z s m meth c "com/example/rounder/rounder/LongDigits" prog_30_method_4_code 6 (some .int) "zerosEnding") (Z0 : n0 ≤ h0.size) :
    ∀ (k : Nat) (i : Int32) (rest : Int64) (T0 : State) (locs : List Loc), Stand p l e ({ frames := 0, cells := 0, slots := 0, locals := 0 } : Room) s m args below meth c T0 locs 0 0 → T0.heap = h0 → Fr n0 locs → i.toInt + k = most.toInt → 0 ≤ i.toInt → num.toInt = rest.toInt * 10 ^ i.toInt.toNat →
      own_Fin p e below (own_P s ({ frames := 0, cells := 0, slots := 0, locals := 0 } : Room) (own_QZ num most h0 n0)) T0 (mkF m 5 #[.val (.long num), .second, .val (.int most), .val (.int i), .val (.long rest), .second] []) := by
  intro k
  induction k with
  | zero =>
    intro i rest T0 locs X0 e0 N0 hk hi hr
    exact sg2_5 hw num rest most i K X0 e0 N0 Z0 hi (by omega) hr (fun h7 => by rw [Int32.lt_iff_toInt_lt] at h7; omega)
  | succ k ih =>
    intro i rest T0 locs X0 e0 N0 hk hi hr
    exact sg2_5 hw num rest most i K X0 e0 N0 Z0 hi (by omega) hr (fun h7 h18 T locs X e N => ih (i + 1) (rest / 10) T locs X e N (by rw [own_inc hi h7]; omega) (by rw [own_inc hi h7]; omega) (own_next hi hr h7 h18))
theorem own_pn2 : plainName "com/example/rounder/rounder/LongDigits" = true := by first | (simp [plainName, overriddenIn]; done) | decide +kernel
theorem d2_0 : decode prog_30_method_4_code 0 = .ok (.iconst 0, 1) := by decide +kernel
theorem d2_1 : decode prog_30_method_4_code 1 = .ok (.istore_n 3, 1) := by decide +kernel
theorem d2_2 : decode prog_30_method_4_code 2 = .ok (.lload_n 0, 1) := by decide +kernel
theorem d2_3 : decode prog_30_method_4_code 3 = .ok (.lstore 4, 2) := by decide +kernel
set_option maxRecDepth 65536 in
set_option maxHeartbeats 40000000 in
theorem rm2 (l : Launch) (Z : State) (a0 : Array Value) (hw : ∀ d ∈ tables_1, d.before a0 Z = true) (num : Int64) (most : Int32) (h0 : Heap) (n0 : Nat) (Z0 : n0 ≤ h0.size) (hm : 0 ≤ most.toInt) :
    own_Met l Z (⟨"com/example/rounder/rounder/LongDigits", "zerosEnding", "(JI)I"⟩ : MethodName) prog_30_method_4_code 6 (some .int) ({ frames := 0, cells := 0, slots := 0, locals := 0 } : Room) #[(.long num), (.int most)] h0 (own_QZ num most h0 n0) := by
  refine own_enter (plainFor_of_name own_pn2) (fun m => by first | rfl | (simp [entryFrame, mkF, argsToLocals, Value.category, maxLocals]; done)) (Ls := #[.val (.long num), .second, .val (.int most), .unset, .unset, .unset]) ?_
  intro p e s m below meth c T0 K X0 e0
  have hx := K.1
  have hZ := K.2.1
  have hby := K.2.2.1
  have hown := K.2.2.2.2.1
  have N0 := Fr.nil n0
  show own_Fin p e below _ T0 (mkF m 0 #[.val (.long num), .second, .val (.int most), .unset, .unset, .unset] [])
  refine own_seg (T' := T0) (g' := (mkF m 5 #[.val (.long num), .second, .val (.int most), .val (.int (0 : Int32)), .val (.long num), .second] [])) (fun tg kt => ?_) ?_
  · show Steps p.tables e below (T0.setTop (mkF m 0 #[.val (.long num), .second, .val (.int most), .unset, .unset, .unset] [])) tg
    refine XS.iconst X0.here hx rfl (hb hby d2_0) ?_
    show Steps p.tables e below (T0.setTop (mkF m 1 #[.val (.long num), .second, .val (.int most), .unset, .unset, .unset] [(.int (0 : Int32))])) tg
    refine XS.istoreN X0.here hx rfl (hb hby d2_1) rfl (l' := #[.val (.long num), .second, .val (.int most), .val (.int (0 : Int32)), .unset, .unset]) rfl ?_
    show Steps p.tables e below (T0.setTop (mkF m 2 #[.val (.long num), .second, .val (.int most), .val (.int (0 : Int32)), .unset, .unset] [])) tg
    refine XS.lloadN X0.here hx rfl (hb hby d2_2) rfl ?_
    show Steps p.tables e below (T0.setTop (mkF m 3 #[.val (.long num), .second, .val (.int most), .val (.int (0 : Int32)), .unset, .unset] [(.long num)])) tg
    refine XS.lstore X0.here hx rfl (hb hby d2_3) rfl (l' := #[.val (.long num), .second, .val (.int most), .val (.int (0 : Int32)), .val (.long num), .second]) rfl ?_
    exact kt
  exact lp2 hw num most K Z0 most.toInt.toNat 0 num _ _ X0 e0 N0 (by rw [own_i0]; omega) (by rw [own_i0]; omega) (by rw [own_i0]; exact (Int.mul_one _).symm)
theorem own_pd0 : parseMethodDescriptor "(JI)I" = some ⟨[.long, .int], some .int⟩ := by decide +kernel
theorem own_pd1 : parseMethodDescriptor "(I)J" = some ⟨[.int], some .long⟩ := by decide +kernel
set_option maxRecDepth 65536 in
set_option maxHeartbeats 40000000 in
theorem sg0_29 {p : Program} {l : Launch} {e : Env} {s : State} {m : MethodId} {args : Array Value} {below : List Frame} {meth : Method} {c : Code} {T0 : State} {locs : List Loc} {Z : State} {a0 : Array Value} {h0 : Heap} {n0 : Nat} (hw : ∀ d ∈ tables_1, d.before a0 Z = true) (q1 : Int64) (p2 p3 p4 i5 : Int32) (j6 : Int64) (t : Addr)
    (K : own_Ctx p Z s m meth c "com/example/rounder/rounder/LongDigitsZerosEndingPinLaw" code maxLocals ret "law") (X0 : Stand p l e room_1 s m args below meth c T0 locs 0 0) (e0 : T0.heap = h0) (N0 : Fr n0 locs) (Z0 : n0 ≤ h0.size) (hT : own_Tens Z h0 t) :
    own_Fin p e below (own_P s room_1 (own_Q1 n0)) T0 (mkF m 29 #[.val (.long q1), .second, .val (.int p2), .val (.int p3), .val (.int p4), .val (.int i5), .val (.long j6), .second, .unset, .unset, .unset, .unset] []) := by
  have hx := K.1
  have hZ := K.2.1
  have hby := K.2.2.1
  have hown := K.2.2.2.2.1
  refine own_seg (T' := T0) (g' := (mkF m 33 #[.val (.long q1), .second, .val (.int p2), .val (.int p3), .val (.int p4), .val (.int i5), .val (.long j6), .second, .unset, .unset, .unset, .unset] [(.int (lcmpW j6 (0 : Int64)))])) (fun tg kt => ?_) ?_
  · show Steps p.tables e below (T0.setTop (mkF m 29 #[.val (.long q1), .second, .val (.int p2), .val (.int p3), .val (.int p4), .val (.int i5), .val (.long j6), .second, .unset, .unset, .unset, .unset] [])) tg
    refine XS.lload X0.here hx rfl (hb hby at_29) rfl ?_
    show Steps p.tables e below (T0.setTop (mkF m 31 #[.val (.long q1), .second, .val (.int p2), .val (.int p3), .val (.int p4), .val (.int i5), .val (.long j6), .second, .unset, .unset, .unset, .unset] [(.long j6)])) tg
    refine XS.lconst X0.here hx rfl (hb hby at_31) ?_
    show Steps p.tables e below (T0.setTop (mkF m 32 #[.val (.long q1), .second, .val (.int p2), .val (.int p3), .val (.int p4), .val (.int i5), .val (.long j6), .second, .unset, .unset, .unset, .unset] [(.long (0 : Int64)), (.long j6)])) tg
    refine XS.lcmp X0.here hx rfl (hb hby at_32) rfl ?_
    exact kt
  by_cases hc33 : j6 = (0 : Int64)
  · skip
    refine own_seg (T' := T0) (g' := (mkF m 36 #[.val (.long q1), .second, .val (.int p2), .val (.int p3), .val (.int p4), .val (.int i5), .val (.long j6), .second, .unset, .unset, .unset, .unset] [])) (fun tg kt => XS.ifNo X0.here hx rfl (hb hby at_33) rfl ((if0 _ _).trans (teq ((lw_eq _ _).mpr hc33)).2) kt) ?_
    refine own_seg (T' := T0) (g' := (mkF m 37 #[.val (.long q1), .second, .val (.int p2), .val (.int p3), .val (.int p4), .val (.int i5), .val (.long j6), .second, .unset, .unset, .unset, .unset] [(.int (1 : Int32))])) (fun tg kt => ?_) ?_
    · show Steps p.tables e below (T0.setTop (mkF m 36 #[.val (.long q1), .second, .val (.int p2), .val (.int p3), .val (.int p4), .val (.int i5), .val (.long j6), .second, .unset, .unset, .unset, .unset] [])) tg
      refine XS.iconst X0.here hx rfl (hb hby at_36) ?_
      exact kt
    exact own_retN K (by simp) X0 at_37 (⟨rfl, N0⟩) (by decide) (by decide)
  · skip
    refine own_seg (T' := T0) (g' := (mkF m 38 #[.val (.long q1), .second, .val (.int p2), .val (.int p3), .val (.int p4), .val (.int i5), .val (.long j6), .second, .unset, .unset, .unset, .unset] [])) (fun tg kt => XS.ifYes X0.here hx rfl (pc0 := 33) (pc' := 38) rfl (hb hby at_33) rfl ((if0 _ _).trans (feq (fun q_ => hc33 ((lw_eq _ _).mp q_))).2) (by decide) (by decide) kt) ?_
    refine own_seg (T' := T0) (g' := (mkF m 48 #[.val (.long q1), .second, .val (.int p2), .val (.int p3), .val (.int p4), .val (.int i5), .val (.long j6), .second, .val (.int (p3 &&& (31 : Int32))), .unset, .unset, .unset] [(.int (p3 &&& (31 : Int32))), (.long j6)])) (fun tg kt => ?_) ?_
    · show Steps p.tables e below (T0.setTop (mkF m 38 #[.val (.long q1), .second, .val (.int p2), .val (.int p3), .val (.int p4), .val (.int i5), .val (.long j6), .second, .unset, .unset, .unset, .unset] [])) tg
      refine XS.iloadN X0.here hx rfl (hb hby at_38) rfl ?_
      show Steps p.tables e below (T0.setTop (mkF m 39 #[.val (.long q1), .second, .val (.int p2), .val (.int p3), .val (.int p4), .val (.int i5), .val (.long j6), .second, .unset, .unset, .unset, .unset] [(.int p3)])) tg
      refine XS.bipush X0.here hx rfl (hb hby at_39) ?_
      show Steps p.tables e below (T0.setTop (mkF m 41 #[.val (.long q1), .second, .val (.int p2), .val (.int p3), .val (.int p4), .val (.int i5), .val (.long j6), .second, .unset, .unset, .unset, .unset] [(.int (31 : Int32)), (.int p3)])) tg
      refine XS.iand X0.here hx rfl (hb hby at_41) rfl ?_
      show Steps p.tables e below (T0.setTop (mkF m 42 #[.val (.long q1), .second, .val (.int p2), .val (.int p3), .val (.int p4), .val (.int i5), .val (.long j6), .second, .unset, .unset, .unset, .unset] [(.int (p3 &&& (31 : Int32)))])) tg
      refine XS.istore X0.here hx rfl (hb hby at_42) rfl (l' := #[.val (.long q1), .second, .val (.int p2), .val (.int p3), .val (.int p4), .val (.int i5), .val (.long j6), .second, .val (.int (p3 &&& (31 : Int32))), .unset, .unset, .unset]) rfl ?_
      show Steps p.tables e below (T0.setTop (mkF m 44 #[.val (.long q1), .second, .val (.int p2), .val (.int p3), .val (.int p4), .val (.int i5), .val (.long j6), .second, .val (.int (p3 &&& (31 : Int32))), .unset, .unset, .unset] [])) tg
      refine XS.lload X0.here hx rfl (hb hby at_44) rfl ?_
      show Steps p.tables e below (T0.setTop (mkF m 46 #[.val (.long q1), .second, .val (.int p2), .val (.int p3), .val (.int p4), .val (.int i5), .val (.long j6), .second, .val (.int (p3 &&& (31 : Int32))), .unset, .unset, .unset] [(.long j6)])) tg
      refine XS.iload X0.here hx rfl (hb hby at_46) rfl ?_
      exact kt
    refine own_callS K X0 e0 (rm2 l Z a0 hw j6 (p3 &&& (31 : Int32)) h0 n0 Z0 (own_most _)) (hw _ (List.mem_of_getElem? (i := 7) rfl)) (hw _ (List.mem_of_getElem? (i := 8) rfl)) (hw _ (List.mem_of_getElem? (i := 3) rfl)) (hw _ (List.mem_of_getElem? (i := 9) rfl)) (by decide) [(.long j6), (.int (p3 &&& (31 : Int32)))] [] own_pd0 rfl rfl rfl rfl at_48 (by decide) (Nat.le_of_ble_eq_true rfl) (by decide) (by decide) ?_
    intro T1 L1 v1 X1 hQ1
    obtain ⟨r9, rfl, hR9, Nq1, e1⟩ := hQ1
    have N1 := Fr.app N0 Nq1
    show own_Fin p e below _ T1 (mkF m 51 #[.val (.long q1), .second, .val (.int p2), .val (.int p3), .val (.int p4), .val (.int i5), .val (.long j6), .second, .val (.int (p3 &&& (31 : Int32))), .unset, .unset, .unset] [(.int r9)])
    refine own_seg (T' := T1) (g' := (mkF m 55 #[.val (.long q1), .second, .val (.int p2), .val (.int p3), .val (.int p4), .val (.int i5), .val (.long j6), .second, .val (.int (p3 &&& (31 : Int32))), .val (.int r9), .unset, .unset] [(.int r9)])) (fun tg kt => ?_) ?_
    · show Steps p.tables e below (T1.setTop (mkF m 51 #[.val (.long q1), .second, .val (.int p2), .val (.int p3), .val (.int p4), .val (.int i5), .val (.long j6), .second, .val (.int (p3 &&& (31 : Int32))), .unset, .unset, .unset] [(.int r9)])) tg
      refine XS.istore X1.here hx rfl (hb hby at_51) rfl (l' := #[.val (.long q1), .second, .val (.int p2), .val (.int p3), .val (.int p4), .val (.int i5), .val (.long j6), .second, .val (.int (p3 &&& (31 : Int32))), .val (.int r9), .unset, .unset]) rfl ?_
      show Steps p.tables e below (T1.setTop (mkF m 53 #[.val (.long q1), .second, .val (.int p2), .val (.int p3), .val (.int p4), .val (.int i5), .val (.long j6), .second, .val (.int (p3 &&& (31 : Int32))), .val (.int r9), .unset, .unset] [])) tg
      refine XS.iload X1.here hx rfl (hb hby at_53) rfl ?_
      exact kt
    have hc55 : ¬ (r9 < (0 : Int32)) := own_Rneg hR9
    refine own_seg (T' := T1) (g' := (mkF m 58 #[.val (.long q1), .second, .val (.int p2), .val (.int p3), .val (.int p4), .val (.int i5), .val (.long j6), .second, .val (.int (p3 &&& (31 : Int32))), .val (.int r9), .unset, .unset] [])) (fun tg kt => XS.ifNo X1.here hx rfl (hb hby at_55) rfl ((if0 _ _).trans (flt hc55).1) kt) ?_
    refine own_seg (T' := T1) (g' := (mkF m 62 #[.val (.long q1), .second, .val (.int p2), .val (.int p3), .val (.int p4), .val (.int i5), .val (.long j6), .second, .val (.int (p3 &&& (31 : Int32))), .val (.int r9), .unset, .unset] [(.int (p3 &&& (31 : Int32))), (.int r9)])) (fun tg kt => ?_) ?_
    · show Steps p.tables e below (T1.setTop (mkF m 58 #[.val (.long q1), .second, .val (.int p2), .val (.int p3), .val (.int p4), .val (.int i5), .val (.long j6), .second, .val (.int (p3 &&& (31 : Int32))), .val (.int r9), .unset, .unset] [])) tg
      refine XS.iload X1.here hx rfl (hb hby at_58) rfl ?_
      show Steps p.tables e below (T1.setTop (mkF m 60 #[.val (.long q1), .second, .val (.int p2), .val (.int p3), .val (.int p4), .val (.int i5), .val (.long j6), .second, .val (.int (p3 &&& (31 : Int32))), .val (.int r9), .unset, .unset] [(.int r9)])) tg
      refine XS.iload X1.here hx rfl (hb hby at_60) rfl ?_
      exact kt
    have hc62 : ¬ ((p3 &&& (31 : Int32)) < r9) := own_Rle hR9
    refine own_seg (T' := T1) (g' := (mkF m 65 #[.val (.long q1), .second, .val (.int p2), .val (.int p3), .val (.int p4), .val (.int i5), .val (.long j6), .second, .val (.int (p3 &&& (31 : Int32))), .val (.int r9), .unset, .unset] [])) (fun tg kt => XS.icmpNo X1.here hx rfl (hb hby at_62) rfl (flt hc62).2.2.1 kt) ?_
    refine own_seg (T' := T1) (g' := (mkF m 69 #[.val (.long q1), .second, .val (.int p2), .val (.int p3), .val (.int p4), .val (.int i5), .val (.long j6), .second, .val (.int (p3 &&& (31 : Int32))), .val (.int r9), .unset, .unset] [(.int (18 : Int32)), (.int r9)])) (fun tg kt => ?_) ?_
    · show Steps p.tables e below (T1.setTop (mkF m 65 #[.val (.long q1), .second, .val (.int p2), .val (.int p3), .val (.int p4), .val (.int i5), .val (.long j6), .second, .val (.int (p3 &&& (31 : Int32))), .val (.int r9), .unset, .unset] [])) tg
      refine XS.iload X1.here hx rfl (hb hby at_65) rfl ?_
      show Steps p.tables e below (T1.setTop (mkF m 67 #[.val (.long q1), .second, .val (.int p2), .val (.int p3), .val (.int p4), .val (.int i5), .val (.long j6), .second, .val (.int (p3 &&& (31 : Int32))), .val (.int r9), .unset, .unset] [(.int r9)])) tg
      refine XS.bipush X1.here hx rfl (hb hby at_67) ?_
      exact kt
    have hc69 : ¬ ((18 : Int32) < r9) := own_R18 hR9 hc33
    refine own_seg (T' := T1) (g' := (mkF m 74 #[.val (.long q1), .second, .val (.int p2), .val (.int p3), .val (.int p4), .val (.int i5), .val (.long j6), .second, .val (.int (p3 &&& (31 : Int32))), .val (.int r9), .unset, .unset] [])) (fun tg kt => XS.icmpYes X1.here hx rfl (pc0 := 69) (pc' := 74) rfl (hb hby at_69) rfl (flt hc69).2.2.2 (by decide) (by decide) kt) ?_
    refine own_seg (T' := T1) (g' := (mkF m 76 #[.val (.long q1), .second, .val (.int p2), .val (.int p3), .val (.int p4), .val (.int i5), .val (.long j6), .second, .val (.int (p3 &&& (31 : Int32))), .val (.int r9), .unset, .unset] [(.int r9)])) (fun tg kt => ?_) ?_
    · show Steps p.tables e below (T1.setTop (mkF m 74 #[.val (.long q1), .second, .val (.int p2), .val (.int p3), .val (.int p4), .val (.int i5), .val (.long j6), .second, .val (.int (p3 &&& (31 : Int32))), .val (.int r9), .unset, .unset] [])) tg
      refine XS.iload X1.here hx rfl (hb hby at_74) rfl ?_
      exact kt
    refine own_callS K X1 e1 (rm1 l Z a0 hw r9 t h0 n0 Z0 hT (own_Rneg hR9) (own_lt19 hc69)) (hw _ (List.mem_of_getElem? (i := 1) rfl)) (hw _ (List.mem_of_getElem? (i := 2) rfl)) (hw _ (List.mem_of_getElem? (i := 3) rfl)) (hw _ (List.mem_of_getElem? (i := 4) rfl)) (by decide) [(.int r9)] [] own_pd1 rfl rfl rfl rfl at_76 (by decide) (Nat.le_of_ble_eq_true rfl) (by decide) (by decide) ?_
    intro T2 L2 v2 X2 hQ2
    obtain ⟨rfl, Nq2, e2⟩ := hQ2
    have N2 := Fr.app N1 Nq2
    show own_Fin p e below _ T2 (mkF m 79 #[.val (.long q1), .second, .val (.int p2), .val (.int p3), .val (.int p4), .val (.int i5), .val (.long j6), .second, .val (.int (p3 &&& (31 : Int32))), .val (.int r9), .unset, .unset] [(.long (own_ten r9.toNatClampNeg))])
    refine own_seg (T' := T2) (g' := (mkF m 88 #[.val (.long q1), .second, .val (.int p2), .val (.int p3), .val (.int p4), .val (.int i5), .val (.long j6), .second, .val (.int (p3 &&& (31 : Int32))), .val (.int r9), .val (.long (own_ten r9.toNatClampNeg)), .second] [(.int (lcmpW (j6 % (own_ten r9.toNatClampNeg)) (0 : Int64)))])) (fun tg kt => ?_) ?_
    · show Steps p.tables e below (T2.setTop (mkF m 79 #[.val (.long q1), .second, .val (.int p2), .val (.int p3), .val (.int p4), .val (.int i5), .val (.long j6), .second, .val (.int (p3 &&& (31 : Int32))), .val (.int r9), .unset, .unset] [(.long (own_ten r9.toNatClampNeg))])) tg
      refine XS.lstore X2.here hx rfl (hb hby at_79) rfl (l' := #[.val (.long q1), .second, .val (.int p2), .val (.int p3), .val (.int p4), .val (.int i5), .val (.long j6), .second, .val (.int (p3 &&& (31 : Int32))), .val (.int r9), .val (.long (own_ten r9.toNatClampNeg)), .second]) rfl ?_
      show Steps p.tables e below (T2.setTop (mkF m 81 #[.val (.long q1), .second, .val (.int p2), .val (.int p3), .val (.int p4), .val (.int i5), .val (.long j6), .second, .val (.int (p3 &&& (31 : Int32))), .val (.int r9), .val (.long (own_ten r9.toNatClampNeg)), .second] [])) tg
      refine XS.lload X2.here hx rfl (hb hby at_81) rfl ?_
      show Steps p.tables e below (T2.setTop (mkF m 83 #[.val (.long q1), .second, .val (.int p2), .val (.int p3), .val (.int p4), .val (.int i5), .val (.long j6), .second, .val (.int (p3 &&& (31 : Int32))), .val (.int r9), .val (.long (own_ten r9.toNatClampNeg)), .second] [(.long j6)])) tg
      refine XS.lload X2.here hx rfl (hb hby at_83) rfl ?_
      show Steps p.tables e below (T2.setTop (mkF m 85 #[.val (.long q1), .second, .val (.int p2), .val (.int p3), .val (.int p4), .val (.int i5), .val (.long j6), .second, .val (.int (p3 &&& (31 : Int32))), .val (.int r9), .val (.long (own_ten r9.toNatClampNeg)), .second] [(.long (own_ten r9.toNatClampNeg)), (.long j6)])) tg
      refine own_lrem X2.here hx rfl (hb hby at_85) rfl (own_tenNz (own_Rneg hR9) (own_lt19 hc69)) ?_
      show Steps p.tables e below (T2.setTop (mkF m 86 #[.val (.long q1), .second, .val (.int p2), .val (.int p3), .val (.int p4), .val (.int i5), .val (.long j6), .second, .val (.int (p3 &&& (31 : Int32))), .val (.int r9), .val (.long (own_ten r9.toNatClampNeg)), .second] [(.long (j6 % (own_ten r9.toNatClampNeg)))])) tg
      refine XS.lconst X2.here hx rfl (hb hby at_86) ?_
      show Steps p.tables e below (T2.setTop (mkF m 87 #[.val (.long q1), .second, .val (.int p2), .val (.int p3), .val (.int p4), .val (.int i5), .val (.long j6), .second, .val (.int (p3 &&& (31 : Int32))), .val (.int r9), .val (.long (own_ten r9.toNatClampNeg)), .second] [(.long (0 : Int64)), (.long (j6 % (own_ten r9.toNatClampNeg)))])) tg
      refine XS.lcmp X2.here hx rfl (hb hby at_87) rfl ?_
      exact kt
    have hc88 : (j6 % (own_ten r9.toNatClampNeg)) = (0 : Int64) := own_Rdvd hR9 (own_lt19 hc69)
    refine own_seg (T' := T2) (g' := (mkF m 93 #[.val (.long q1), .second, .val (.int p2), .val (.int p3), .val (.int p4), .val (.int i5), .val (.long j6), .second, .val (.int (p3 &&& (31 : Int32))), .val (.int r9), .val (.long (own_ten r9.toNatClampNeg)), .second] [])) (fun tg kt => XS.ifYes X2.here hx rfl (pc0 := 88) (pc' := 93) rfl (hb hby at_88) rfl ((if0 _ _).trans (teq ((lw_eq _ _).mpr hc88)).1) (by decide) (by decide) kt) ?_
    refine own_seg (T' := T2) (g' := (mkF m 97 #[.val (.long q1), .second, .val (.int p2), .val (.int p3), .val (.int p4), .val (.int i5), .val (.long j6), .second, .val (.int (p3 &&& (31 : Int32))), .val (.int r9), .val (.long (own_ten r9.toNatClampNeg)), .second] [(.int (p3 &&& (31 : Int32))), (.int r9)])) (fun tg kt => ?_) ?_
    · show Steps p.tables e below (T2.setTop (mkF m 93 #[.val (.long q1), .second, .val (.int p2), .val (.int p3), .val (.int p4), .val (.int i5), .val (.long j6), .second, .val (.int (p3 &&& (31 : Int32))), .val (.int r9), .val (.long (own_ten r9.toNatClampNeg)), .second] [])) tg
      refine XS.iload X2.here hx rfl (hb hby at_93) rfl ?_
      show Steps p.tables e below (T2.setTop (mkF m 95 #[.val (.long q1), .second, .val (.int p2), .val (.int p3), .val (.int p4), .val (.int i5), .val (.long j6), .second, .val (.int (p3 &&& (31 : Int32))), .val (.int r9), .val (.long (own_ten r9.toNatClampNeg)), .second] [(.int r9)])) tg
      refine XS.iload X2.here hx rfl (hb hby at_95) rfl ?_
      exact kt
    by_cases hc97 : r9 < (p3 &&& (31 : Int32))
    · skip
      refine own_seg (T' := T2) (g' := (mkF m 100 #[.val (.long q1), .second, .val (.int p2), .val (.int p3), .val (.int p4), .val (.int i5), .val (.long j6), .second, .val (.int (p3 &&& (31 : Int32))), .val (.int r9), .val (.long (own_ten r9.toNatClampNeg)), .second] [])) (fun tg kt => XS.icmpNo X2.here hx rfl (hb hby at_97) rfl (tlt hc97).2.1 kt) ?_
      refine own_seg (T' := T2) (g' := (mkF m 104 #[.val (.long q1), .second, .val (.int p2), .val (.int p3), .val (.int p4), .val (.int i5), .val (.long j6), .second, .val (.int (p3 &&& (31 : Int32))), .val (.int r9), .val (.long (own_ten r9.toNatClampNeg)), .second] [(.int (18 : Int32)), (.int r9)])) (fun tg kt => ?_) ?_
      · show Steps p.tables e below (T2.setTop (mkF m 100 #[.val (.long q1), .second, .val (.int p2), .val (.int p3), .val (.int p4), .val (.int i5), .val (.long j6), .second, .val (.int (p3 &&& (31 : Int32))), .val (.int r9), .val (.long (own_ten r9.toNatClampNeg)), .second] [])) tg
        refine XS.iload X2.here hx rfl (hb hby at_100) rfl ?_
        show Steps p.tables e below (T2.setTop (mkF m 102 #[.val (.long q1), .second, .val (.int p2), .val (.int p3), .val (.int p4), .val (.int i5), .val (.long j6), .second, .val (.int (p3 &&& (31 : Int32))), .val (.int r9), .val (.long (own_ten r9.toNatClampNeg)), .second] [(.int r9)])) tg
        refine XS.bipush X2.here hx rfl (hb hby at_102) ?_
        exact kt
      by_cases hc104 : r9 < (18 : Int32)
      · skip
        refine own_seg (T' := T2) (g' := (mkF m 107 #[.val (.long q1), .second, .val (.int p2), .val (.int p3), .val (.int p4), .val (.int i5), .val (.long j6), .second, .val (.int (p3 &&& (31 : Int32))), .val (.int r9), .val (.long (own_ten r9.toNatClampNeg)), .second] [])) (fun tg kt => XS.icmpNo X2.here hx rfl (hb hby at_104) rfl (tlt hc104).2.1 kt) ?_
        refine own_seg (T' := T2) (g' := (mkF m 118 #[.val (.long q1), .second, .val (.int p2), .val (.int p3), .val (.int p4), .val (.int i5), .val (.long j6), .second, .val (.int (p3 &&& (31 : Int32))), .val (.int r9), .val (.long (own_ten r9.toNatClampNeg)), .second] [(.int (lcmpW (j6 % ((own_ten r9.toNatClampNeg) * (10 : Int64))) (0 : Int64)))])) (fun tg kt => ?_) ?_
        · show Steps p.tables e below (T2.setTop (mkF m 107 #[.val (.long q1), .second, .val (.int p2), .val (.int p3), .val (.int p4), .val (.int i5), .val (.long j6), .second, .val (.int (p3 &&& (31 : Int32))), .val (.int r9), .val (.long (own_ten r9.toNatClampNeg)), .second] [])) tg
          refine XS.lload X2.here hx rfl (hb hby at_107) rfl ?_
          show Steps p.tables e below (T2.setTop (mkF m 109 #[.val (.long q1), .second, .val (.int p2), .val (.int p3), .val (.int p4), .val (.int i5), .val (.long j6), .second, .val (.int (p3 &&& (31 : Int32))), .val (.int r9), .val (.long (own_ten r9.toNatClampNeg)), .second] [(.long j6)])) tg
          refine XS.lload X2.here hx rfl (hb hby at_109) rfl ?_
          show Steps p.tables e below (T2.setTop (mkF m 111 #[.val (.long q1), .second, .val (.int p2), .val (.int p3), .val (.int p4), .val (.int i5), .val (.long j6), .second, .val (.int (p3 &&& (31 : Int32))), .val (.int r9), .val (.long (own_ten r9.toNatClampNeg)), .second] [(.long (own_ten r9.toNatClampNeg)), (.long j6)])) tg
          refine X2.ldc2Long hx hown (mvT hZ (hw _ (List.mem_of_getElem? (i := 11) rfl))) (g := (mkF m 111 #[.val (.long q1), .second, .val (.int p2), .val (.int p3), .val (.int p4), .val (.int i5), .val (.long j6), .second, .val (.int (p3 &&& (31 : Int32))), .val (.int r9), .val (.long (own_ten r9.toNatClampNeg)), .second] [(.long (own_ten r9.toNatClampNeg)), (.long j6)])) rfl (hb hby at_111) _ ?_
          show Steps p.tables e below (T2.setTop (mkF m 114 #[.val (.long q1), .second, .val (.int p2), .val (.int p3), .val (.int p4), .val (.int i5), .val (.long j6), .second, .val (.int (p3 &&& (31 : Int32))), .val (.int r9), .val (.long (own_ten r9.toNatClampNeg)), .second] [(.long (10 : Int64)), (.long (own_ten r9.toNatClampNeg)), (.long j6)])) tg
          refine XS.lmul X2.here hx rfl (hb hby at_114) rfl ?_
          show Steps p.tables e below (T2.setTop (mkF m 115 #[.val (.long q1), .second, .val (.int p2), .val (.int p3), .val (.int p4), .val (.int i5), .val (.long j6), .second, .val (.int (p3 &&& (31 : Int32))), .val (.int r9), .val (.long (own_ten r9.toNatClampNeg)), .second] [(.long ((own_ten r9.toNatClampNeg) * (10 : Int64))), (.long j6)])) tg
          refine own_lrem X2.here hx rfl (hb hby at_115) rfl (own_ten10Nz (own_Rneg hR9) hc104) ?_
          show Steps p.tables e below (T2.setTop (mkF m 116 #[.val (.long q1), .second, .val (.int p2), .val (.int p3), .val (.int p4), .val (.int i5), .val (.long j6), .second, .val (.int (p3 &&& (31 : Int32))), .val (.int r9), .val (.long (own_ten r9.toNatClampNeg)), .second] [(.long (j6 % ((own_ten r9.toNatClampNeg) * (10 : Int64))))])) tg
          refine XS.lconst X2.here hx rfl (hb hby at_116) ?_
          show Steps p.tables e below (T2.setTop (mkF m 117 #[.val (.long q1), .second, .val (.int p2), .val (.int p3), .val (.int p4), .val (.int i5), .val (.long j6), .second, .val (.int (p3 &&& (31 : Int32))), .val (.int r9), .val (.long (own_ten r9.toNatClampNeg)), .second] [(.long (0 : Int64)), (.long (j6 % ((own_ten r9.toNatClampNeg) * (10 : Int64))))])) tg
          refine XS.lcmp X2.here hx rfl (hb hby at_117) rfl ?_
          exact kt
        have hc118 : ¬ ((j6 % ((own_ten r9.toNatClampNeg) * (10 : Int64))) = (0 : Int64)) := own_Rlast hR9 hc97 hc104
        refine own_seg (T' := T2) (g' := (mkF m 123 #[.val (.long q1), .second, .val (.int p2), .val (.int p3), .val (.int p4), .val (.int i5), .val (.long j6), .second, .val (.int (p3 &&& (31 : Int32))), .val (.int r9), .val (.long (own_ten r9.toNatClampNeg)), .second] [])) (fun tg kt => XS.ifYes X2.here hx rfl (pc0 := 118) (pc' := 123) rfl (hb hby at_118) rfl ((if0 _ _).trans (feq (fun q_ => hc118 ((lw_eq _ _).mp q_))).2) (by decide) (by decide) kt) ?_
        refine own_seg (T' := T2) (g' := (mkF m 124 #[.val (.long q1), .second, .val (.int p2), .val (.int p3), .val (.int p4), .val (.int i5), .val (.long j6), .second, .val (.int (p3 &&& (31 : Int32))), .val (.int r9), .val (.long (own_ten r9.toNatClampNeg)), .second] [(.int (1 : Int32))])) (fun tg kt => ?_) ?_
        · show Steps p.tables e below (T2.setTop (mkF m 123 #[.val (.long q1), .second, .val (.int p2), .val (.int p3), .val (.int p4), .val (.int i5), .val (.long j6), .second, .val (.int (p3 &&& (31 : Int32))), .val (.int r9), .val (.long (own_ten r9.toNatClampNeg)), .second] [])) tg
          refine XS.iconst X2.here hx rfl (hb hby at_123) ?_
          exact kt
        exact own_retN K (by simp) X2 at_124 (⟨rfl, N2⟩) (by decide) (by decide)
      · skip
        refine own_seg (T' := T2) (g' := (mkF m 123 #[.val (.long q1), .second, .val (.int p2), .val (.int p3), .val (.int p4), .val (.int i5), .val (.long j6), .second, .val (.int (p3 &&& (31 : Int32))), .val (.int r9), .val (.long (own_ten r9.toNatClampNeg)), .second] [])) (fun tg kt => XS.icmpYes X2.here hx rfl (pc0 := 104) (pc' := 123) rfl (hb hby at_104) rfl (flt hc104).2.1 (by decide) (by decide) kt) ?_
        refine own_seg (T' := T2) (g' := (mkF m 124 #[.val (.long q1), .second, .val (.int p2), .val (.int p3), .val (.int p4), .val (.int i5), .val (.long j6), .second, .val (.int (p3 &&& (31 : Int32))), .val (.int r9), .val (.long (own_ten r9.toNatClampNeg)), .second] [(.int (1 : Int32))])) (fun tg kt => ?_) ?_
        · show Steps p.tables e below (T2.setTop (mkF m 123 #[.val (.long q1), .second, .val (.int p2), .val (.int p3), .val (.int p4), .val (.int i5), .val (.long j6), .second, .val (.int (p3 &&& (31 : Int32))), .val (.int r9), .val (.long (own_ten r9.toNatClampNeg)), .second] [])) tg
          refine XS.iconst X2.here hx rfl (hb hby at_123) ?_
          exact kt
        exact own_retN K (by simp) X2 at_124 (⟨rfl, N2⟩) (by decide) (by decide)
    · skip
      refine own_seg (T' := T2) (g' := (mkF m 123 #[.val (.long q1), .second, .val (.int p2), .val (.int p3), .val (.int p4), .val (.int i5), .val (.long j6), .second, .val (.int (p3 &&& (31 : Int32))), .val (.int r9), .val (.long (own_ten r9.toNatClampNeg)), .second] [])) (fun tg kt => XS.icmpYes X2.here hx rfl (pc0 := 97) (pc' := 123) rfl (hb hby at_97) rfl (flt hc97).2.1 (by decide) (by decide) kt) ?_
      refine own_seg (T' := T2) (g' := (mkF m 124 #[.val (.long q1), .second, .val (.int p2), .val (.int p3), .val (.int p4), .val (.int i5), .val (.long j6), .second, .val (.int (p3 &&& (31 : Int32))), .val (.int r9), .val (.long (own_ten r9.toNatClampNeg)), .second] [(.int (1 : Int32))])) (fun tg kt => ?_) ?_
      · show Steps p.tables e below (T2.setTop (mkF m 123 #[.val (.long q1), .second, .val (.int p2), .val (.int p3), .val (.int p4), .val (.int i5), .val (.long j6), .second, .val (.int (p3 &&& (31 : Int32))), .val (.int r9), .val (.long (own_ten r9.toNatClampNeg)), .second] [])) tg
        refine XS.iconst X2.here hx rfl (hb hby at_123) ?_
        exact kt
      exact own_retN K (by simp) X2 at_124 (⟨rfl, N2⟩) (by decide) (by decide)
theorem own_pn0 : plainName "com/example/rounder/rounder/LongDigitsZerosEndingPinLaw" = true := by first | (simp [plainName, overriddenIn]; done) | decide +kernel
set_option maxRecDepth 65536 in
set_option maxHeartbeats 40000000 in
theorem rm0 (l : Launch) (Z : State) (a0 : Array Value) (hw : ∀ d ∈ tables_1, d.before a0 Z = true) (q1 : Int64) (p2 p3 p4 : Int32) (t : Addr) (h0 : Heap) (n0 : Nat) (Z0 : n0 ≤ h0.size) (hT : own_Tens Z h0 t) :
    own_Met l Z x code maxLocals ret room_1 #[(.long q1), (.int p2), (.int p3), (.int p4)] h0 (own_Q1 n0) := by
  refine own_enter (plainFor_of_name own_pn0) (fun m => by first | rfl | (simp [entryFrame, mkF, argsToLocals, Value.category, maxLocals]; done)) (Ls := #[.val (.long q1), .second, .val (.int p2), .val (.int p3), .val (.int p4), .unset, .unset, .unset, .unset, .unset, .unset, .unset]) ?_
  intro p e s m below meth c T0 K X0 e0
  have hx := K.1
  have hZ := K.2.1
  have hby := K.2.2.1
  have hown := K.2.2.2.2.1
  have N0 := Fr.nil n0
  show own_Fin p e below _ T0 (mkF m 0 #[.val (.long q1), .second, .val (.int p2), .val (.int p3), .val (.int p4), .unset, .unset, .unset, .unset, .unset, .unset, .unset] [])
  refine own_seg (T' := T0) (g' := (mkF m 13 #[.val (.long q1), .second, .val (.int p2), .val (.int p3), .val (.int p4), .val (.int ((p2 &&& (2147483647 : Int32)) % (19 : Int32))), .unset, .unset, .unset, .unset, .unset, .unset] [(.int (p4 &&& (1 : Int32)))])) (fun tg kt => ?_) ?_
  · show Steps p.tables e below (T0.setTop (mkF m 0 #[.val (.long q1), .second, .val (.int p2), .val (.int p3), .val (.int p4), .unset, .unset, .unset, .unset, .unset, .unset, .unset] [])) tg
    refine XS.iloadN X0.here hx rfl (hb hby at_0) rfl ?_
    show Steps p.tables e below (T0.setTop (mkF m 1 #[.val (.long q1), .second, .val (.int p2), .val (.int p3), .val (.int p4), .unset, .unset, .unset, .unset, .unset, .unset, .unset] [(.int p2)])) tg
    refine X0.ldcInt hx hown (mvT hZ (hw _ (List.mem_of_getElem? (i := 0) rfl))) (g := (mkF m 1 #[.val (.long q1), .second, .val (.int p2), .val (.int p3), .val (.int p4), .unset, .unset, .unset, .unset, .unset, .unset, .unset] [(.int p2)])) rfl (hb hby at_1) _ ?_
    show Steps p.tables e below (T0.setTop (mkF m 3 #[.val (.long q1), .second, .val (.int p2), .val (.int p3), .val (.int p4), .unset, .unset, .unset, .unset, .unset, .unset, .unset] [(.int (2147483647 : Int32)), (.int p2)])) tg
    refine XS.iand X0.here hx rfl (hb hby at_3) rfl ?_
    show Steps p.tables e below (T0.setTop (mkF m 4 #[.val (.long q1), .second, .val (.int p2), .val (.int p3), .val (.int p4), .unset, .unset, .unset, .unset, .unset, .unset, .unset] [(.int (p2 &&& (2147483647 : Int32)))])) tg
    refine XS.bipush X0.here hx rfl (hb hby at_4) ?_
    show Steps p.tables e below (T0.setTop (mkF m 6 #[.val (.long q1), .second, .val (.int p2), .val (.int p3), .val (.int p4), .unset, .unset, .unset, .unset, .unset, .unset, .unset] [(.int (19 : Int32)), (.int (p2 &&& (2147483647 : Int32)))])) tg
    refine iremM X0 hx rfl (hb hby at_6) rfl (by decide) ?_
    show Steps p.tables e below (T0.setTop (mkF m 7 #[.val (.long q1), .second, .val (.int p2), .val (.int p3), .val (.int p4), .unset, .unset, .unset, .unset, .unset, .unset, .unset] [(.int ((p2 &&& (2147483647 : Int32)) % (19 : Int32)))])) tg
    refine XS.istore X0.here hx rfl (hb hby at_7) rfl (l' := #[.val (.long q1), .second, .val (.int p2), .val (.int p3), .val (.int p4), .val (.int ((p2 &&& (2147483647 : Int32)) % (19 : Int32))), .unset, .unset, .unset, .unset, .unset, .unset]) rfl ?_
    show Steps p.tables e below (T0.setTop (mkF m 9 #[.val (.long q1), .second, .val (.int p2), .val (.int p3), .val (.int p4), .val (.int ((p2 &&& (2147483647 : Int32)) % (19 : Int32))), .unset, .unset, .unset, .unset, .unset, .unset] [])) tg
    refine XS.iload X0.here hx rfl (hb hby at_9) rfl ?_
    show Steps p.tables e below (T0.setTop (mkF m 11 #[.val (.long q1), .second, .val (.int p2), .val (.int p3), .val (.int p4), .val (.int ((p2 &&& (2147483647 : Int32)) % (19 : Int32))), .unset, .unset, .unset, .unset, .unset, .unset] [(.int p4)])) tg
    refine XS.iconst X0.here hx rfl (hb hby at_11) ?_
    show Steps p.tables e below (T0.setTop (mkF m 12 #[.val (.long q1), .second, .val (.int p2), .val (.int p3), .val (.int p4), .val (.int ((p2 &&& (2147483647 : Int32)) % (19 : Int32))), .unset, .unset, .unset, .unset, .unset, .unset] [(.int (1 : Int32)), (.int p4)])) tg
    refine XS.iand X0.here hx rfl (hb hby at_12) rfl ?_
    exact kt
  by_cases hc13 : (p4 &&& (1 : Int32)) = (0 : Int32)
  · skip
    refine own_seg (T' := T0) (g' := (mkF m 20 #[.val (.long q1), .second, .val (.int p2), .val (.int p3), .val (.int p4), .val (.int ((p2 &&& (2147483647 : Int32)) % (19 : Int32))), .unset, .unset, .unset, .unset, .unset, .unset] [])) (fun tg kt => XS.ifYes X0.here hx rfl (pc0 := 13) (pc' := 20) rfl (hb hby at_13) rfl ((if0 _ _).trans (teq hc13).1) (by decide) (by decide) kt) ?_
    refine own_seg (T' := T0) (g' := (mkF m 23 #[.val (.long q1), .second, .val (.int p2), .val (.int p3), .val (.int p4), .val (.int ((p2 &&& (2147483647 : Int32)) % (19 : Int32))), .unset, .unset, .unset, .unset, .unset, .unset] [(.int ((p2 &&& (2147483647 : Int32)) % (19 : Int32))), (.long q1)])) (fun tg kt => ?_) ?_
    · show Steps p.tables e below (T0.setTop (mkF m 20 #[.val (.long q1), .second, .val (.int p2), .val (.int p3), .val (.int p4), .val (.int ((p2 &&& (2147483647 : Int32)) % (19 : Int32))), .unset, .unset, .unset, .unset, .unset, .unset] [])) tg
      refine XS.lloadN X0.here hx rfl (hb hby at_20) rfl ?_
      show Steps p.tables e below (T0.setTop (mkF m 21 #[.val (.long q1), .second, .val (.int p2), .val (.int p3), .val (.int p4), .val (.int ((p2 &&& (2147483647 : Int32)) % (19 : Int32))), .unset, .unset, .unset, .unset, .unset, .unset] [(.long q1)])) tg
      refine XS.iload X0.here hx rfl (hb hby at_21) rfl ?_
      exact kt
    refine own_callS K X0 e0 (rm1 l Z a0 hw ((p2 &&& (2147483647 : Int32)) % (19 : Int32)) t h0 n0 Z0 hT own_k.1 own_k.2) (hw _ (List.mem_of_getElem? (i := 1) rfl)) (hw _ (List.mem_of_getElem? (i := 2) rfl)) (hw _ (List.mem_of_getElem? (i := 3) rfl)) (hw _ (List.mem_of_getElem? (i := 4) rfl)) (by decide) [(.int ((p2 &&& (2147483647 : Int32)) % (19 : Int32)))] [(.long q1)] own_pd1 rfl rfl rfl rfl at_23 (by decide) (Nat.le_of_ble_eq_true rfl) (by decide) (by decide) ?_
    intro T1 L1 v1 X1 hQ1
    obtain ⟨rfl, Nq1, e1⟩ := hQ1
    have N1 := Fr.app N0 Nq1
    show own_Fin p e below _ T1 (mkF m 26 #[.val (.long q1), .second, .val (.int p2), .val (.int p3), .val (.int p4), .val (.int ((p2 &&& (2147483647 : Int32)) % (19 : Int32))), .unset, .unset, .unset, .unset, .unset, .unset] [(.long (own_ten (((p2 &&& (2147483647 : Int32)) % (19 : Int32))).toNatClampNeg)), (.long q1)])
    refine own_seg (T' := T1) (g' := (mkF m 29 #[.val (.long q1), .second, .val (.int p2), .val (.int p3), .val (.int p4), .val (.int ((p2 &&& (2147483647 : Int32)) % (19 : Int32))), .val (.long (q1 * (own_ten (((p2 &&& (2147483647 : Int32)) % (19 : Int32))).toNatClampNeg))), .second, .unset, .unset, .unset, .unset] [])) (fun tg kt => ?_) ?_
    · show Steps p.tables e below (T1.setTop (mkF m 26 #[.val (.long q1), .second, .val (.int p2), .val (.int p3), .val (.int p4), .val (.int ((p2 &&& (2147483647 : Int32)) % (19 : Int32))), .unset, .unset, .unset, .unset, .unset, .unset] [(.long (own_ten (((p2 &&& (2147483647 : Int32)) % (19 : Int32))).toNatClampNeg)), (.long q1)])) tg
      refine XS.lmul X1.here hx rfl (hb hby at_26) rfl ?_
      show Steps p.tables e below (T1.setTop (mkF m 27 #[.val (.long q1), .second, .val (.int p2), .val (.int p3), .val (.int p4), .val (.int ((p2 &&& (2147483647 : Int32)) % (19 : Int32))), .unset, .unset, .unset, .unset, .unset, .unset] [(.long (q1 * (own_ten (((p2 &&& (2147483647 : Int32)) % (19 : Int32))).toNatClampNeg)))])) tg
      refine XS.lstore X1.here hx rfl (hb hby at_27) rfl (l' := #[.val (.long q1), .second, .val (.int p2), .val (.int p3), .val (.int p4), .val (.int ((p2 &&& (2147483647 : Int32)) % (19 : Int32))), .val (.long (q1 * (own_ten (((p2 &&& (2147483647 : Int32)) % (19 : Int32))).toNatClampNeg))), .second, .unset, .unset, .unset, .unset]) rfl ?_
      exact kt
    exact sg0_29 hw q1 p2 p3 p4 ((p2 &&& (2147483647 : Int32)) % (19 : Int32)) (q1 * (own_ten (((p2 &&& (2147483647 : Int32)) % (19 : Int32))).toNatClampNeg)) t K X1 e1 N1 Z0 hT
  · skip
    refine own_seg (T' := T0) (g' := (mkF m 16 #[.val (.long q1), .second, .val (.int p2), .val (.int p3), .val (.int p4), .val (.int ((p2 &&& (2147483647 : Int32)) % (19 : Int32))), .unset, .unset, .unset, .unset, .unset, .unset] [])) (fun tg kt => XS.ifNo X0.here hx rfl (hb hby at_13) rfl ((if0 _ _).trans (feq hc13).1) kt) ?_
    refine own_seg (T' := T0) (g' := (mkF m 29 #[.val (.long q1), .second, .val (.int p2), .val (.int p3), .val (.int p4), .val (.int ((p2 &&& (2147483647 : Int32)) % (19 : Int32))), .val (.long q1), .second, .unset, .unset, .unset, .unset] [])) (fun tg kt => ?_) ?_
    · show Steps p.tables e below (T0.setTop (mkF m 16 #[.val (.long q1), .second, .val (.int p2), .val (.int p3), .val (.int p4), .val (.int ((p2 &&& (2147483647 : Int32)) % (19 : Int32))), .unset, .unset, .unset, .unset, .unset, .unset] [])) tg
      refine XS.lloadN X0.here hx rfl (hb hby at_16) rfl ?_
      show Steps p.tables e below (T0.setTop (mkF m 17 #[.val (.long q1), .second, .val (.int p2), .val (.int p3), .val (.int p4), .val (.int ((p2 &&& (2147483647 : Int32)) % (19 : Int32))), .unset, .unset, .unset, .unset, .unset, .unset] [(.long q1)])) tg
      refine XS.goto X0.here hx rfl (pc0 := 17) (pc' := 27) rfl (hb hby at_17) (by decide) (by decide) ?_
      show Steps p.tables e below (T0.setTop (mkF m 27 #[.val (.long q1), .second, .val (.int p2), .val (.int p3), .val (.int p4), .val (.int ((p2 &&& (2147483647 : Int32)) % (19 : Int32))), .unset, .unset, .unset, .unset, .unset, .unset] [(.long q1)])) tg
      refine XS.lstore X0.here hx rfl (hb hby at_27) rfl (l' := #[.val (.long q1), .second, .val (.int p2), .val (.int p3), .val (.int p4), .val (.int ((p2 &&& (2147483647 : Int32)) % (19 : Int32))), .val (.long q1), .second, .unset, .unset, .unset, .unset]) rfl ?_
      exact kt
    exact sg0_29 hw q1 p2 p3 p4 ((p2 &&& (2147483647 : Int32)) % (19 : Int32)) q1 t K X0 e0 N0 Z0 hT
set_option maxRecDepth 65536 in
set_option maxHeartbeats 40000000 in
theorem own_comes {Post : Tables → Env → Array Value → State → Outcome → State → Prop} (hpost : ∀ tb e args s v u, (limb_1_1.after args s (.returned v) u = true ∧ limb_1_2.after args s (.returned v) u = true) → FrameEnd s (.returned v) u (Jvm.fieldLocs frame_1_writes args s ++ Jvm.arrayLocs frame_1_arrays args s ++ Jvm.staticLocs frame_1_statics s) 0 0 → Post tb e args s (.returned v) u) :
    ArmFor flags0 classFile x code maxLocals ret World_1 tables_1 room_1 Calls_1 rest_1 Pre_1 Post := by
  intro l hfl _ _ p e ha hc hk s m args below hf hA hF happ hP
  obtain ⟨hcalls, hrest, hpre⟩ := hP
  obtain ⟨-, -, -, hnamed, -, -, -, hat⟩ := (Spec.applies_iff hf).mp happ
  obtain ⟨hg, hn⟩ := and_e (Cond.before_iff.mp (show (Jvm.Cond.and given_1 narrow_1).before args s = true from hpre))
  obtain ⟨q1, q2⟩ := and_e hg
  obtain ⟨q3, q4⟩ := and_e q2
  obtain ⟨q5, q6⟩ := and_e q4
  obtain ⟨q7, q8⟩ := and_e q6
  obtain ⟨w0, w1, w2, w3, rfl⟩ : ∃ w0 w1 w2 w3 : Value, args = #[w0, w1, w2, w3] := by
    have hs : args.size = 4 := by simpa [Cond.value, given_1] using q1
    obtain ⟨L⟩ := args
    match L, hs with
    | [w0, w1, w2, w3], _ => exact ⟨w0, w1, w2, w3, rfl⟩
  have hw := fun d (hd : d ∈ tables_1) => atoms_spec (ws := Jvm.Cond.code x code maxLocals ret :: tables_1) hat d (List.mem_cons_of_mem _ hd)
  obtain ⟨i0, ei0⟩ := isL_v q3
  obtain rfl : w0 = (.long i0) := Option.some.inj ei0
  obtain ⟨i1, ei1⟩ := is_v q5
  obtain rfl : w1 = (.int i1) := Option.some.inj ei1
  obtain ⟨i2, ei2⟩ := is_v q7
  obtain rfl : w2 = (.int i2) := Option.some.inj ei2
  obtain ⟨i3, ei3⟩ := is_v q8
  obtain rfl : w3 = (.int i3) := Option.some.inj ei3
  obtain ⟨m0, r0⟩ := and_e hn
  obtain ⟨m1, r1⟩ := and_e r0
  obtain ⟨m2, r2⟩ := and_e r1
  obtain ⟨m3, r3⟩ := and_e r2
  obtain ⟨m4, r4⟩ := and_e r3
  obtain ⟨m5, r5⟩ := and_e r4
  obtain ⟨m6, r6⟩ := and_e r5
  obtain ⟨m7, r7⟩ := and_e r6
  obtain ⟨m8, r8⟩ := and_e r7
  obtain ⟨m9, r9⟩ := and_e r8
  obtain ⟨m10, r10⟩ := and_e r9
  obtain ⟨m11, r11⟩ := and_e r10
  obtain ⟨m12, r12⟩ := and_e r11
  obtain ⟨m13, r13⟩ := and_e r12
  obtain ⟨m14, r14⟩ := and_e r13
  obtain ⟨m15, r15⟩ := and_e r14
  obtain ⟨m16, r16⟩ := and_e r15
  obtain ⟨m17, r17⟩ := and_e r16
  obtain ⟨m18, r18⟩ := and_e r17
  obtain ⟨m19, r19⟩ := and_e r18
  have m20 := r19
  obtain ⟨t, et⟩ := arr_v m0
  obtain ⟨cl, A⟩ := Arr.start et m0
  have St := Sta.start et (Or.inr ⟨(hw _ (List.mem_of_getElem? (i := 3) rfl)), (hw _ (List.mem_of_getElem? (i := 6) rfl))⟩)
  have u0 : cl.slots[0]? = some (.long 1) := own_elemJ m2 et A.1
  have u1 : cl.slots[1]? = some (.long 10) := own_elemJ m3 et A.1
  have u2 : cl.slots[2]? = some (.long 100) := own_elemJ m4 et A.1
  have u3 : cl.slots[3]? = some (.long 1000) := own_elemJ m5 et A.1
  have u4 : cl.slots[4]? = some (.long 10000) := own_elemJ m6 et A.1
  have u5 : cl.slots[5]? = some (.long 100000) := own_elemJ m7 et A.1
  have u6 : cl.slots[6]? = some (.long 1000000) := own_elemJ m8 et A.1
  have u7 : cl.slots[7]? = some (.long 10000000) := own_elemJ m9 et A.1
  have u8 : cl.slots[8]? = some (.long 100000000) := own_elemJ m10 et A.1
  have u9 : cl.slots[9]? = some (.long 1000000000) := own_elemJ m11 et A.1
  have u10 : cl.slots[10]? = some (.long 10000000000) := own_elemJ m12 et A.1
  have u11 : cl.slots[11]? = some (.long 100000000000) := own_elemJ m13 et A.1
  have u12 : cl.slots[12]? = some (.long 1000000000000) := own_elemJ m14 et A.1
  have u13 : cl.slots[13]? = some (.long 10000000000000) := own_elemJ m15 et A.1
  have u14 : cl.slots[14]? = some (.long 100000000000000) := own_elemJ m16 et A.1
  have u15 : cl.slots[15]? = some (.long 1000000000000000) := own_elemJ m17 et A.1
  have u16 : cl.slots[16]? = some (.long 10000000000000000) := own_elemJ m18 et A.1
  have u17 : cl.slots[17]? = some (.long 100000000000000000) := own_elemJ m19 et A.1
  have u18 : cl.slots[18]? = some (.long 1000000000000000000) := own_elemJ m20 et A.1
  have hT : own_Tens s s.heap t := ⟨St, cl, A, fun k hk => by
    match k, hk with
    | 0, _ => exact u0
    | 1, _ => exact u1
    | 2, _ => exact u2
    | 3, _ => exact u3
    | 4, _ => exact u4
    | 5, _ => exact u5
    | 6, _ => exact u6
    | 7, _ => exact u7
    | 8, _ => exact u8
    | 9, _ => exact u9
    | 10, _ => exact u10
    | 11, _ => exact u11
    | 12, _ => exact u12
    | 13, _ => exact u13
    | 14, _ => exact u14
    | 15, _ => exact u15
    | 16, _ => exact u16
    | 17, _ => exact u17
    | 18, _ => exact u18
    | n + 19, h => omega⟩
  obtain ⟨n, o, h1, h2, h3, _, L, rfl, ⟨rfl, N⟩, hq⟩ := rm0 l s _ hw i0 i1 i2 i3 t s.heap s.heap.size (Nat.le_refl _) hT tables_1 p e ha hc hk s m _ below hf ((Spec.applies_iff_loose hf).mp happ).1 ⟨rfl, State.Warmed39.refl s, rfl⟩ trivial
  exact ⟨n, _, h1, h2, h3, hpost _ _ _ _ _ _ ⟨Cond.after_iff.mpr rfl, Cond.after_iff.mpr (eq_i res_at (Term.int_eval (1)) rfl)⟩ ⟨hq.1, hq.2.1, (hq.2.2.sift fun y hy => Or.inr (N y hy)).mono (by decide) (by decide)⟩⟩
theorem main_1_1 : Claimed_1_1 := own_comes fun _ _ _ _ _ _ h hF => ⟨h.1, hF⟩
theorem main_1_2 : Claimed_1_2 := own_comes fun _ _ _ _ _ _ h hF => ⟨h.2, hF⟩
end Jvm.Pilot.@@N@@
namespace Jvm.Pilot.@@N@@
open Jvm Jvm.ClassFile Sem Op Lib Jvm.Free Jvm.Stand Jvm.Pilot.@@N@@.Jvm.D
/-! MADE BY PROGRAM (witnessworld.py) out of the Statement's table words and the real class files: 11 classes; the members and pool entries that the words name. The judged class is class 1, her method 1. -/
namespace start1
open Jvm.ClassFile
def u (s : String) : CpInfo := .utf8 (stringToUtf16 s)
/-- a pool by its gaps: so many unusable entries, then the entry; so many at the end -/
def gap : Nat → List CpInfo → List CpInfo
  | 0, r => r
  | n + 1, r => .unusable :: gap n r
def poolList (es : List (Nat × CpInfo)) (last : Nat) : List CpInfo := es.foldr (fun e r => gap e.1 (e.2 :: r)) (gap last [])
def pool (es : List (Nat × CpInfo)) (last : Nat) : Array CpInfo := ⟨poolList es last⟩
def fileOf (pool : Array CpInfo) (this : Nat) (attrs : Array Attribute := #[]) (ms : Array MethodInfo := #[]) (fl : Nat := 33) (sup : Nat := 0) (ifs : Array Nat := #[]) (fds : Array FieldInfo := #[]) : ClassFile where
  minorVersion := 0
  majorVersion := 65
  constantPool := pool
  accessFlags := fl
  thisClass := this
  superClass := sup
  interfaces := ifs
  fields := fds
  methods := ms
  attributes := attrs
def plain (name : String) (sup : Option ClassId) : Class where
  name := name
  kind := .ordinary
  loader := none
  accessFlags := 33
  super := sup
  interfaces := #[]
  cf := none
  fields := #[]
  methods := #[]
  instanceTypes := #[]
  staticTypes := #[]
  resolved := #[]
  callSites := []
  init := .initialized
  statics := none
  mirror := none

def pool0 : Array CpInfo := pool [(5, u "<init>"), (0, u "()V"), (1, .class_ 10), (1, u "java/lang/Object")] 113

def k0m0 : Method := { name := "<init>", desc := "()V", sig := { parameters := [], returnType := none }, accessFlags := 1, code := none }
/-- java/lang/Object -/
def k0 : Class := { plain "java/lang/Object" none with
  accessFlags := 33
  interfaces := #[]
  cf := some (fileOf pool0 8 #[] #[{ accessFlags := 1, nameIndex := 5, descriptorIndex := 6, attributes := #[] }] 33 0 #[] #[])
  fields := #[]
  methods := #[k0m0]
  instanceTypes := #[]
  staticTypes := #[]
  resolved := Array.replicate 124 none
  statics := none }

def pool1 : Array CpInfo := pool [(2, .class_ 4), (1, u "java/lang/Object"), (0, u "<init>"), (0, u "()V"), (0, .integer 2147483647), (0, .methodref 9 10), (0, .class_ 11), (0, .nameAndType 12 13), (0, u "com/example/rounder/rounder/LongDigits"), (0, u "tenTo"), (0, u "(I)J"), (0, .methodref 9 15), (0, .nameAndType 16 17), (0, u "zerosEnding"), (0, u "(JI)I"), (0, .long 10), (1, .class_ 21), (0, u "com/example/rounder/rounder/LongDigitsZerosEndingPinLaw"), (2, u "law"), (0, u "(JIII)Z")] 3

def k1m0 : Method := { name := "<init>", desc := "()V", sig := { parameters := [], returnType := none }, accessFlags := 2, code := none }
def k1c1 : Code := { maxStack := 6, maxLocals := 12, code := code, exceptionTable := #[], attributes := #[] }
def k1m1 : Method := { name := "law", desc := "(JIII)Z", sig := { parameters := [.long, .int, .int, .int], returnType := some .boolean }, accessFlags := 9, code := some k1c1 }
/-- com/example/rounder/rounder/LongDigitsZerosEndingPinLaw -/
def k1 : Class := { plain "com/example/rounder/rounder/LongDigitsZerosEndingPinLaw" (some 0) with
  accessFlags := 49
  interfaces := #[]
  cf := some (fileOf pool1 20 #[] #[{ accessFlags := 2, nameIndex := 5, descriptorIndex := 6, attributes := #[] }, { accessFlags := 9, nameIndex := 24, descriptorIndex := 25, attributes := #[] }] 49 2 #[] #[])
  fields := #[]
  methods := #[k1m0, k1m1]
  instanceTypes := #[]
  staticTypes := #[]
  resolved := Array.replicate 29 none
  statics := none }

def pool2 : Array CpInfo := pool [(4, .class_ 6), (1, u "java/lang/Object"), (0, u "<init>"), (0, u "()V"), (0, .fieldref 10 11), (0, .class_ 12), (0, .nameAndType 13 14), (0, u "com/example/rounder/rounder/LongDigits"), (0, u "TENS"), (0, u "[J"), (4, .long 10), (8, u "(I)J"), (5, u "BLOCK"), (0, u "Ljava/lang/invoke/VarHandle;"), (14, u "HALF_BLOCK"), (41, u "MAX_PLACES"), (0, u "I"), (2, u "FIELD"), (1, u "INT_FIELD"), (1, u "EIGHT"), (1, u "EIGHT_PLACES"), (0, u "SIXTEEN_PLACES"), (0, u "J"), (0, u "ZEROS"), (2, u "tenTo"), (1, u "zerosEnding"), (0, u "(JI)I")] 9

def k2m0 : Method := { name := "<init>", desc := "()V", sig := { parameters := [], returnType := none }, accessFlags := 2, code := none }
def k2c1 : Code := { maxStack := 2, maxLocals := 1, code := prog_30_method_2_code, exceptionTable := #[], attributes := #[] }
def k2m1 : Method := { name := "tenTo", desc := "(I)J", sig := { parameters := [.int], returnType := some .long }, accessFlags := 8, code := some k2c1 }
def k2c2 : Code := { maxStack := 4, maxLocals := 6, code := prog_30_method_4_code, exceptionTable := #[], attributes := #[] }
def k2m2 : Method := { name := "zerosEnding", desc := "(JI)I", sig := { parameters := [.long, .int], returnType := some .int }, accessFlags := 8, code := some k2c2 }
/-- com/example/rounder/rounder/LongDigits -/
def k2 : Class := { plain "com/example/rounder/rounder/LongDigits" (some 0) with
  accessFlags := 48
  interfaces := #[]
  cf := some (fileOf pool2 10 #[] #[{ accessFlags := 2, nameIndex := 7, descriptorIndex := 8, attributes := #[] }, { accessFlags := 8, nameIndex := 108, descriptorIndex := 28, attributes := #[] }, { accessFlags := 8, nameIndex := 110, descriptorIndex := 111, attributes := #[] }] 48 4 #[] #[{ accessFlags := 24, nameIndex := 92, descriptorIndex := 93, attributes := #[] }, { accessFlags := 24, nameIndex := 96, descriptorIndex := 93, attributes := #[] }, { accessFlags := 24, nameIndex := 98, descriptorIndex := 93, attributes := #[] }, { accessFlags := 26, nameIndex := 100, descriptorIndex := 93, attributes := #[] }, { accessFlags := 26, nameIndex := 102, descriptorIndex := 93, attributes := #[] }, { accessFlags := 26, nameIndex := 103, descriptorIndex := 104, attributes := #[] }, { accessFlags := 26, nameIndex := 105, descriptorIndex := 104, attributes := #[] }, { accessFlags := 26, nameIndex := 34, descriptorIndex := 35, attributes := #[] }, { accessFlags := 26, nameIndex := 50, descriptorIndex := 35, attributes := #[] }, { accessFlags := 26, nameIndex := 13, descriptorIndex := 14, attributes := #[] }])
  fields := #[{ name := "MAX_PLACES", type := .int, accessFlags := 24, slot := 0, constantValue := 0 }, { name := "FIELD", type := .int, accessFlags := 24, slot := 1, constantValue := 0 }, { name := "INT_FIELD", type := .int, accessFlags := 24, slot := 2, constantValue := 0 }, { name := "EIGHT", type := .int, accessFlags := 26, slot := 3, constantValue := 0 }, { name := "EIGHT_PLACES", type := .int, accessFlags := 26, slot := 4, constantValue := 0 }, { name := "SIXTEEN_PLACES", type := .long, accessFlags := 26, slot := 5, constantValue := 0 }, { name := "ZEROS", type := .long, accessFlags := 26, slot := 6, constantValue := 0 }, { name := "BLOCK", type := (.object "java/lang/invoke/VarHandle"), accessFlags := 26, slot := 7, constantValue := 0 }, { name := "HALF_BLOCK", type := (.object "java/lang/invoke/VarHandle"), accessFlags := 26, slot := 8, constantValue := 0 }, { name := "TENS", type := (.array .long), accessFlags := 26, slot := 9, constantValue := 0 }]
  methods := #[k2m0, k2m1, k2m2]
  instanceTypes := #[]
  staticTypes := #[.int, .int, .int, .int, .int, .long, .long, (.object "java/lang/invoke/VarHandle"), (.object "java/lang/invoke/VarHandle"), (.array .long)]
  resolved := Array.replicate 121 none
  statics := some 0 }

def pool3 : Array CpInfo := pool [(1, u "java/lang/Cloneable"), (0, .class_ 1), (0, u "java/lang/Object"), (0, .class_ 3)] 3

/-- java/lang/Cloneable -/
def k3 : Class := { plain "java/lang/Cloneable" (some 0) with
  accessFlags := 1537
  interfaces := #[]
  cf := some (fileOf pool3 2 #[] #[] 1537 4 #[] #[])
  fields := #[]
  methods := #[]
  instanceTypes := #[]
  staticTypes := #[]
  resolved := Array.replicate 8 none
  statics := none }

def pool4 : Array CpInfo := pool [(1, u "java/io/Serializable"), (0, .class_ 1), (0, u "java/lang/Object"), (0, .class_ 3)] 3

/-- java/io/Serializable -/
def k4 : Class := { plain "java/io/Serializable" (some 0) with
  accessFlags := 1537
  interfaces := #[]
  cf := some (fileOf pool4 2 #[] #[] 1537 4 #[] #[])
  fields := #[]
  methods := #[]
  instanceTypes := #[]
  staticTypes := #[]
  resolved := Array.replicate 8 none
  statics := none }

/-- the primitive byte -/
def k5 : Class := { plain "byte" none with kind := .primitive 'B', accessFlags := 0x411 }
/-- [B -/
def k6 : Class := { plain "[B" (some 0) with kind := .array 5 .byte, interfaces := #[3, 4], accessFlags := 1041 }

/-- the primitive int -/
def k7 : Class := { plain "int" none with kind := .primitive 'I', accessFlags := 0x411 }
/-- [I -/
def k8 : Class := { plain "[I" (some 0) with kind := .array 7 .int, interfaces := #[3, 4], accessFlags := 1041 }

/-- the primitive long -/
def k9 : Class := { plain "long" none with kind := .primitive 'J', accessFlags := 0x411 }
/-- [J -/
def k10 : Class := { plain "[J" (some 0) with kind := .array 9 .long, interfaces := #[3, 4], accessFlags := 1041 }

def heap : Heap := #[{ cls := 2, slots := #[.int 0, .int 0, .int 0, .int 0, .int 0, .long 0, .long 0, .null, .null, .ref 1], vm := .statics 2 },
  { cls := 10, slots := #[.long 1, .long 10, .long 100, .long 1000, .long 10000, .long 100000, .long 1000000, .long 10000000, .long 100000000, .long 1000000000, .long 10000000000, .long 100000000000, .long 1000000000000, .long 10000000000000, .long 100000000000000, .long 1000000000000000, .long 10000000000000000, .long 100000000000000000, .long 1000000000000000000], vm := .none }]
def classes : Array Class := #[k0, k1, k2, k3, k4, k5, k6, k7, k8, k9, k10]
def interned : List (Array UInt16 × Addr) := []
def slotsUsed : Nat := 29
def theMethod : MethodId := ⟨1, 1⟩
def args0 : Array Value := #[.long 5, .int 3, .int 4, .int 1]
def aboutOver (below : List Frame) : State where
  vm := { classes := classes, interned := interned.toArray }
  heap := heap
  slotsUsed := slotsUsed
  threads := #[{ frames := .invoking theMethod args0 :: below }]
def below0 : List Frame := [.native { method := ⟨0, 0⟩, args := #[] }]
def about1 : State := aboutOver below0
def p0 : Program := .bare "" "" ""
def e0 : Env := launch0.env 0 0 0
theorem w_frames : about1.frames = Frame.invoking theMethod args0 :: below0 := rfl
set_option maxRecDepth 65536 in
theorem w_args : argsFit about1.vm theMethod args0 = true := by decide +kernel
set_option maxRecDepth 65536 in
theorem w_heap : heapFits about1 = true := by decide +kernel
set_option maxRecDepth 65536 in
theorem w_runnable : about1.curStatus? = some .runnable := by decide +kernel
set_option maxRecDepth 65536 in
theorem w_alone : about1.alone = true := by decide +kernel
set_option maxRecDepth 65536 in
theorem w_named : about1.methodNamed? x = some theMethod := by decide +kernel
set_option maxRecDepth 65536 in
theorem w_hears : about1.hears theMethod below0 = true := by decide +kernel
set_option maxRecDepth 65536 in
theorem w_ripe : about1.ripe theMethod args0 below0 = true := by decide +kernel
theorem w_running : about1.status = .running := rfl
set_option maxRecDepth 65536 in
theorem w_room : about1.hasRoom e0.platform room_1 = true :=
  launch0.hasRoom_least _ room_1 (by decide +kernel) (by decide +kernel) (by decide +kernel) (by decide +kernel) (by decide +kernel) (by decide +kernel)
theorem allAtoms_all (ts : List Jvm.Cond) (a : Array Jvm.Value) (st : Jvm.State) : (allAtoms ts).before a st = ts.all (fun c => c.before a st) := by
  induction ts with
  | nil => rfl
  | cons c t ih =>
    show (Jvm.Cond.and c (allAtoms t)).before a st = _
    rw [Jvm.Cond.before_and, ih, List.all_cons]
def words1 : List Jvm.Cond := Jvm.Cond.code x code maxLocals ret :: tables_1
/-- a 'code' word, met by the world's own term for the bytes: nothing is compared byte by byte -/
theorem code_word {y : MethodName} {bytes : ByteArray} {mx : Nat} {rt : Option FieldType} {a : Array Value} {s : State} {m : MethodId} {meth : Method} {c : Code} (h1 : s.methodNamed? y = some m) (h2 : s.vm.method? m = some meth) (h3 : meth.code = some c) (h4 : c.code = bytes)
    (h5 : (c.maxLocals == mx && c.exceptionTable.isEmpty && decide (c.maxStack ≤ mostOperands) && decide (meth.sig.returnType = rt) && !meth.locks && decide (parseMethodDescriptor y.desc = some meth.sig)) = true) : (Jvm.Cond.code y bytes mx rt).before a s = true := by
  simp only [Bool.and_eq_true, beq_iff_eq, Bool.not_eq_true', decide_eq_true_eq] at h5
  obtain ⟨⟨⟨⟨⟨g1, g2⟩, g3⟩, g4⟩, g5⟩, g6⟩ := h5
  simp [Cond.before, Cond.holds, Cond.value, h1, h2, h3, h4, g1, g2, g3, g4, g5, g6]
def isCode : Jvm.Cond → Bool
  | .code _ _ _ _ => true
  | _ => false
theorem all_split {L : List Jvm.Cond} {P : Jvm.Cond → Bool} (h1 : L.all (fun c => isCode c || P c) = true) (h2 : ∀ c ∈ L.filter isCode, P c = true) : L.all P = true := by
  refine List.all_eq_true.mpr fun c hc => ?_
  have h := List.all_eq_true.mp h1 c hc
  rcases Bool.eq_false_or_eq_true (isCode c) with hi | hi
  · exact h2 c (List.mem_filter.mpr ⟨hc, hi⟩)
  · simpa [hi] using h
set_option maxRecDepth 65536 in
theorem w_c0 : (Jvm.Cond.code x code maxLocals ret).before args0 about1 = true := code_word (m := ⟨1, 1⟩) (meth := k1m1) (c := k1c1) (by decide +kernel) rfl rfl rfl (by decide +kernel)
set_option maxRecDepth 65536 in
theorem w_c1 : (Jvm.Cond.code ({ cls := "com/example/rounder/rounder/LongDigits", name := "tenTo", desc := "(I)J" } : Jvm.MethodName) prog_30_method_2_code (1 : Nat) (Option.some Jvm.ClassFile.FieldType.long)).before args0 about1 = true := code_word (m := ⟨2, 1⟩) (meth := k2m1) (c := k2c1) (by decide +kernel) rfl rfl rfl (by decide +kernel)
set_option maxRecDepth 65536 in
theorem w_c2 : (Jvm.Cond.code ({ cls := "com/example/rounder/rounder/LongDigits", name := "zerosEnding", desc := "(JI)I" } : Jvm.MethodName) prog_30_method_4_code (6 : Nat) (Option.some Jvm.ClassFile.FieldType.int)).before args0 about1 = true := code_word (m := ⟨2, 2⟩) (meth := k2m2) (c := k2c2) (by decide +kernel) rfl rfl rfl (by decide +kernel)
def codes1 : List Jvm.Cond := [Jvm.Cond.code x code maxLocals ret, Jvm.Cond.code ({ cls := "com/example/rounder/rounder/LongDigits", name := "tenTo", desc := "(I)J" } : Jvm.MethodName) prog_30_method_2_code (1 : Nat) (Option.some Jvm.ClassFile.FieldType.long), Jvm.Cond.code ({ cls := "com/example/rounder/rounder/LongDigits", name := "zerosEnding", desc := "(JI)I" } : Jvm.MethodName) prog_30_method_4_code (6 : Nat) (Option.some Jvm.ClassFile.FieldType.int)]
set_option maxRecDepth 65536 in
theorem codes_eq : words1.filter isCode = codes1 := rfl
theorem w_codes : ∀ c ∈ words1.filter isCode, c.before args0 about1 = true := by
  rw [codes_eq]
  intro c hc
  simp only [codes1, List.mem_cons, List.not_mem_nil, or_false] at hc
  rcases hc with rfl | rfl | rfl
  · exact w_c0
  · exact w_c1
  · exact w_c2
set_option maxRecDepth 65536 in
theorem w_t1 : words1.all (fun c => isCode c || c.before args0 about1) = true := by decide +kernel
theorem w_tables : (allAtoms (Jvm.Cond.code x code maxLocals ret :: tables_1)).before args0 about1 = true := by
  rw [allAtoms_all]
  show words1.all (fun c => c.before args0 about1) = true
  refine all_split ?_ w_codes
  rw [w_t1]
set_option maxRecDepth 65536 in
theorem w_case : (Jvm.Cond.and given_1 narrow_1).before args0 about1 = true := by decide +kernel
theorem w_applies : (headSpec (Jvm.Cond.code x code maxLocals ret :: tables_1) room_1).applies x e0.platform about1 = true :=
  (Spec.applies_iff w_frames).mpr ⟨w_running, w_runnable, w_alone, w_named, w_hears, w_ripe, w_room, w_tables⟩
theorem atStart : AtStart classFile x code maxLocals ret World_1 tables_1 room_1 Calls_1 rest_1 Pre_1 launch0 p0 e0 about1 theMethod args0 below0 :=
  ⟨lists_1, trivial, launch0.admits_env _ _ _, launch0.least_env, fairChoices_fair.cas, fairChoices_fair.clock, w_frames, w_args, w_heap, w_applies, trivial, trivial, w_case⟩
end start1
theorem witness_1 : WitnessClaimed_1 := ⟨start1.p0, start1.e0, start1.about1, start1.theMethod, start1.args0, start1.below0, start1.atStart⟩
end Jvm.Pilot.@@N@@
