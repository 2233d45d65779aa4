import JvmDerived
import JvmDerived.Pilot.@@N@@Statement
import JvmDerived.Pilot.@@N@@Code
set_option linter.unusedVariables false
set_option linter.unusedSimpArgs false
namespace Jvm.RoadKit
section OwnHeaps
variable {h h' h2 hm : Heap} {ws : List Addr}
theorem Ext.oRefl (h : Heap) : Ext h h := ⟨Nat.le_refl _, fun _ _ q => q⟩
theorem Ext.oTrans (A : Ext h h') (B : Ext h' h2) : Ext h h2 := ⟨Nat.le_trans A.1 B.1, fun x c q => B.2 x c (A.2 x c q)⟩
theorem Keep.oExt (K : Keep h h' []) : Ext h h' := ⟨K.1, fun x c q => K.2.1 x c q (fun z => nomatch z)⟩
theorem Ext.oKeepOf (E : Ext h h') (ws : List Addr) : Keep h h' ws := (Keep.refl h ws).ext E
theorem Ext.oKeep (A : Ext hm h) (K : Keep h h' ws) (q : ∀ x ∈ ws, hm.size ≤ x) : Ext hm h' :=
  ⟨Nat.le_trans A.1 K.1, fun x c hx => K.2.1 x c (A.2 x c hx) fun z => absurd (Array.getElem?_eq_some_iff.mp hx).1 (Nat.not_lt.mpr (q x z))⟩
end OwnHeaps
end Jvm.RoadKit
namespace Jvm.OwnKit
open Sem ClassFile Op Lib Jvm.Stand Jvm.Free Jvm.LawKit Jvm.RoadKit Bundle
/-! the author's own layer: a walk as a chain of goals 'from this frame the body ends right' -/
/-- from this frame on the body comes to an end of which Q holds -/
def Goes (tb : Tables) (e : Env) (below : List Frame) (Q : Outcome → State → Prop) (T : State) (g : JFrame) : Prop :=
  ∃ s₂ o, Steps tb e below (T.setTop g) s₂ ∧ s₂.status = .running ∧ Ended s₂ below o ∧ Q o s₂
section Core
variable {tb : Tables} {e : Env} {below : List Frame} {Q : Outcome → State → Prop} {T T' : State} {g g' : JFrame}
theorem Goes.go (st : ∀ t, Steps tb e below (T'.setTop g') t → Steps tb e below (T.setTop g) t) (k : Goes tb e below Q T' g') : Goes tb e below Q T g := by
  obtain ⟨s₂, o, h1, h2⟩ := k
  exact ⟨s₂, o, st _ h1, h2⟩
theorem Goes.via (st : Steps tb e below (T.setTop g) (T'.setTop g')) (k : Goes tb e below Q T' g') : Goes tb e below Q T g := Goes.go (fun _ h => st.trans h) k
theorem Goes.cast {g1 : JFrame} (q : g = g1) (k : Goes tb e below Q T g1) : Goes tb e below Q T g := q ▸ k
end Core
/-! heaps -/
section Heaps
variable {Z : State} {EL : List (String × Nat)} {vm vm0 : Vm} {h h' h0 h2 hm : Heap} {ws : List Addr} {a b : Addr}
/-- safe under whatever alike tables -/
def SafeA (Z : State) (EL : List (String × Nat)) (h : Heap) (x : Addr) : Prop := ∀ vm : Vm, Z.vm.Alike vm → Safe Z EL vm h x
theorem SafeA.exa {C : String} (E : Exa Z h a C) (h1 : C ≠ "java/lang/String") (h2 : C ≠ "[B") : SafeA Z EL h a := fun _ hal => Safe.exa hal E h1 h2
theorem SafeA.arv {k : ClassId} {ty : FieldType} {z : Int32} {vs : List Value} {dv : Value} (A : Arv Z h a k ty z vs dv) (ht : ty ≠ .byte) : SafeA Z EL h a := fun _ hal => Safe.arv hal A ht
theorem SafeA.nil : SafeA Z [] h a := fun _ _ B => by obtain ⟨p, hp, -⟩ := B; cases hp
/-- how the mark goes on: it stays where only younger cells were written; or it is set anew, where what was written is younger or safe -/
def Mark (Z : State) (EL : List (String × Nat)) (hm h : Heap) (ws : List Addr) (h' hm' : Heap) : Prop :=
  (hm' = hm ∧ ∀ x ∈ ws, hm.size ≤ x) ∨ (hm' = h' ∧ ∀ x ∈ ws, hm.size ≤ x ∨ SafeA Z EL h x)
theorem Mark.stay (q : ∀ x ∈ ws, hm.size ≤ x) : Mark Z EL hm h ws h' hm := Or.inl ⟨rfl, q⟩
theorem Mark.anew (q : ∀ x ∈ ws, hm.size ≤ x ∨ SafeA Z EL h x) : Mark Z EL hm h ws h' h' := Or.inr ⟨rfl, q⟩
theorem mark_go {vs : Vm} {hs hm' : Heap} (hal : Z.vm.Alike vm0) (C : CHr Z EL vs hs vm0 hm) (E : Ext hm h) (K : Keep h h' ws) (M : Mark Z EL hm h ws h' hm') : CHr Z EL vs hs vm0 hm' ∧ Ext hm' h' := by
  rcases M with ⟨rfl, q⟩ | ⟨rfl, q⟩
  · exact ⟨C, E.oKeep K q⟩
  · have C1 := C.trans (CHr.ext E C.1)
    exact ⟨C1.trans (CHr.keep K (fun x hx => (q x hx).elim (fun y => Safe.ext E C.1 (Safe.new y)) (fun y => y _ hal)) C1.1), Ext.oRefl _⟩
end Heaps
/-! the walk -/
/-- where a walk stands: N: it may not have interned; hm: the mark (literals that the tables book lie in it); h: the heap -/
def Wk (N : Prop) (p : Program) (l : Launch) (e : Env) (R : Room) (s : State) (m : MethodId) (args : Array Value) (below : List Frame) (meth : Method) (c : Code) (Z : State) (own : String) (EL : List (String × Nat)) (hm : Heap) (T : State) (h : Heap) (cells slots : Nat) : Prop :=
  ∃ (vm0 : Vm) (locs : List Loc) (k0 : Nat), (N → vm0 = s.vm) ∧ Stand p l e R (s.setVm vm0) m args below meth c T locs cells slots ∧ T.heap = h ∧ p.tables.exec = Jvm.exec ∧ Z.Warmed39 vm0 ∧ vm0.findClass own = some m.cls ∧ Fr Z.heap.size locs ∧ s.Since vm0 k0 ∧ k0 ≤ h.size ∧ CHr Z EL s.vm s.heap vm0 hm ∧ Ext hm h ∧ Ext Z.heap h
/-- the two kinds of end -/
def EndN (Z s : State) (C S : Nat) (Qv : Option Value → Heap → Prop) (o : Outcome) (U : State) : Prop := ∃ v L, o = .returned v ∧ (Qv v U.heap ∧ Fr Z.heap.size L) ∧ FrameEnd s o U L C S
def EndS (Z s : State) (EL : List (String × Nat)) (C S : Nat) (Qv : Option Value → Heap → Prop) (o : Outcome) (U : State) : Prop := ∃ v L, o = .returned v ∧ (Qv v U.heap ∧ Fr Z.heap.size L) ∧ CHr Z EL s.vm s.heap U.vm U.heap ∧ ReturnedEndW s o U L C S
/-- a callee's contract: it interns nothing -/
def CtrN (l : Launch) (Z : State) (y : MethodName) (bytes : ByteArray) (maxL : Nat) (ret : Option FieldType) (rm : Room) (as' : Array Value) (h0 : Heap) (Qv : Option Value → Heap → Prop) : Prop :=
  ∀ ws, MetFree l y (head1 (Cond.code y bytes maxL ret :: ws) rm) (fun a U => a = as' ∧ Z.Warmed39 U.vm ∧ U.heap = h0) (fun _ _ _ _ _ => True) (fun _ U o U' => EndN Z U rm.cells rm.slots Qv o U')
/-- a callee's contract: it may intern -/
def CtrS (l : Launch) (Z : State) (EL : List (String × Nat)) (y : MethodName) (bytes : ByteArray) (maxL : Nat) (ret : Option FieldType) (rm : Room) (as' : Array Value) (h0 : Heap) (Qv : Option Value → Heap → Prop) : Prop :=
  ∀ ws, MetFree l y (head1 (Cond.code y bytes maxL ret :: ws) rm) (fun a U => a = as' ∧ Z.Warmed39 U.vm ∧ U.heap = h0 ∧ CHv Z EL U.vm h0) (fun _ _ _ _ _ => True) (fun _ U o U' => EndS Z U EL rm.cells rm.slots Qv o U')
section Walk
variable {N : Prop} {p : Program} {l : Launch} {e : Env} {R : Room} {s : State} {m : MethodId} {args : Array Value} {below : List Frame} {meth : Method} {c : Code} {Z : State} {a0 : Array Value} {own : String} {EL : List (String × Nat)} {hm : Heap} {T : State} {h : Heap} {cells slots : Nat} {Q : Outcome → State → Prop} {g : JFrame}
theorem Wk.here (X : Wk N p l e R s m args below meth c Z own EL hm T h cells slots) : At T m c below := by obtain ⟨_, _, _, _, X, _⟩ := X; exact X.here
theorem Wk.ex (X : Wk N p l e R s m args below meth c Z own EL hm T h cells slots) : p.tables.exec = Jvm.exec := by obtain ⟨_, _, _, _, _, _, q, _⟩ := X; exact q
theorem Wk.ext (X : Wk N p l e R s m args below meth c Z own EL hm T h cells slots) : Ext hm h := by obtain ⟨_, _, _, _, _, _, _, _, _, _, _, _, _, q, _⟩ := X; exact q
theorem Wk.old (X : Wk N p l e R s m args below meth c Z own EL hm T h cells slots) : Ext Z.heap h := by obtain ⟨_, _, _, _, _, _, _, _, _, _, _, _, _, _, q⟩ := X; exact q
theorem Wk.free (X : Wk N p l e R s m args below meth c Z own EL hm T h cells slots) : Wk False p l e R s m args below meth c Z own EL hm T h cells slots := by
  obtain ⟨vm0, locs, k0, _, r⟩ := X; exact ⟨vm0, locs, k0, fun q => q.elim, r⟩
/-- the mark may be set anew at any time -/
theorem Wk.mark (X : Wk N p l e R s m args below meth c Z own EL hm T h cells slots) : Wk N p l e R s m args below meth c Z own EL h T h cells slots := by
  obtain ⟨vm0, locs, k0, h1, h2, h3, h4, h5, h6, h7, h8, h9, h10, h11, h12⟩ := X
  exact ⟨vm0, locs, k0, h1, h2, h3, h4, h5, h6, h7, h8, h9, h10.trans (CHr.ext h11 h10.1), Ext.oRefl _, h12⟩
theorem Wk.mono {c' n' : Nat} (X : Wk N p l e R s m args below meth c Z own EL hm T h cells slots) (hc : cells ≤ c') (hn : slots ≤ n') : Wk N p l e R s m args below meth c Z own EL hm T h c' n' := by
  obtain ⟨vm0, locs, k0, h1, h2, r⟩ := X
  exact ⟨vm0, locs, k0, h1, h2.mono hc hn, r⟩
theorem Wk.start {s₁ : State} {h0 : Heap} (X : Stand p l e R s m args below meth c s₁ [] 0 0) (e0 : s₁.heap = h0) (es : s.heap = h0) (hx : p.tables.exec = Jvm.exec) (hZ : Z.Warmed39 s.vm) (hown : s.vm.findClass own = some m.cls) (H : CHv Z EL s.vm h0) (hO : Ext Z.heap h0) :
    Wk N p l e R s m args below meth c Z own EL h0 s₁ h0 0 0 :=
  ⟨s.vm, [], s.heap.size, fun _ => rfl, X, e0, hx, hZ, hown, Fr.nil _, (State.WarmedH.refl s).since _, by rw [es]; exact Nat.le_refl _, by rw [es]; exact CHr.refl H, Ext.oRefl _, hO⟩
/-! leaving -/
theorem Goes.outN {C S : Nat} {Qv : Option Value → Heap → Prop} (X : Wk True p l e R s m args below meth c Z own EL hm T h cells slots) {v : Option Value} (hv : meth.sig.returnType = none → v = none) (hlk : meth.locks = false)
    (st : ∀ fs, (∀ (f : JFrame) (acts : List Action), f.method = m → f.locked = none → f.entered = [] → (doReturn e (T.setTop f) acts v).1 = T.setFrames fs) → Steps p.tables e below (T.setTop g) (T.setFrames fs))
    (hq : Qv v h) (hc : cells ≤ C) (hs : slots ≤ S) : Goes p.tables e below (EndN Z s C S Qv) T g := by
  obtain ⟨vm0, locs, k0, h1, X, h3, h4, h5, h6, h7, h8, h9, h10, h11, h12⟩ := X
  obtain rfl := h1 trivial
  obtain ⟨fs, hr, hrun, hended, hW, hsame⟩ := X.leave (v := v) hv hlk
  exact ⟨_, _, st fs hr, hrun, hended, v, locs, rfl, ⟨by rw [← h3] at hq; exact hq, h7⟩, ⟨v, rfl⟩, hW, hsame.mono hc hs⟩
theorem Goes.outS {C S : Nat} {Qv : Option Value → Heap → Prop} (X : Wk N p l e R s m args below meth c Z own EL hm T h cells slots) (hEL : EW Z a0 EL) {v : Option Value} (hv : meth.sig.returnType = none → v = none) (hlk : meth.locks = false)
    (st : ∀ fs, (∀ (f : JFrame) (acts : List Action), f.method = m → f.locked = none → f.entered = [] → (doReturn e (T.setTop f) acts v).1 = T.setFrames fs) → Steps p.tables e below (T.setTop g) (T.setFrames fs))
    (hq : Qv v h) (hc : cells ≤ C) (hs : slots ≤ S) : Goes p.tables e below (EndS Z s EL C S Qv) T g := by
  obtain ⟨vm0, locs, k0, h1, X, h3, h4, h5, h6, h7, h8, h9, h10, h11, h12⟩ := X
  have h9' : k0 ≤ T.heap.size := by rw [h3]; exact h9
  obtain ⟨fs, hr, hrun, hended, r1, r2, r3, r4⟩ := X.leaveW h8 h9' (v := v) hv hlk
  have C1 := h10.trans (CHr.ext h11 h10.1)
  have C2 : CHr Z EL vm0 h T.vm h := CHv.at X h5 hEL C1.1
  refine ⟨_, _, st fs hr, hrun, hended, v, locs, rfl, ⟨by rw [← h3] at hq; exact hq, h7⟩, ?_, r1, r2, r3, r4.mono hc hs⟩
  have C3 := C1.trans C2
  rw [← h3] at C3
  exact C3
/-- the six returns; t: what is owed at the end (EndN or EndS) by outN, outS -/
theorem st_int {vm0 : Vm} {locs : List Loc} (X : Stand p l e R (s.setVm vm0) m args below meth c T locs cells slots) (hx : p.tables.exec = Jvm.exec) {pc : Nat} {Ls : Array Slot} {z : Int32} {rest : List Value} (hret : meth.sig.returnType = some .int) (hd : decode c.code pc = .ok (.ireturn, 1)) :
    ∀ fs, (∀ (f : JFrame) (acts : List Action), f.method = m → f.locked = none → f.entered = [] → (doReturn e (T.setTop f) acts (some (.int z))).1 = T.setFrames fs) → Steps p.tables e below (T.setTop (mkF m pc Ls (.int z :: rest))) (T.setFrames fs) :=
  fun fs hl => retOut X hx hret rfl (Or.inl ⟨rfl, Or.inl rfl, z, rfl⟩) hd hl
theorem Wk.rI (X : Wk N p l e R s m args below meth c Z own EL hm T h cells slots) {pc : Nat} {Ls : Array Slot} {z : Int32} {rest : List Value} (hret : meth.sig.returnType = some .int) (hd : decode c.code pc = .ok (.ireturn, 1)) :
    ∀ fs, (∀ (f : JFrame) (acts : List Action), f.method = m → f.locked = none → f.entered = [] → (doReturn e (T.setTop f) acts (some (.int z))).1 = T.setFrames fs) → Steps p.tables e below (T.setTop (mkF m pc Ls (.int z :: rest))) (T.setFrames fs) := by
  obtain ⟨vm0, locs, k0, h1, X', h3, h4, r⟩ := X
  exact fun fs hl => retOut X' h4 hret rfl (Or.inl ⟨rfl, Or.inl rfl, z, rfl⟩) hd hl
theorem Wk.rB (X : Wk N p l e R s m args below meth c Z own EL hm T h cells slots) {t : FieldType} {pc : Nat} {Ls : Array Slot} {z : Int32} {rest : List Value} (hret : meth.sig.returnType = some t) (ht : t = .boolean ∨ t = .byte ∨ t = .char ∨ t = .short) (hd : decode c.code pc = .ok (.ireturn, 1)) :
    ∀ fs, (∀ (f : JFrame) (acts : List Action), f.method = m → f.locked = none → f.entered = [] → (doReturn e (T.setTop f) acts (some (.int (nar t z)))).1 = T.setFrames fs) → Steps p.tables e below (T.setTop (mkF m pc Ls (.int z :: rest))) (T.setFrames fs) := by
  obtain ⟨vm0, locs, k0, h1, X', h3, h4, r⟩ := X
  exact fun fs hl => retN X' h4 hret ht hd hl
theorem Wk.rJ (X : Wk N p l e R s m args below meth c Z own EL hm T h cells slots) {pc : Nat} {Ls : Array Slot} {z : Int64} {rest : List Value} (hret : meth.sig.returnType = some .long) (hd : decode c.code pc = .ok (.lreturn, 1)) :
    ∀ fs, (∀ (f : JFrame) (acts : List Action), f.method = m → f.locked = none → f.entered = [] → (doReturn e (T.setTop f) acts (some (.long z))).1 = T.setFrames fs) → Steps p.tables e below (T.setTop (mkF m pc Ls (.long z :: rest))) (T.setFrames fs) := by
  obtain ⟨vm0, locs, k0, h1, X', h3, h4, r⟩ := X
  exact fun fs hl => retOut X' h4 hret rfl (Or.inr (Or.inl ⟨rfl, rfl, z, rfl⟩)) hd hl
theorem Wk.rA (X : Wk N p l e R s m args below meth c Z own EL hm T h cells slots) {t : FieldType} {pc : Nat} {Ls : Array Slot} {w : Value} {rest : List Value} (hret : meth.sig.returnType = some t) (ht : t.isReference = true) (hw : w.isRef = true) (hd : decode c.code pc = .ok (.areturn, 1)) :
    ∀ fs, (∀ (f : JFrame) (acts : List Action), f.method = m → f.locked = none → f.entered = [] → (doReturn e (T.setTop f) acts (some w)).1 = T.setFrames fs) → Steps p.tables e below (T.setTop (mkF m pc Ls (w :: rest))) (T.setFrames fs) := by
  obtain ⟨vm0, locs, k0, h1, X', h3, h4, r⟩ := X
  have hn : narrow t w = w := by
    rcases ref_cases hw with rfl | ⟨_, rfl⟩ <;> cases t <;> first | rfl | exact absurd ht (by decide)
  exact fun fs hl => retOut X' h4 hret hn (Or.inr (Or.inr (Or.inr (Or.inr ⟨rfl, ht, hw⟩)))) hd hl
theorem Wk.rV (X : Wk N p l e R s m args below meth c Z own EL hm T h cells slots) {pc : Nat} {Ls : Array Slot} (hret : meth.sig.returnType = none) (hd : decode c.code pc = .ok (.return_, 1)) :
    ∀ fs, (∀ (f : JFrame) (acts : List Action), f.method = m → f.locked = none → f.entered = [] → (doReturn e (T.setTop f) acts none).1 = T.setFrames fs) → Steps p.tables e below (T.setTop (mkF m pc Ls [])) (T.setFrames fs) := by
  obtain ⟨vm0, locs, k0, h1, X', h3, h4, r⟩ := X
  exact fun fs hl => X'.returnOut h4 hret hd hl
/-! steps that move the tables or the heap -/
theorem Wk.getF (X : Wk N p l e R s m args below meth c Z own EL hm T h cells slots) {R0 O n d host : String} {index : Nat} (w : (Cond.fieldLink own index R0 n d).before a0 Z = true ∨ (Cond.fieldLinkNest own index R0 n d host).before a0 Z = true) (via : Via Z R0 O n d) {a : Addr} {v : Value} (F : Fld Z h a O n d v)
    {g : JFrame} (hg : g.method = m) {rest : List Value} (hs : g.stack = .ref a :: rest) (hd : decode c.code g.pc = .ok (.getfield index, 3))
    (k : ∀ T', Wk N p l e R s m args below meth c Z own EL hm T' h cells slots → Goes p.tables e below Q T' { g with pc := g.pc + 3, stack := v :: rest }) : Goes p.tables e below Q T g := by
  obtain ⟨vm0, locs, k0, h1, X', h3, h4, h5, h6, r⟩ := X
  obtain ⟨T', X2, e2, st⟩ := RoadKit.getF (s := s.setVm vm0) X' h4 h5 h6 w via h3 F hg hs hd
  exact Goes.go st (k T' ⟨vm0, locs, k0, h1, X2, e2, h4, h5, h6, r⟩)
theorem Wk.getS (X : Wk N p l e R s m args below meth c Z own EL hm T h cells slots) {R0 O n d host : String} {index : Nat} (w : (Cond.fieldLink own index R0 n d).before a0 Z = true ∨ (Cond.fieldLinkNest own index R0 n d host).before a0 Z = true) (via : Via Z R0 O n d) {v : Value} (F : Sta Z Z.heap O n d v)
    {g : JFrame} (hg : g.method = m) (hd : decode c.code g.pc = .ok (.getstatic index, 3))
    (k : ∀ T', Wk N p l e R s m args below meth c Z own EL hm T' h cells slots → Goes p.tables e below Q T' { g with pc := g.pc + 3, stack := v :: g.stack }) : Goes p.tables e below Q T g := by
  have hOld := X.old
  obtain ⟨vm0, locs, k0, h1, X', h3, h4, h5, h6, r⟩ := X
  obtain ⟨T', X2, e2, st⟩ := getS2 (s := s.setVm vm0) X' h4 h5 h6 w via h3 (F.ext hOld) hg hd
  exact Goes.go st (k T' ⟨vm0, locs, k0, h1, X2, e2, h4, h5, h6, r⟩)
theorem Wk.new (X : Wk N p l e R s m args below meth c Z own EL hm T h cells slots) {C : String} {index n : Nat} (w : (Cond.classLink own index C).before a0 Z = true) (wi : (Cond.instantiable C n).before a0 Z = true) (wz : (Cond.initialized C).before a0 Z = true)
    {g : JFrame} (hg : g.method = m) (hd : decode c.code g.pc = .ok (.new index, 3)) (hc : cells + 1 ≤ R.cells) (hl : slots + n ≤ R.slots)
    (k : ∀ (T' : State) (h' : Heap) (a : Addr), a = h.size → Wk N p l e R s m args below meth c Z own EL hm T' h' (cells + 1) (slots + n) → Ext h h' → Exa Z h' a C → (∀ {O nm d : String} {ty : FieldType}, Laid Z a0 C O nm d → parseFieldDescriptor d = some ty → Fld Z h' a O nm d (defaultValue ty)) →
      Goes p.tables e below Q T' { g with pc := g.pc + 3, stack := .ref a :: g.stack }) : Goes p.tables e below Q T g := by
  obtain ⟨vm0, locs, k0, h1, X', h3, h4, h5, h6, h7, h8, h9, h10, h11, h12⟩ := X
  obtain ⟨T', h', X2, e2, E, A, D, -, st⟩ := newO (s := s.setVm vm0) X' h4 h5 h6 w wi wz h3 hg hd hc hl
  exact Goes.go st (k T' h' _ rfl ⟨vm0, locs, k0, h1, X2, e2, h4, h5, h6, h7, h8, Nat.le_trans h9 E.1, h10, h11.oTrans E, h12.oTrans E⟩ E A D)
theorem Wk.newA (X : Wk N p l e R s m args below meth c Z own EL hm T h cells slots) {aty : ArrayType} (w : (Cond.arrayClass (newarray.typeOf aty)).before a0 Z = true)
    {g : JFrame} (hg : g.method = m) (hd : decode c.code g.pc = .ok (.newarray aty, 2)) {n : Int32} {rest : List Value} (hs : g.stack = .int n :: rest) (hn : ¬ n < 0) {cap : Nat} (hcap : n.toNatClampNeg ≤ cap) (hb : cap * 8 ≤ 536870912) (hc : cells + 1 ≤ R.cells) (hl : slots + cap ≤ R.slots)
    (k : ∀ (T' : State) (h' : Heap) (a : Addr) (kA : ClassId), a = h.size → Wk N p l e R s m args below meth c Z own EL hm T' h' (cells + 1) (slots + cap) → Ext h h' → Arv Z h' a kA (newarray.typeOf aty) n [] (defaultValue (newarray.typeOf aty)) → Exa Z h' a ("[" ++ (newarray.typeOf aty).toString) →
      Goes p.tables e below Q T' { g with pc := g.pc + 2, stack := .ref a :: rest }) : Goes p.tables e below Q T g := by
  obtain ⟨vm0, locs, k0, h1, X', h3, h4, h5, h6, h7, h8, h9, h10, h11, h12⟩ := X
  obtain ⟨T', h', kA, X2, e2, E, A, B, st⟩ := newPE (s := s.setVm vm0) X' h4 h5 w h3 hg hd hs hn hcap hb hc hl rfl
  exact Goes.go st (k T' h' _ kA rfl ⟨vm0, locs, k0, h1, X2, e2, h4, h5, h6, h7, h8, Nat.le_trans h9 E.1, h10, h11.oTrans E, h12.oTrans E⟩ E (Arv.new A hn) B)
theorem own_fitC {a : Addr} {kA : ClassId} {ty : FieldType} {z : Int32} {vs : List Value} {dv : Value} {cl : Cell} (A : Arr Z h a cl ty) (Hh : Has cl vs dv) (G : ∀ i, i < cl.slots.size → fits ty (vs.getD i dv) = true) : FitC Z cl := by
  intro i v hv
  obtain ⟨-, kk, hk, comp, hkind⟩ := A.2.1
  have hi : i < cl.slots.size := (Array.getElem?_eq_some_iff.mp hv).1
  have e := Hh i hi
  rw [hv] at e
  cases e
  have e2 : Z.slotType? cl.cls .none i = some ty := by simp [State.slotType?, hk, hkind]
  simpa [State.fitsSlot, e2] using G i hi
theorem Wk.cloneV (X : Wk N p l e R s m args below meth c Z own EL hm T h cells slots) {ad : String} {index : Nat}
    (w1 : (Cond.methodLink own index ⟨ad, "clone", "()Ljava/lang/Object;"⟩).before a0 Z = true) (w2 : (Cond.sameMethod ad "java/lang/Object" "clone" "()Ljava/lang/Object;").before a0 Z = true) (w3 : (Cond.native ⟨"java/lang/Object", "clone", "()Ljava/lang/Object;"⟩).before a0 Z = true)
    (w4 : (Cond.instanceMethod ⟨"java/lang/Object", "clone", "()Ljava/lang/Object;"⟩).before a0 Z = true) (w5 : (Cond.selects ad ⟨ad, "clone", "()Ljava/lang/Object;"⟩ ⟨"java/lang/Object", "clone", "()Ljava/lang/Object;"⟩).before a0 Z = true) (w6 : (Cond.castable ad "java/lang/Cloneable").before a0 Z = true)
    {a : Addr} {kA : ClassId} {ty : FieldType} {z : Int32} {vs : List Value} {dv : Value} (A : Arv Z h a kA ty z vs dv) (E : Exa Z h a ad) {g : JFrame} (hg : g.method = m) (hsize : g.locals.size = c.maxLocals) {rest : List Value} (hs : g.stack = .ref a :: rest) (hd : decode c.code g.pc = .ok (.invokevirtual index, 3))
    (hf : 1 ≤ R.frames) {W cap : Nat} (hW : 2 * g.monitorRoom + (rest.map fun v => v.category).sum ≤ W) (hl : W + 14 ≤ R.locals) (hcap : z.toNatClampNeg ≤ cap) (hc : cells + 1 ≤ R.cells) (hsl : slots + cap ≤ R.slots)
    (k : ∀ (T' : State) (h' : Heap) (b : Addr), b = h.size → Wk N p l e R s m args below meth c Z own EL hm T' h' (cells + 1) (slots + cap) → Ext h h' → Arv Z h' b kA ty z vs dv → Exa Z h' b ad →
      Goes p.tables e below Q T' { g with pc := g.pc + 3, stack := .ref b :: rest }) : Goes p.tables e below Q T g := by
  obtain ⟨vm0, locs, k0, h1, X', h3, h4, h5, h6, h7, h8, h9, h10, h11, h12⟩ := X
  obtain ⟨cl, Ar, q, Sz, Nn, Hh, G⟩ := A
  obtain ⟨T', h', X2, e2, E2, A2, B2, st⟩ := cloneA (s := s.setVm vm0) X' h4 h5 h6 w1 w2 w3 w4 w5 w6 h3 Ar E (own_fitC (kA := kA) (z := z) Ar Hh G) hg hsize hs hd hf hW hl (cap := cap) (by rw [Sz]; exact hcap) hc hsl
  exact Goes.go st (k T' h' _ rfl ⟨vm0, locs, k0, h1, X2, e2, h4, h5, h6, h7, h8, Nat.le_trans h9 E2.1, h10, h11.oTrans E2, h12.oTrans E2⟩ E2 ⟨_, A2, q, Sz, Nn, Hh, G⟩ B2)
/-- the core of every write of one slot -/
theorem Wk.wrote {vm0 : Vm} {locs : List Loc} {k0 : Nat} {T' : State} {h' hm' : Heap} {a : Addr} {sl : Nat} {v : Value} (h1 : N → vm0 = s.vm) (h4 : p.tables.exec = Jvm.exec) (h5 : Z.Warmed39 vm0) (h6 : vm0.findClass own = some m.cls) (h7 : Fr Z.heap.size locs) (h8 : s.Since vm0 k0) (h9 : k0 ≤ h.size) (h10 : CHr Z EL s.vm s.heap vm0 hm) (h11 : Ext hm h) (h12 : Ext Z.heap h)
    (X2 : Stand p l e R (s.setVm vm0) m args below meth c T' (locs ++ [⟨a, sl⟩]) cells slots) (e2 : T'.heap = h') (W : Wr h h' a sl v) (ga : Z.heap.size ≤ a) (M : Mark Z EL hm h [a] h' hm') : Wk N p l e R s m args below meth c Z own EL hm' T' h' cells slots := by
  have K := Keep.of_wr W
  obtain ⟨C, E⟩ := mark_go h5.alike h10 h11 K M
  exact ⟨vm0, _, k0, h1, X2, e2, h4, h5, h6, Fr.snoc X2 h7 ga, h8, Nat.le_trans h9 K.1, C, E, h12.oKeep K (fun x hx => by cases List.mem_singleton.mp hx; exact ga)⟩
theorem Wk.putF {hm' : Heap → Heap} (X : Wk N p l e R s m args below meth c Z own EL hm T h cells slots) {R0 O n d host C : String} {index kk : Nat} {ty : FieldType} (w : (Cond.fieldLink own index R0 n d).before a0 Z = true ∨ (Cond.fieldLinkNest own index R0 n d host).before a0 Z = true) (via : Via Z R0 O n d)
    {a : Addr} {v old : Value} (F : Fld Z h a O n d old) (E : Exa Z h a C) (L : (Cond.lays C O n d).before a0 Z = true ∨ ((Cond.laysFinal C O n d).before a0 Z = true ∧ own = O ∧ meth.name = "<init>")) (wi : (Cond.instantiable C kk).before a0 Z = true)
    (hty : parseFieldDescriptor d = some ty) (hn : narrow ty v = v) (hf : fits ty v = true) (ga : Z.heap.size ≤ a) (M : ∀ h', Mark Z EL hm h [a] h' (hm' h')) {g : JFrame} (hg : g.method = m) {rest : List Value} (hs : g.stack = v :: .ref a :: rest) (hd : decode c.code g.pc = .ok (.putfield index, 3))
    (k : ∀ (T' : State) (h' : Heap), Wk N p l e R s m args below meth c Z own EL (hm' h') T' h' cells slots → Wr h h' a (Jvm.RoadKit.slotOf Z O n d) v → Goes p.tables e below Q T' { g with pc := g.pc + 3, stack := rest }) : Goes p.tables e below Q T g := by
  obtain ⟨vm0, locs, k0, h1, X', h3, h4, h5, h6, h7, h8, h9, h10, h11, h12⟩ := X
  obtain ⟨T', h', X2, e2, W, st⟩ := RoadKit.putF (s := s.setVm vm0) X' h4 h5 h6 w via h3 F E L wi hty hn hf hg hs hd
  exact Goes.go st (k T' h' (Wk.wrote h1 h4 h5 h6 h7 h8 h9 h10 h11 h12 X2 e2 W ga (M h')) W)
theorem Wk.putFN {hm' : Heap → Heap} (X : Wk N p l e R s m args below meth c Z own EL hm T h cells slots) {R0 O n d C : String} {index kk : Nat} {ty : FieldType} (w : (Cond.fieldLink own index R0 n d).before a0 Z = true) (via : Via Z R0 O n d)
    {a : Addr} {v v' old : Value} (F : Fld Z h a O n d old) (E : Exa Z h a C) (L : (Cond.lays C O n d).before a0 Z = true ∨ ((Cond.laysFinal C O n d).before a0 Z = true ∧ own = O ∧ meth.name = "<init>")) (wi : (Cond.instantiable C kk).before a0 Z = true)
    (hty : parseFieldDescriptor d = some ty) (hn : narrow ty v = v') (hf : fits ty v' = true) (ga : Z.heap.size ≤ a) (M : ∀ h', Mark Z EL hm h [a] h' (hm' h')) {g : JFrame} (hg : g.method = m) {rest : List Value} (hs : g.stack = v :: .ref a :: rest) (hd : decode c.code g.pc = .ok (.putfield index, 3))
    (k : ∀ (T' : State) (h' : Heap), Wk N p l e R s m args below meth c Z own EL (hm' h') T' h' cells slots → Wr h h' a (Jvm.RoadKit.slotOf Z O n d) v' → Goes p.tables e below Q T' { g with pc := g.pc + 3, stack := rest }) : Goes p.tables e below Q T g := by
  obtain ⟨vm0, locs, k0, h1, X', h3, h4, h5, h6, h7, h8, h9, h10, h11, h12⟩ := X
  obtain ⟨T', h', X2, e2, W, st⟩ := RoadKit.putFN (s := s.setVm vm0) X' h4 h5 h6 w via h3 F E L wi hty hn hf hg hs hd
  exact Goes.go st (k T' h' (Wk.wrote h1 h4 h5 h6 h7 h8 h9 h10 h11 h12 X2 e2 W ga (M h')) W)
theorem wr_same {O n d : String} {h' : Heap} {a : Addr} {v : Value} (W : Wr h h' a (Jvm.RoadKit.slotOf Z O n d) v) (F : Fld Z h a O n d v) : h' = h := by
  obtain ⟨cell, h1, -, hlt, rfl⟩ := W
  obtain ⟨c2, cf, k, i, f, g1, g2, -, -, -, -, g7⟩ := F
  cases h1.symm.trans g1
  have es : Jvm.RoadKit.slotOf Z O n d = f.slot := by simp [Jvm.RoadKit.slotOf, g2]
  have e1 : cell.setSlot f.slot v = cell := by
    have e2 : cell.slots.setIfInBounds f.slot v = cell.slots := by
      apply Array.ext_getElem?
      intro j
      by_cases q : f.slot = j
      · subst q
        rw [Array.getElem?_setIfInBounds_self_of_lt (Array.getElem?_eq_some_iff.mp g7).1, g7]
      · rw [Array.getElem?_setIfInBounds_ne q]
    show { cell with slots := cell.slots.setIfInBounds f.slot v } = cell
    rw [e2]
  rw [es, e1]
  apply Array.ext_getElem?
  intro j
  by_cases q : a = j
  · subst q
    rw [Array.getElem?_setIfInBounds_self_of_lt (Array.getElem?_eq_some_iff.mp h1).1, h1]
  · rw [Array.getElem?_setIfInBounds_ne q]
theorem Wk.putFNsame (X : Wk N p l e R s m args below meth c Z own EL hm T h cells slots) {R0 O n d C : String} {index kk : Nat} {ty : FieldType} (w : (Cond.fieldLink own index R0 n d).before a0 Z = true) (via : Via Z R0 O n d)
    {a : Addr} {v v' : Value} (F : Fld Z h a O n d v') (E : Exa Z h a C) (L : (Cond.lays C O n d).before a0 Z = true ∨ ((Cond.laysFinal C O n d).before a0 Z = true ∧ own = O ∧ meth.name = "<init>")) (wi : (Cond.instantiable C kk).before a0 Z = true)
    (hty : parseFieldDescriptor d = some ty) (hn : narrow ty v = v') (hf : fits ty v' = true) (ga : Z.heap.size ≤ a) {g : JFrame} (hg : g.method = m) {rest : List Value} (hs : g.stack = v :: .ref a :: rest) (hd : decode c.code g.pc = .ok (.putfield index, 3))
    (k : ∀ (T' : State), Wk N p l e R s m args below meth c Z own EL hm T' h cells slots → Goes p.tables e below Q T' { g with pc := g.pc + 3, stack := rest }) : Goes p.tables e below Q T g := by
  obtain ⟨vm0, locs, k0, h1, X', h3, h4, h5, h6, h7, h8, h9, h10, h11, h12⟩ := X
  obtain ⟨T', h', X2, e2, W, st⟩ := RoadKit.putFN (s := s.setVm vm0) X' h4 h5 h6 w via h3 F E L wi hty hn hf hg hs hd
  obtain rfl := wr_same W F
  exact Goes.go st (k T' ⟨vm0, _, k0, h1, X2, e2, h4, h5, h6, Fr.snoc X2 h7 ga, h8, h9, h10, h11, h12⟩)
theorem Wk.castore {hm' : Heap → Heap} (X : Wk N p l e R s m args below meth c Z own EL hm T h cells slots) {a : Addr} {kA : ClassId} {z j x : Int32} {vs : List Value} {dv : Value} (A : Arv Z h a kA .char z vs dv) (hj : ¬ j < 0 ∧ j < z) {i : Nat} (hi : j.toNatClampNeg = i) (hl : i < vs.length) (ga : Z.heap.size ≤ a) (M : ∀ h', Mark Z EL hm h [a] h' (hm' h'))
    {g : JFrame} (hg : g.method = m) {rest : List Value} (hs : g.stack = .int x :: .int j :: .ref a :: rest) (hd : decode c.code g.pc = .ok (.castore, 1))
    (k : ∀ (T' : State) (h' : Heap), Wk N p l e R s m args below meth c Z own EL (hm' h') T' h' cells slots → Wr h h' a j.toNatClampNeg (.int (nar .char x)) → Arv Z h' a kA .char z (vs.set i (.int (nar .char x))) dv → Goes p.tables e below Q T' { g with pc := g.pc + 1, stack := rest }) : Goes p.tables e below Q T g := by
  obtain ⟨vm0, locs, k0, h1, X', h3, h4, h5, h6, h7, h8, h9, h10, h11, h12⟩ := X
  obtain ⟨cl, Ar, q, Sz, Nn, Hh, G⟩ := A
  obtain ⟨T', h', X2, e2, W, st⟩ := stC (s := s.setVm vm0) X' h4 h5 h3 Ar (j := j) (inb_of Sz hj) hg hs hd
  exact Goes.go st (k T' h' (Wk.wrote h1 h4 h5 h6 h7 h8 h9 h10 h11 h12 X2 e2 W ga (M h')) W (Arv.set Ar q Sz Nn Hh G (fits_nar_char _) W i hi hl))
theorem Wk.lastore {hm' : Heap → Heap} (X : Wk N p l e R s m args below meth c Z own EL hm T h cells slots) {a : Addr} {kA : ClassId} {z j : Int32} {x : Int64} {vs : List Value} {dv : Value} (A : Arv Z h a kA .long z vs dv) (hj : ¬ j < 0 ∧ j < z) {i : Nat} (hi : j.toNatClampNeg = i) (hl : i < vs.length) (ga : Z.heap.size ≤ a) (M : ∀ h', Mark Z EL hm h [a] h' (hm' h'))
    {g : JFrame} (hg : g.method = m) {rest : List Value} (hs : g.stack = .long x :: .int j :: .ref a :: rest) (hd : decode c.code g.pc = .ok (.lastore, 1))
    (k : ∀ (T' : State) (h' : Heap), Wk N p l e R s m args below meth c Z own EL (hm' h') T' h' cells slots → Wr h h' a j.toNatClampNeg (.long x) → Arv Z h' a kA .long z (vs.set i (.long x)) dv → Goes p.tables e below Q T' { g with pc := g.pc + 1, stack := rest }) : Goes p.tables e below Q T g := by
  obtain ⟨vm0, locs, k0, h1, X', h3, h4, h5, h6, h7, h8, h9, h10, h11, h12⟩ := X
  obtain ⟨cl, Ar, q, Sz, Nn, Hh, G⟩ := A
  obtain ⟨T', h', X2, e2, W, st⟩ := stJ (s := s.setVm vm0) X' h4 h5 h3 Ar (j := j) (inb_of Sz hj) hg hs hd
  exact Goes.go st (k T' h' (Wk.wrote h1 h4 h5 h6 h7 h8 h9 h10 h11 h12 X2 e2 W ga (M h')) W (Arv.set Ar q Sz Nn Hh G rfl W i hi hl))
theorem Wk.bastore {hm' : Heap → Heap} (X : Wk N p l e R s m args below meth c Z own EL hm T h cells slots) {a : Addr} {kA : ClassId} {z j x : Int32} {vs : List Value} {dv : Value} (A : Arv Z h a kA .byte z vs dv) (hj : ¬ j < 0 ∧ j < z) {i : Nat} (hi : j.toNatClampNeg = i) (hl : i < vs.length) (ga : Z.heap.size ≤ a) (M : ∀ h', Mark Z EL hm h [a] h' (hm' h'))
    {g : JFrame} (hg : g.method = m) {rest : List Value} (hs : g.stack = .int x :: .int j :: .ref a :: rest) (hd : decode c.code g.pc = .ok (.bastore, 1))
    (k : ∀ (T' : State) (h' : Heap), Wk N p l e R s m args below meth c Z own EL (hm' h') T' h' cells slots → Wr h h' a j.toNatClampNeg (.int (nar .byte x)) → Arv Z h' a kA .byte z (vs.set i (.int (nar .byte x))) dv → Goes p.tables e below Q T' { g with pc := g.pc + 1, stack := rest }) : Goes p.tables e below Q T g := by
  obtain ⟨vm0, locs, k0, h1, X', h3, h4, h5, h6, h7, h8, h9, h10, h11, h12⟩ := X
  obtain ⟨cl, Ar, q, Sz, Nn, Hh, G⟩ := A
  obtain ⟨T', h', X2, e2, W, st⟩ := stB (s := s.setVm vm0) X' h4 h5 h3 Ar (j := j) (inb_of Sz hj) hg hs hd
  exact Goes.go st (k T' h' (Wk.wrote h1 h4 h5 h6 h7 h8 h9 h10 h11 h12 X2 e2 W ga (M h')) W (Arv.set Ar q Sz Nn Hh G (fits_nar_byte _) W i hi hl))
/-! loads out of arrays, lengths -/
theorem Wk.caload (X : Wk N p l e R s m args below meth c Z own EL hm T h cells slots) {a : Addr} {kA : ClassId} {z j : Int32} {vs : List Value} {dv v : Value} (A : Arv Z h a kA .char z vs dv) (hj : ¬ j < 0 ∧ j < z) (hv : vs.getD j.toNatClampNeg dv = v)
    {g : JFrame} (hg : g.method = m) {rest : List Value} (hs : g.stack = .int j :: .ref a :: rest) (hd : decode c.code g.pc = .ok (.caload, 1)) : ∀ t, Steps p.tables e below (T.setTop { g with pc := g.pc + 1, stack := v :: rest }) t → Steps p.tables e below (T.setTop g) t := by
  obtain ⟨vm0, locs, k0, h1, X', h3, h4, h5, r⟩ := X
  obtain ⟨cl, Ar, q, Sz, Nn, Hh, G⟩ := A
  intro t k
  exact X'.caload h4 (j := j) (v := v) (by rw [h3]; exact Ar.1) (State.isArrayOf_alike h5.alike Ar.2.1) Ar.2.2 (inb_of Sz hj) (Hh.at (inb_of Sz hj) hv) hg hs hd t k
theorem Wk.laload (X : Wk N p l e R s m args below meth c Z own EL hm T h cells slots) {a : Addr} {kA : ClassId} {z j : Int32} {vs : List Value} {dv v : Value} (A : Arv Z h a kA .long z vs dv) (hj : ¬ j < 0 ∧ j < z) (hv : vs.getD j.toNatClampNeg dv = v)
    {g : JFrame} (hg : g.method = m) {rest : List Value} (hs : g.stack = .int j :: .ref a :: rest) (hd : decode c.code g.pc = .ok (.laload, 1)) : ∀ t, Steps p.tables e below (T.setTop { g with pc := g.pc + 1, stack := v :: rest }) t → Steps p.tables e below (T.setTop g) t := by
  obtain ⟨vm0, locs, k0, h1, X', h3, h4, h5, r⟩ := X
  obtain ⟨cl, Ar, q, Sz, Nn, Hh, G⟩ := A
  intro t k
  exact X'.laload h4 (j := j) (v := v) (by rw [h3]; exact Ar.1) (State.isArrayOf_alike h5.alike Ar.2.1) Ar.2.2 (inb_of Sz hj) (Hh.at (inb_of Sz hj) hv) hg hs hd t k
theorem Wk.baload (X : Wk N p l e R s m args below meth c Z own EL hm T h cells slots) {a : Addr} {kA : ClassId} {z j : Int32} {vs : List Value} {dv v : Value} (A : Arv Z h a kA .byte z vs dv) (hj : ¬ j < 0 ∧ j < z) (hv : vs.getD j.toNatClampNeg dv = v)
    {g : JFrame} (hg : g.method = m) {rest : List Value} (hs : g.stack = .int j :: .ref a :: rest) (hd : decode c.code g.pc = .ok (.baload, 1)) : ∀ t, Steps p.tables e below (T.setTop { g with pc := g.pc + 1, stack := v :: rest }) t → Steps p.tables e below (T.setTop g) t := by
  obtain ⟨vm0, locs, k0, h1, X', h3, h4, h5, r⟩ := X
  obtain ⟨cl, Ar, q, Sz, Nn, Hh, G⟩ := A
  intro t k
  exact X'.baloadBytes h4 (j := j) (v := v) (by rw [h3]; exact Ar.1) (State.isArrayOf_alike h5.alike Ar.2.1) Ar.2.2 (inb_of Sz hj) (Hh.at (inb_of Sz hj) hv) hg hs hd t k
theorem Wk.alen (X : Wk N p l e R s m args below meth c Z own EL hm T h cells slots) {a : Addr} {kA : ClassId} {ty : FieldType} {z : Int32} {vs : List Value} {dv : Value} (A : Arv Z h a kA ty z vs dv)
    {g : JFrame} (hg : g.method = m) {rest : List Value} (hs : g.stack = .ref a :: rest) (hd : decode c.code g.pc = .ok (.arraylength, 1)) : ∀ t, Steps p.tables e below (T.setTop { g with pc := g.pc + 1, stack := .int z :: rest }) t → Steps p.tables e below (T.setTop g) t := by
  obtain ⟨vm0, locs, k0, h1, X', h3, h4, h5, r⟩ := X
  obtain ⟨cl, Ar, q, Sz, Nn, Hh, G⟩ := A
  intro t k
  rw [← len_of Sz Nn] at k
  exact X'.arraylength h4 (by rw [h3]; exact Ar.1) (State.isArrayOf_alike h5.alike Ar.2.1) hg hs hd t k
theorem Wk.acopy {hm' : Heap → Heap} (X : Wk N p l e R s m args below meth c Z own EL hm T h cells slots) {index : Nat}
    (w1 : (Cond.methodLink own index Jvm.Stand.acN).before a0 Z = true) (w2 : (Cond.native Jvm.Stand.acN).before a0 Z = true) (w3 : (Cond.static Jvm.Stand.acN).before a0 Z = true) (w4 : (Cond.initialized "java/lang/System").before a0 Z = true)
    {a b : Addr} {k' kA : ClassId} {ty ty' : FieldType} {z z' sp dp nn : Int32} {vs vd us : List Value} {dv dd : Value} (A : Arv Z h a kA ty z vs dv) (B : Arv Z h b k' ty' z' vd dd) (hty : ty = ty' ∧ refKind ty = false)
    (h1 : ¬ sp < 0) (h2 : ¬ dp < 0) (h3 : ¬ nn < 0) (h4 : sp.toNatClampNeg + nn.toNatClampNeg ≤ z.toNatClampNeg) (h5 : dp.toNatClampNeg + nn.toNatClampNeg ≤ z'.toNatClampNeg)
    (hus : us = (List.range nn.toNatClampNeg).map fun i => vs.getD (sp.toNatClampNeg + i) dv) (hl : dp.toNatClampNeg + nn.toNatClampNeg ≤ vd.length) (gb : Z.heap.size ≤ b) (M : ∀ h', Mark Z EL hm h [b] h' (hm' h'))
    {g : JFrame} (hg : g.method = m) (hsize : g.locals.size = c.maxLocals) {rest : List Value} (hs : g.stack = .int nn :: .int dp :: .ref b :: .int sp :: .ref a :: rest) (hd : decode c.code g.pc = .ok (.invokestatic index, 3))
    (hf : 1 ≤ R.frames) {W : Nat} (hW : 2 * g.monitorRoom + (rest.map fun v => v.category).sum ≤ W) (hlo : W + (nativeFrameWords "java/lang/System" "arraycopy" 5 + 11) ≤ R.locals)
    (k : ∀ (T' : State) (h' : Heap), Wk N p l e R s m args below meth c Z own EL (hm' h') T' h' cells slots → Keep h h' [b] → Arv Z h' b k' ty' z' (vd.take dp.toNatClampNeg ++ us ++ vd.drop (dp.toNatClampNeg + nn.toNatClampNeg)) dd → Goes p.tables e below Q T' { g with pc := g.pc + 3, stack := rest }) : Goes p.tables e below Q T g := by
  obtain ⟨vm0, locs, k0, x1, X', x3, x4, x5, x6, x7, x8, x9, x10, x11, x12⟩ := X
  obtain ⟨T', h', L, X2, e2, FL, K, A2, st⟩ := cpA (s := s.setVm vm0) X' x4 x5 x6 w1 w2 w3 w4 x3 A B (Or.inl hty) h1 h2 h3 h4 h5 hus hl x7 gb hg hsize hs hd hf hW hlo
  obtain ⟨C, E⟩ := mark_go x5.alike x10 x11 K (M h')
  exact Goes.go st (k T' h' ⟨vm0, L, k0, x1, X2, e2, x4, x5, x6, FL, x8, Nat.le_trans x9 K.1, C, E, x12.oKeep K (fun x hx => by cases List.mem_singleton.mp hx; exact gb)⟩ K A2)
theorem Wk.ldcI (X : Wk N p l e R s m args below meth c Z own EL hm T h cells slots) {index : Nat} {v : Int32} (w : (Cond.constant own index v).before a0 Z = true) {g : JFrame} (hg : g.method = m) (hd : decode c.code g.pc = .ok (.ldc index, 2)) : ∀ t, Steps p.tables e below (T.setTop { g with pc := g.pc + 2, stack := .int v :: g.stack }) t → Steps p.tables e below (T.setTop g) t := by
  obtain ⟨vm0, locs, k0, h1, X', h3, h4, h5, h6, r⟩ := X
  exact X'.ldcInt h4 h6 (mv (s := s.setVm vm0) h5 w) hg hd
theorem Wk.ldcL (X : Wk N p l e R s m args below meth c Z own EL hm T h cells slots) {index : Nat} {v : Int64} (w : (Cond.constantLong own index v).before a0 Z = true) {g : JFrame} (hg : g.method = m) (hd : decode c.code g.pc = .ok (.ldc2_w index, 3)) : ∀ t, Steps p.tables e below (T.setTop { g with pc := g.pc + 3, stack := .long v :: g.stack }) t → Steps p.tables e below (T.setTop g) t := by
  obtain ⟨vm0, locs, k0, h1, X', h3, h4, h5, h6, r⟩ := X
  exact X'.ldc2Long h4 h6 (mv (s := s.setVm vm0) h5 w) hg hd
theorem Wk.castY (X : Wk N p l e R s m args below meth c Z own EL hm T h cells slots) {K : String} {index : Nat} (w : (Cond.classLink own index K).before a0 Z = true) {a : Addr} (F : Ins Z h a K true) {g : JFrame} (hg : g.method = m) {rest : List Value} (hs : g.stack = .ref a :: rest) (hd : decode c.code g.pc = .ok (.checkcast index, 3))
    (k : ∀ T', Wk N p l e R s m args below meth c Z own EL hm T' h cells slots → Goes p.tables e below Q T' { g with pc := g.pc + 3 }) : Goes p.tables e below Q T g := by
  obtain ⟨vm0, locs, k0, h1, X', h3, h4, h5, h6, r⟩ := X
  obtain ⟨T', X2, e2, st⟩ := RoadKit.castY (s := s.setVm vm0) X' h4 h5 h6 w h3 F hg hs hd
  exact Goes.go st (k T' ⟨vm0, locs, k0, h1, X2, e2, h4, h5, h6, r⟩)
theorem Wk.instY (X : Wk N p l e R s m args below meth c Z own EL hm T h cells slots) {K : String} {index : Nat} (w : (Cond.classLink own index K).before a0 Z = true) {a : Addr} (F : Ins Z h a K true) {g : JFrame} (hg : g.method = m) {rest : List Value} (hs : g.stack = .ref a :: rest) (hd : decode c.code g.pc = .ok (.instanceof index, 3))
    (k : ∀ T', Wk N p l e R s m args below meth c Z own EL hm T' h cells slots → Goes p.tables e below Q T' { g with pc := g.pc + 3, stack := .int 1 :: rest }) : Goes p.tables e below Q T g := by
  obtain ⟨vm0, locs, k0, h1, X', h3, h4, h5, h6, r⟩ := X
  obtain ⟨T', X2, e2, st⟩ := RoadKit.instY (s := s.setVm vm0) X' h4 h5 h6 w h3 F hg hs hd
  exact Goes.go st (k T' ⟨vm0, locs, k0, h1, X2, e2, h4, h5, h6, r⟩)
theorem Wk.instNo (X : Wk N p l e R s m args below meth c Z own EL hm T h cells slots) {C K : String} {index : Nat} (w : (Cond.classLink own index K).before a0 Z = true) {a : Addr} (E : Exa Z h a C) (F : ∃ c t, Z.vm.findClass C = some c ∧ Z.vm.findClass K = some t ∧ Z.vm.assignable c t = false) {g : JFrame} (hg : g.method = m) {rest : List Value} (hs : g.stack = .ref a :: rest) (hd : decode c.code g.pc = .ok (.instanceof index, 3))
    (k : ∀ T', Wk N p l e R s m args below meth c Z own EL hm T' h cells slots → Goes p.tables e below Q T' { g with pc := g.pc + 3, stack := .int 0 :: rest }) : Goes p.tables e below Q T g := by
  obtain ⟨vm0, locs, k0, h1, X', h3, h4, h5, h6, r⟩ := X
  obtain ⟨T', X2, e2, st⟩ := RoadKit.instNo (s := s.setVm vm0) X' h4 h5 h6 w h3 E F hg hs hd
  exact Goes.go st (k T' ⟨vm0, locs, k0, h1, X2, e2, h4, h5, h6, r⟩)
theorem Wk.instNull (X : Wk N p l e R s m args below meth c Z own EL hm T h cells slots) {index : Nat} {g : JFrame} (hg : g.method = m) {rest : List Value} (hs : g.stack = .null :: rest) (hd : decode c.code g.pc = .ok (.instanceof index, 3)) : ∀ t, Steps p.tables e below (T.setTop { g with pc := g.pc + 3, stack := .int 0 :: rest }) t → Steps p.tables e below (T.setTop g) t := by
  obtain ⟨vm0, locs, k0, h1, X', h3, h4, r⟩ := X
  exact X'.instanceofNull h4 hg hs hd
theorem own_noinst {C S K : String} {n : Nat} (w : (Cond.superclass C S).before a0 Z = true) (wr : (Cond.noSuperclass S).before a0 Z = true) (wi : (Cond.instantiable K n).before a0 Z = true) (n1 : C ≠ K) (n2 : S ≠ K) : ∃ c t, Z.vm.findClass C = some c ∧ Z.vm.findClass K = some t ∧ Z.vm.assignable c t = false := by
  obtain ⟨cS, kS, s1, s2, s3, -, -⟩ := Cond.noSuperclass_spec wr
  obtain ⟨t, kt, t1, t2, t3, t4, -⟩ := Cond.instantiable_spec wi
  have ne2 := ids_ne s1 t1 n2
  have nS : NS Z S K := ⟨cS, t, s1, t1, fun fuel => by
    cases fuel with
    | zero => rfl
    | succ f => simp [Vm.isSubclassAux, ne2, s2, s3]⟩
  obtain ⟨c, t', h0, g0, n3⟩ := NS.step w nS n1
  cases g0.symm.trans t1
  obtain ⟨p', k, kp, h1, h2, h3, h4, h5, -, h7⟩ := Cond.superclass_spec h0 w
  have ne := ids_ne h0 g0 n1
  simp only [Bool.or_eq_false_iff] at t4
  refine ⟨c, _, h0, t1, ?_⟩
  show Z.vm.assignableAux (255 + 1) c _ = false
  simp [Vm.assignableAux, ne, h2, t2, h5, t3, t4.1, Vm.isSubclass, n3]
/-! Object.<init>, literals -/
theorem Wk.initO (X : Wk N p l e R s m args below meth c Z own EL hm T h cells slots) {idx : Nat} (w1 : (Cond.methodLink own idx Lib.objectInit).before a0 Z = true) (w2 : (Cond.instanceMethod Lib.objectInit).before a0 Z = true) (w3 : (Cond.code Lib.objectInit ⟨#[0xb1]⟩ 1 none).before a0 Z = true)
    {g : JFrame} (hg : g.method = m) (hsize : g.locals.size = c.maxLocals) {a : Addr} {rest : List Value} (hs : g.stack = .ref a :: rest) (hd : decode c.code g.pc = .ok (.invokespecial idx, 3)) (hf : 1 ≤ R.frames) {W : Nat} (hW : 2 * g.monitorRoom + (rest.map fun v => v.category).sum ≤ W) (hl : W + 12 ≤ R.locals)
    (k : ∀ T', Wk N p l e R s m args below meth c Z own EL hm T' h cells slots → Goes p.tables e below Q T' { g with pc := g.pc + 3, stack := rest }) : Goes p.tables e below Q T g := by
  obtain ⟨vm0, locs, k0, h1, X', h3, h4, h5, h6, r⟩ := X
  obtain ⟨T', X2, e2, st⟩ := RoadKit.initO (s := s.setVm vm0) X' h4 h5 h6 w1 w2 w3 h3 hg hsize hs hd hf hW hl
  exact Goes.go st (k T' ⟨vm0, locs, k0, h1, X2, e2, h4, h5, h6, r⟩)
theorem Wk.ldcR (X : Wk N p l e R s m args below meth c Z own EL hm T h cells slots) {text : String} {index : Nat} (w : (Cond.stringLink own index text).before a0 Z = true) (wS : ∀ a ∈ Bundle.stringAtoms, a.before a0 Z = true) (hEL : EW Z a0 EL) (hmem : (own, index) ∈ EL)
    {vs : List Value} {z : Int32} (ht : (∀ c ∈ text.toList, c.toNat < 256) ∧ text.toList.map (fun c => Value.int (Jvm.Lit.byteI c.toNat.toUInt16)) = vs) (hz : ¬ z < 0) (hl : z.toNatClampNeg = vs.length)
    {g : JFrame} (hg : g.method = m) (hd : decode c.code g.pc = .ok (.ldc index, 2)) {n : Nat} (hn : 4 * text.toList.length ≤ n) (hbig : n ≤ 536870912) (hc : cells + 2 ≤ R.cells) (hl' : slots + (n + 4) ≤ R.slots)
    (k : ∀ (T' : State) (h' : Heap) (a b : Addr) (kB : ClassId), Wk False p l e R s m args below meth c Z own EL h' T' h' (cells + 2) (slots + (n + 4)) → Ext h h' → Exa Z h' a "java/lang/String" → Fld Z h' a "java/lang/String" "coder" "B" (.int 0) → Fld Z h' a "java/lang/String" "value" "[B" (.ref b) → Arv Z h' b kB .byte z vs (.int 0) →
      Goes p.tables e below Q T' { g with pc := g.pc + 2, stack := .ref a :: g.stack }) : Goes p.tables e below Q T g := by
  obtain ⟨vm0, locs, k0, h1, X', h3, h4, h5, h6, h7, h8, h9, h10, h11, h12⟩ := X
  have C1 := h10.trans (CHr.ext h11 h10.1)
  obtain ⟨a, T', h', k1, b, kB, X2, e2, E, S2, hk2, hW, hf, r1, r2, r3, r4, -, -, C2, -, -, st⟩ := ldcCH X' h4 h5 h6 w wS h3 h8 h9 hEL hmem C1.1 ht hz hl hg hd hn hbig hc hl'
  exact Goes.go st (k T' h' a b kB ⟨T'.vm, locs, k1, fun q => q.elim, X2, e2, h4, hW, hf, h7, S2, hk2, C1.trans C2, Ext.oRefl _, h12.oTrans E⟩ E r1 r2 r3 r4)
theorem Wk.ldcO (X : Wk N p l e R s m args below meth c Z own EL hm T h cells slots) {text : String} {index : Nat} (w : (Cond.stringLink own index text).before a0 Z = true) (wS : ∀ a ∈ Bundle.stringAtoms, a.before a0 Z = true) (hEL : EW Z a0 EL)
    {g : JFrame} (hg : g.method = m) (hd : decode c.code g.pc = .ok (.ldc index, 2)) {n : Nat} (hn : 4 * text.toList.length ≤ n) (hbig : n ≤ 536870912) (hc : cells + 2 ≤ R.cells) (hl' : slots + (n + 4) ≤ R.slots)
    (k : ∀ (T' : State) (h' : Heap) (a : Addr), Wk False p l e R s m args below meth c Z own EL h' T' h' (cells + 2) (slots + (n + 4)) → Ext h h' →
      Goes p.tables e below Q T' { g with pc := g.pc + 2, stack := .ref a :: g.stack }) : Goes p.tables e below Q T g := by
  obtain ⟨vm0, locs, k0, h1, X', h3, h4, h5, h6, h7, h8, h9, h10, h11, h12⟩ := X
  have C1 := h10.trans (CHr.ext h11 h10.1)
  obtain ⟨a, T', h', k1, X2, e2, E, S2, hk2, hW, hf, C2, -, st⟩ := ldcOH X' h4 h5 h6 w wS h3 h8 h9 hEL C1.1 hg hd hn hbig hc hl'
  exact Goes.go st (k T' h' a ⟨T'.vm, locs, k1, fun q => q.elim, X2, e2, h4, hW, hf, h7, S2, hk2, C1.trans C2, Ext.oRefl _, h12.oTrans E⟩ E)
/-! calls -/
theorem CtrN.back {y : MethodName} {bytes : ByteArray} {maxL : Nat} {ret : Option FieldType} {rm : Room} {as' : Array Value} {Qv : Option Value → Heap → Prop} {len W : Nat} (K : CtrN l Z y bytes maxL ret rm as' h Qv) {vm0 : Vm} (hZ : Z.Warmed39 vm0) (wc : (Cond.code y bytes maxL ret).before a0 Z = true) (wz : (Cond.initialized y.cls).before a0 Z = true) (hf : rm.frames + 1 ≤ R.frames) (hl : W + (maxL + 11) + rm.locals ≤ R.locals) :
    Back l R p e below (s.setVm vm0) args y len W (fun A a => a = as' ∧ A.U.heap = h ∧ A.cells + rm.cells ≤ R.cells ∧ A.slots + rm.slots ≤ R.slots) (fun A _ v B => ∃ L, (Qv v B.U.heap ∧ Fr Z.heap.size L) ∧ B.locs = A.locs ++ L ∧ B.cells = A.cells + rm.cells ∧ B.slots = A.slots + rm.slots) :=
  backOf (s := s.setVm vm0) (Q := fun v h' L => Qv v h' ∧ Fr Z.heap.size L) (K []) hZ wc wz hf hl
theorem CtrS.back {y : MethodName} {bytes : ByteArray} {maxL : Nat} {ret : Option FieldType} {rm : Room} {as' : Array Value} {Qv : Option Value → Heap → Prop} {len W : Nat} (K : CtrS l Z EL y bytes maxL ret rm as' h Qv) {vm0 : Vm} (hZ : Z.Warmed39 vm0) (wc : (Cond.code y bytes maxL ret).before a0 Z = true) (wz : (Cond.initialized y.cls).before a0 Z = true) (hf : rm.frames + 1 ≤ R.frames) (hl : W + (maxL + 11) + rm.locals ≤ R.locals) (hEL : EW Z a0 EL) (H : CHv Z EL vm0 h) :
    BackS l R p e below (s.setVm vm0) args y len W (fun A a => a = as' ∧ A.U.heap = h ∧ A.cells + rm.cells ≤ R.cells ∧ A.slots + rm.slots ≤ R.slots) (fun A _ v B => ∃ L, (Qv v B.U.heap ∧ Fr Z.heap.size L) ∧ B.locs = A.locs ++ L ∧ B.cells = A.cells + rm.cells ∧ B.slots = A.slots + rm.slots ∧ CHr Z EL vm0 h B.U.vm B.U.heap) :=
  backOfSH (Q := fun v h' L => Qv v h' ∧ Fr Z.heap.size L) (K []) hZ wc wz hf hl hEL H
/-- what a payer says that interns nothing -/
def Pays (l : Launch) (R : Room) (p : Program) (e : Env) (below : List Frame) (s : State) (args : Array Value) (Z : State) (y : MethodName) (len W : Nat) (as' : Array Value) (h : Heap) (kc ks : Nat) (QQ : Option Value → Heap → List Loc → Prop) : Prop :=
  ∀ vm0, Z.Warmed39 vm0 → Back l R p e below (s.setVm vm0) args y len W (fun A a => a = as' ∧ A.U.heap = h ∧ A.cells + kc ≤ R.cells ∧ A.slots + ks ≤ R.slots) (fun A _ v B => ∃ L, QQ v B.U.heap L ∧ B.locs = A.locs ++ L ∧ B.cells = A.cells + kc ∧ B.slots = A.slots + ks)
def PaysS (l : Launch) (R : Room) (p : Program) (e : Env) (below : List Frame) (s : State) (args : Array Value) (Z : State) (EL : List (String × Nat)) (y : MethodName) (len W : Nat) (as' : Array Value) (h : Heap) (kc ks : Nat) (QQ : Option Value → Heap → List Loc → Prop) : Prop :=
  ∀ vm0, Z.Warmed39 vm0 → CHv Z EL vm0 h → BackS l R p e below (s.setVm vm0) args y len W (fun A a => a = as' ∧ A.U.heap = h ∧ A.cells + kc ≤ R.cells ∧ A.slots + ks ≤ R.slots) (fun A _ v B => ∃ L, QQ v B.U.heap L ∧ B.locs = A.locs ++ L ∧ B.cells = A.cells + kc ∧ B.slots = A.slots + ks ∧ CHr Z EL vm0 h B.U.vm B.U.heap)
theorem CtrN.pays {y : MethodName} {bytes : ByteArray} {maxL : Nat} {ret : Option FieldType} {rm : Room} {as' : Array Value} {Qv : Option Value → Heap → Prop} {len W : Nat} (K : CtrN l Z y bytes maxL ret rm as' h Qv) (wc : (Cond.code y bytes maxL ret).before a0 Z = true) (wz : (Cond.initialized y.cls).before a0 Z = true) (hf : rm.frames + 1 ≤ R.frames) (hl : W + (maxL + 11) + rm.locals ≤ R.locals) :
    Pays l R p e below s args Z y len W as' h rm.cells rm.slots (fun v h' L => Qv v h' ∧ Fr Z.heap.size L) := fun _ hZ => CtrN.back K hZ wc wz hf hl
theorem CtrS.pays {y : MethodName} {bytes : ByteArray} {maxL : Nat} {ret : Option FieldType} {rm : Room} {as' : Array Value} {Qv : Option Value → Heap → Prop} {len W : Nat} (K : CtrS l Z EL y bytes maxL ret rm as' h Qv) (wc : (Cond.code y bytes maxL ret).before a0 Z = true) (wz : (Cond.initialized y.cls).before a0 Z = true) (hf : rm.frames + 1 ≤ R.frames) (hl : W + (maxL + 11) + rm.locals ≤ R.locals) (hEL : EW Z a0 EL) :
    PaysS l R p e below s args Z EL y len W as' h rm.cells rm.slots (fun v h' L => Qv v h' ∧ Fr Z.heap.size L) := fun _ hZ H => CtrS.back K hZ wc wz hf hl hEL H
theorem Wk.came {vm0 : Vm} {locs L : List Loc} {k0 kc ks : Nat} {T' : State} {hm' : Heap} {ws : List Addr} (h1 : N → vm0 = s.vm) (h4 : p.tables.exec = Jvm.exec) (h5 : Z.Warmed39 vm0) (h6 : vm0.findClass own = some m.cls) (h7 : Fr Z.heap.size locs) (h8 : s.Since vm0 k0) (h9 : k0 ≤ h.size) (h10 : CHr Z EL s.vm s.heap vm0 hm) (h11 : Ext hm h) (h12 : Ext Z.heap h)
    (X2 : Stand p l e R (s.setVm vm0) m args below meth c T' (locs ++ L) (cells + kc) (slots + ks)) (F : Fr Z.heap.size L) (K : Keep h T'.heap ws) (hws : ∀ x ∈ ws, Z.heap.size ≤ x) (M : Mark Z EL hm h ws T'.heap hm') : Wk N p l e R s m args below meth c Z own EL hm' T' T'.heap (cells + kc) (slots + ks) := by
  obtain ⟨C, E⟩ := mark_go h5.alike h10 h11 K M
  exact ⟨vm0, _, k0, h1, X2, rfl, h4, h5, h6, Fr.app h7 F, h8, Nat.le_trans h9 K.1, C, E, h12.oKeep K hws⟩
theorem Wk.cameS {vm0 : Vm} {locs L : List Loc} {k0 kc ks : Nat} {T' : State} {ws : List Addr} (h4 : p.tables.exec = Jvm.exec) (h5 : Z.Warmed39 vm0) (h6 : vm0.findClass own = some m.cls) (h7 : Fr Z.heap.size locs) (h8 : s.Since vm0 k0) (h9 : k0 ≤ h.size) (C1 : CHr Z EL s.vm s.heap vm0 h) (h12 : Ext Z.heap h)
    (X2 : Stand p l e R ((s.setVm vm0).setVm T'.vm) m args below meth c T' (locs ++ L) (cells + kc) (slots + ks)) (S2 : (s.setVm vm0).Since T'.vm T'.heap.size) (F : Fr Z.heap.size L) (K : Keep h T'.heap ws) (hws : ∀ x ∈ ws, Z.heap.size ≤ x) (C2 : CHr Z EL vm0 h T'.vm T'.heap) : Wk False p l e R s m args below meth c Z own EL T'.heap T' T'.heap (cells + kc) (slots + ks) :=
  ⟨T'.vm, _, T'.heap.size, fun q => q.elim, X2, rfl, h4, State.Warmed39.trans (t := s.setVm vm0) h5 S2.1, (S2.1.alike.findClass _ _).trans h6, Fr.app h7 F, h8.trans S2 (Nat.le_trans h9 K.1), Nat.le_refl _, C1.trans C2, Ext.oRefl _, h12.oKeep K hws⟩
theorem Wk.static {hm' : Heap → Heap} {y : MethodName} {bytes : ByteArray} {maxL : Nat} {ret : Option FieldType} {index W kc ks : Nat} {QQ : Option Value → Heap → List Loc → Prop} {argsL rest : List Value} {as' : Array Value} {ws : List Addr} (X : Wk N p l e R s m args below meth c Z own EL hm T h cells slots)
    (w1 : (Cond.methodLink own index y).before a0 Z = true) (w2 : (Cond.static y).before a0 Z = true) (w3 : (Cond.initialized y.cls).before a0 Z = true) (w4 : (Cond.code y bytes maxL ret).before a0 Z = true) (hy : y.cls ≠ "java/lang/invoke/MethodHandle" ∧ y.cls ≠ "java/lang/invoke/VarHandle")
    (hK : Pays l R p e below s args Z y 3 W as' h kc ks QQ) (hQ : ∀ v h' L, QQ v h' L → Fr Z.heap.size L ∧ Keep h h' ws) (hws : ∀ x ∈ ws, Z.heap.size ≤ x) (M : ∀ h', Mark Z EL hm h ws h' (hm' h'))
    {g : JFrame} (hg : g.method = m) (hsize : g.locals.size = c.maxLocals) (hlen : ∀ sig, parseMethodDescriptor y.desc = some sig → argsL.length = sig.parameters.length) (has : argsL.toArray = as') (hstack : g.stack = argsL.reverse ++ rest) (hW : 2 * g.monitorRoom + (rest.map fun v => v.category).sum ≤ W)
    (hdg : decode c.code g.pc = .ok (.invokestatic index, 3)) (hc : cells + kc ≤ R.cells) (hs : slots + ks ≤ R.slots)
    (k : ∀ (T' : State) (h' : Heap) (v : Option Value) (L : List Loc), Wk N p l e R s m args below meth c Z own EL (hm' h') T' h' (cells + kc) (slots + ks) → QQ v h' L → Keep h h' ws → Goes p.tables e below Q T' { g with pc := g.pc + 3, stack := v.toList ++ rest }) : Goes p.tables e below Q T g := by
  obtain ⟨vm0, locs, k0, h1, X', h3, h4, h5, h6, h7, h8, h9, h10, h11, h12⟩ := X
  obtain ⟨v, vm₁, ⟨T', L', k', n'⟩, -, X2, ⟨L, q, l2, y2, z2⟩, st⟩ := Jvm.LawKit.callS (s := s.setVm vm0) X' h4 h6 (mvT (s := s.setVm vm0) h5 w1) (mvT (s := s.setVm vm0) h5 w2) (mvT (s := s.setVm vm0) h5 w3) (mvT (s := s.setVm vm0) h5 w4) hy (hK vm0 h5) hg hsize hlen hstack hW hdg (fun _ _ => ⟨has, h3, hc, hs⟩)
  dsimp only [Pt.U, Pt.locs, Pt.cells, Pt.slots] at X2 l2 y2 z2 st q
  subst l2 y2 z2
  obtain ⟨F, K⟩ := hQ _ _ _ q
  exact Goes.go st (k T' T'.heap v L (Wk.came h1 h4 h5 h6 h7 h8 h9 h10 h11 h12 X2 F K hws (M _)) q K)
theorem Wk.special {hm' : Heap → Heap} {y : MethodName} {bytes : ByteArray} {maxL : Nat} {index W kc ks : Nat} {QQ : Option Value → Heap → List Loc → Prop} {a : Addr} {argsL rest : List Value} {as' : Array Value} {ws : List Addr} (X : Wk N p l e R s m args below meth c Z own EL hm T h cells slots)
    (hy1 : y.name = "<init>") (w1 : (Cond.methodLink own index y).before a0 Z = true) (w2 : (Cond.instanceMethod y).before a0 Z = true) (w4 : (Cond.code y bytes maxL none).before a0 Z = true) (hy : y.cls ≠ "java/lang/invoke/MethodHandle" ∧ y.cls ≠ "java/lang/invoke/VarHandle")
    (hK : Pays l R p e below s args Z y 3 W as' h kc ks QQ) (hQ : ∀ v h' L, QQ v h' L → Fr Z.heap.size L ∧ Keep h h' ws) (hws : ∀ x ∈ ws, Z.heap.size ≤ x) (M : ∀ h', Mark Z EL hm h ws h' (hm' h'))
    {g : JFrame} (hg : g.method = m) (hsize : g.locals.size = c.maxLocals) (hlen : ∀ sig, parseMethodDescriptor y.desc = some sig → argsL.length = sig.parameters.length) (has : (.ref a :: argsL).toArray = as') (hstack : g.stack = argsL.reverse ++ .ref a :: rest) (hW : 2 * g.monitorRoom + (rest.map fun v => v.category).sum ≤ W)
    (hdg : decode c.code g.pc = .ok (.invokespecial index, 3)) (hc : cells + kc ≤ R.cells) (hs : slots + ks ≤ R.slots)
    (k : ∀ (T' : State) (h' : Heap) (v : Option Value) (L : List Loc), Wk N p l e R s m args below meth c Z own EL (hm' h') T' h' (cells + kc) (slots + ks) → QQ v h' L → Keep h h' ws → Goes p.tables e below Q T' { g with pc := g.pc + 3, stack := v.toList ++ rest }) : Goes p.tables e below Q T g := by
  obtain ⟨vm0, locs, k0, h1, X', h3, h4, h5, h6, h7, h8, h9, h10, h11, h12⟩ := X
  obtain ⟨v, vm₁, ⟨T', L', k', n'⟩, -, X2, ⟨L, q, l2, y2, z2⟩, st⟩ := Stand.specialBack (s := s.setVm vm0) X' h4 hy1 h6 (mvT (s := s.setVm vm0) h5 w1) (mvT (s := s.setVm vm0) h5 w2) (mvT (s := s.setVm vm0) h5 w4) hy (hK vm0 h5) hg hsize (Steps.refl _) hlen hstack hW hdg (fun _ _ => ⟨has, h3, hc, hs⟩)
  dsimp only [Pt.U, Pt.locs, Pt.cells, Pt.slots] at X2 l2 y2 z2 st q
  subst l2 y2 z2
  obtain ⟨F, K⟩ := hQ _ _ _ q
  exact Goes.via st (k T' T'.heap v L (Wk.came h1 h4 h5 h6 h7 h8 h9 h10 h11 h12 X2 F K hws (M _)) q K)
theorem Wk.virtual {hm' : Heap → Heap} {C : String} {y z : MethodName} {index W kc ks : Nat} {QQ : Option Value → Heap → List Loc → Prop} {b : Addr} {argsL rest : List Value} {as' : Array Value} {ws : List Addr} (X : Wk N p l e R s m args below meth c Z own EL hm T h cells slots)
    (w1 : (Cond.methodLink own index y).before a0 Z = true) (w2 : (Cond.declares y).before a0 Z = true) (w3 : (Cond.selects C y z).before a0 Z = true) (w4 : (Cond.instanceMethod z).before a0 Z = true) (hy : y.cls ≠ "java/lang/invoke/MethodHandle" ∧ y.cls ≠ "java/lang/invoke/VarHandle") (E : Exa Z h b C)
    (hnf : ∀ vm0, Z.Warmed39 vm0 → NotFace (s.setVm vm0) y)
    (hK : Pays l R p e below s args Z z 3 W as' h kc ks QQ) (hQ : ∀ v h' L, QQ v h' L → Fr Z.heap.size L ∧ Keep h h' ws) (hws : ∀ x ∈ ws, Z.heap.size ≤ x) (M : ∀ h', Mark Z EL hm h ws h' (hm' h'))
    {g : JFrame} (hg : g.method = m) (hsize : g.locals.size = c.maxLocals) (hlen : ∀ sig, parseMethodDescriptor y.desc = some sig → argsL.length = sig.parameters.length) (has : (.ref b :: argsL).toArray = as') (hstack : g.stack = argsL.reverse ++ .ref b :: rest) (hW : 2 * g.monitorRoom + (rest.map fun v => v.category).sum ≤ W)
    (hdg : decode c.code g.pc = .ok (.invokevirtual index, 3)) (hc : cells + kc ≤ R.cells) (hs : slots + ks ≤ R.slots)
    (k : ∀ (T' : State) (h' : Heap) (v : Option Value) (L : List Loc), Wk N p l e R s m args below meth c Z own EL (hm' h') T' h' (cells + kc) (slots + ks) → QQ v h' L → Keep h h' ws → Goes p.tables e below Q T' { g with pc := g.pc + 3, stack := v.toList ++ rest }) : Goes p.tables e below Q T g := by
  obtain ⟨vm0, locs, k0, h1, X', h3, h4, h5, h6, h7, h8, h9, h10, h11, h12⟩ := X
  obtain ⟨cq, kq, qa, qb, qc⟩ := isOf (s := s.setVm vm0) h5 h3 E
  obtain ⟨v, vm₁, ⟨T', L', k', n'⟩, -, X2, ⟨L, q, l2, y2, z2⟩, st⟩ := Stand.virtualBack (s := s.setVm vm0) X' h4 h6 (mvT (s := s.setVm vm0) h5 w1) (mvT (s := s.setVm vm0) h5 w2) (hnf vm0 h5) (mvT (s := s.setVm vm0) h5 w3) (mvT (s := s.setVm vm0) h5 w4) hy (hK vm0 h5) qa qc hg hsize (Steps.refl _) hlen hstack hW hdg (fun _ _ => ⟨has, h3, hc, hs⟩)
  dsimp only [Pt.U, Pt.locs, Pt.cells, Pt.slots] at X2 l2 y2 z2 st q
  subst l2 y2 z2
  obtain ⟨F, K⟩ := hQ _ _ _ q
  exact Goes.via st (k T' T'.heap v L (Wk.came h1 h4 h5 h6 h7 h8 h9 h10 h11 h12 X2 F K hws (M _)) q K)
theorem Wk.staticS {y : MethodName} {bytes : ByteArray} {maxL : Nat} {ret : Option FieldType} {index W kc ks : Nat} {QQ : Option Value → Heap → List Loc → Prop} {argsL rest : List Value} {as' : Array Value} {ws : List Addr} (X : Wk N p l e R s m args below meth c Z own EL hm T h cells slots)
    (w1 : (Cond.methodLink own index y).before a0 Z = true) (w2 : (Cond.static y).before a0 Z = true) (w3 : (Cond.initialized y.cls).before a0 Z = true) (w4 : (Cond.code y bytes maxL ret).before a0 Z = true) (hy : y.cls ≠ "java/lang/invoke/MethodHandle" ∧ y.cls ≠ "java/lang/invoke/VarHandle")
    (hK : PaysS l R p e below s args Z EL y 3 W as' h kc ks QQ) (hQ : ∀ v h' L, QQ v h' L → Fr Z.heap.size L ∧ Keep h h' ws) (hws : ∀ x ∈ ws, Z.heap.size ≤ x)
    {g : JFrame} (hg : g.method = m) (hsize : g.locals.size = c.maxLocals) (hlen : ∀ sig, parseMethodDescriptor y.desc = some sig → argsL.length = sig.parameters.length) (has : argsL.toArray = as') (hstack : g.stack = argsL.reverse ++ rest) (hW : 2 * g.monitorRoom + (rest.map fun v => v.category).sum ≤ W)
    (hdg : decode c.code g.pc = .ok (.invokestatic index, 3)) (hc : cells + kc ≤ R.cells) (hs : slots + ks ≤ R.slots)
    (k : ∀ (T' : State) (h' : Heap) (v : Option Value) (L : List Loc), Wk False p l e R s m args below meth c Z own EL h' T' h' (cells + kc) (slots + ks) → QQ v h' L → Keep h h' ws → Goes p.tables e below Q T' { g with pc := g.pc + 3, stack := v.toList ++ rest }) : Goes p.tables e below Q T g := by
  obtain ⟨vm0, locs, k0, h1, X', h3, h4, h5, h6, h7, h8, h9, h10, h11, h12⟩ := X
  have C1 := h10.trans (CHr.ext h11 h10.1)
  obtain ⟨v, vm₁, ⟨T', L', k', n'⟩, -, X2, S2, -, ⟨L, q, l2, y2, z2, C2⟩, st⟩ := callSS (s := s.setVm vm0) X' h4 h6 (mvT (s := s.setVm vm0) h5 w1) (mvT (s := s.setVm vm0) h5 w2) (mvT (s := s.setVm vm0) h5 w3) (mvT (s := s.setVm vm0) h5 w4) hy (hK vm0 h5 C1.1) hg hsize hlen hstack hW hdg (fun _ _ => ⟨has, h3, hc, hs⟩)
  dsimp only [Pt.U, Pt.locs, Pt.cells, Pt.slots] at X2 S2 l2 y2 z2 st q C2
  subst l2 y2 z2
  obtain ⟨F, K⟩ := hQ _ _ _ q
  exact Goes.via st (k T' T'.heap v L (Wk.cameS h4 h5 h6 h7 h8 h9 C1 h12 X2 S2 F K hws C2) q K)
theorem Wk.specialS {y : MethodName} {bytes : ByteArray} {maxL : Nat} {index W kc ks : Nat} {QQ : Option Value → Heap → List Loc → Prop} {a : Addr} {argsL rest : List Value} {as' : Array Value} {ws : List Addr} (X : Wk N p l e R s m args below meth c Z own EL hm T h cells slots)
    (hy1 : y.name = "<init>") (w1 : (Cond.methodLink own index y).before a0 Z = true) (w2 : (Cond.instanceMethod y).before a0 Z = true) (w4 : (Cond.code y bytes maxL none).before a0 Z = true) (hy : y.cls ≠ "java/lang/invoke/MethodHandle" ∧ y.cls ≠ "java/lang/invoke/VarHandle")
    (hK : PaysS l R p e below s args Z EL y 3 W as' h kc ks QQ) (hQ : ∀ v h' L, QQ v h' L → Fr Z.heap.size L ∧ Keep h h' ws) (hws : ∀ x ∈ ws, Z.heap.size ≤ x)
    {g : JFrame} (hg : g.method = m) (hsize : g.locals.size = c.maxLocals) (hlen : ∀ sig, parseMethodDescriptor y.desc = some sig → argsL.length = sig.parameters.length) (has : (.ref a :: argsL).toArray = as') (hstack : g.stack = argsL.reverse ++ .ref a :: rest) (hW : 2 * g.monitorRoom + (rest.map fun v => v.category).sum ≤ W)
    (hdg : decode c.code g.pc = .ok (.invokespecial index, 3)) (hc : cells + kc ≤ R.cells) (hs : slots + ks ≤ R.slots)
    (k : ∀ (T' : State) (h' : Heap) (v : Option Value) (L : List Loc), Wk False p l e R s m args below meth c Z own EL h' T' h' (cells + kc) (slots + ks) → QQ v h' L → Keep h h' ws → Goes p.tables e below Q T' { g with pc := g.pc + 3, stack := v.toList ++ rest }) : Goes p.tables e below Q T g := by
  obtain ⟨vm0, locs, k0, h1, X', h3, h4, h5, h6, h7, h8, h9, h10, h11, h12⟩ := X
  have C1 := h10.trans (CHr.ext h11 h10.1)
  obtain ⟨v, vm₁, ⟨T', L', k', n'⟩, -, X2, S2, -, ⟨L, q, l2, y2, z2, C2⟩, st⟩ := Stand.specialBackS (s := s.setVm vm0) X' h4 hy1 h6 (mvT (s := s.setVm vm0) h5 w1) (mvT (s := s.setVm vm0) h5 w2) (mvT (s := s.setVm vm0) h5 w4) hy (hK vm0 h5 C1.1) hg hsize (Steps.refl _) hlen hstack hW hdg (fun _ _ => ⟨has, h3, hc, hs⟩)
  dsimp only [Pt.U, Pt.locs, Pt.cells, Pt.slots] at X2 S2 l2 y2 z2 st q C2
  subst l2 y2 z2
  obtain ⟨F, K⟩ := hQ _ _ _ q
  exact Goes.via st (k T' T'.heap v L (Wk.cameS h4 h5 h6 h7 h8 h9 C1 h12 X2 S2 F K hws C2) q K)
theorem Wk.virtualS {C : String} {y z : MethodName} {index W kc ks : Nat} {QQ : Option Value → Heap → List Loc → Prop} {b : Addr} {argsL rest : List Value} {as' : Array Value} {ws : List Addr} (X : Wk N p l e R s m args below meth c Z own EL hm T h cells slots)
    (w1 : (Cond.methodLink own index y).before a0 Z = true) (w2 : (Cond.declares y).before a0 Z = true) (w3 : (Cond.selects C y z).before a0 Z = true) (w4 : (Cond.instanceMethod z).before a0 Z = true) (hy : y.cls ≠ "java/lang/invoke/MethodHandle" ∧ y.cls ≠ "java/lang/invoke/VarHandle") (E : Exa Z h b C)
    (hnf : ∀ vm0, Z.Warmed39 vm0 → NotFace (s.setVm vm0) y)
    (hK : PaysS l R p e below s args Z EL z 3 W as' h kc ks QQ) (hQ : ∀ v h' L, QQ v h' L → Fr Z.heap.size L ∧ Keep h h' ws) (hws : ∀ x ∈ ws, Z.heap.size ≤ x)
    {g : JFrame} (hg : g.method = m) (hsize : g.locals.size = c.maxLocals) (hlen : ∀ sig, parseMethodDescriptor y.desc = some sig → argsL.length = sig.parameters.length) (has : (.ref b :: argsL).toArray = as') (hstack : g.stack = argsL.reverse ++ .ref b :: rest) (hW : 2 * g.monitorRoom + (rest.map fun v => v.category).sum ≤ W)
    (hdg : decode c.code g.pc = .ok (.invokevirtual index, 3)) (hc : cells + kc ≤ R.cells) (hs : slots + ks ≤ R.slots)
    (k : ∀ (T' : State) (h' : Heap) (v : Option Value) (L : List Loc), Wk False p l e R s m args below meth c Z own EL h' T' h' (cells + kc) (slots + ks) → QQ v h' L → Keep h h' ws → Goes p.tables e below Q T' { g with pc := g.pc + 3, stack := v.toList ++ rest }) : Goes p.tables e below Q T g := by
  obtain ⟨vm0, locs, k0, h1, X', h3, h4, h5, h6, h7, h8, h9, h10, h11, h12⟩ := X
  obtain ⟨cq, kq, qa, qb, qc⟩ := isOf (s := s.setVm vm0) h5 h3 E
  have C1 := h10.trans (CHr.ext h11 h10.1)
  obtain ⟨v, vm₁, ⟨T', L', k', n'⟩, -, X2, S2, -, ⟨L, q, l2, y2, z2, C2⟩, st⟩ := Stand.virtualBackS (s := s.setVm vm0) X' h4 h6 (mvT (s := s.setVm vm0) h5 w1) (mvT (s := s.setVm vm0) h5 w2) (hnf vm0 h5) (mvT (s := s.setVm vm0) h5 w3) (mvT (s := s.setVm vm0) h5 w4) hy (hK vm0 h5 C1.1) qa qc hg hsize (Steps.refl _) hlen hstack hW hdg (fun _ _ => ⟨has, h3, hc, hs⟩)
  dsimp only [Pt.U, Pt.locs, Pt.cells, Pt.slots] at X2 S2 l2 y2 z2 st q C2
  subst l2 y2 z2
  obtain ⟨F, K⟩ := hQ _ _ _ q
  exact Goes.via st (k T' T'.heap v L (Wk.cameS h4 h5 h6 h7 h8 h9 C1 h12 X2 S2 F K hws C2) q K)
theorem nf_sel {C : String} {y : MethodName} (w3 : (Cond.selects C y y).before a0 Z = true) : ∀ vm0, Z.Warmed39 vm0 → NotFace (s.setVm vm0) y := fun vm0 h5 => notFace_of_selects (args := #[]) (mvT (s := s.setVm vm0) h5 w3)
/-! entering a body -/
theorem CHv.none {vm : Vm} : CHv Z [] vm h := fun _ hp => by cases hp
theorem CtrN.of {y : MethodName} {bytes : ByteArray} {maxL : Nat} {ret : Option FieldType} {rm : Room} {as' : Array Value} {h0 : Heap} {Qv : Option Value → Heap → Prop} (hpn : plainFor y = true) (hO : Ext Z.heap h0)
    (body : ∀ (p : Program) (e : Env) (s : State) (m : MethodId) (below : List Frame) (meth : Method) (c : Code) (T : State), Wk True p l e rm s m as' below meth c Z y.cls [] h0 T h0 0 0 → s.heap = h0 → c.code = bytes → c.maxLocals = maxL → meth.sig.returnType = ret → meth.locks = false → meth.name = y.name →
      Goes p.tables e below (EndN Z s rm.cells rm.slots Qv) T (entryFrame m as' maxL)) : CtrN l Z y bytes maxL ret rm as' h0 Qv := by
  intro ws
  refine MetFree.of_bodySF hpn hisR ?_
  intro p e s m args below meth c s₁ Bd hml0 hP hK
  obtain ⟨rfl, hZ, hh⟩ := hP
  have hown := findClass_of_methodNamed Bd.named
  have hnm := (name_of_methodNamed Bd.named Bd.method).1
  have e0 : s₁.heap = h0 := by rw [← hh, Bd.state]; rfl
  exact body p e s m below meth c s₁ (Wk.start (Stand.of_body Bd) e0 hh Bd.exec hZ hown CHv.none hO) hh Bd.bytes hml0 Bd.returns Bd.notSynchronized hnm
theorem CtrS.of {y : MethodName} {bytes : ByteArray} {maxL : Nat} {ret : Option FieldType} {rm : Room} {as' : Array Value} {h0 : Heap} {Qv : Option Value → Heap → Prop} (hpn : plainFor y = true) (hO : Ext Z.heap h0)
    (body : ∀ (p : Program) (e : Env) (s : State) (m : MethodId) (below : List Frame) (meth : Method) (c : Code) (T : State), Wk False p l e rm s m as' below meth c Z y.cls EL h0 T h0 0 0 → s.heap = h0 → c.code = bytes → c.maxLocals = maxL → meth.sig.returnType = ret → meth.locks = false → meth.name = y.name →
      Goes p.tables e below (EndS Z s EL rm.cells rm.slots Qv) T (entryFrame m as' maxL)) : CtrS l Z EL y bytes maxL ret rm as' h0 Qv := by
  intro ws
  refine MetFree.of_bodySF hpn hisR ?_
  intro p e s m args below meth c s₁ Bd hml0 hP hK
  obtain ⟨rfl, hZ, hh, hC⟩ := hP
  have hown := findClass_of_methodNamed Bd.named
  have hnm := (name_of_methodNamed Bd.named Bd.method).1
  have e0 : s₁.heap = h0 := by rw [← hh, Bd.state]; rfl
  exact body p e s m below meth c s₁ (Wk.start (Stand.of_body Bd) e0 hh Bd.exec hZ hown hC hO) hh Bd.bytes hml0 Bd.returns Bd.notSynchronized hnm
end Walk
/-! branches -/
section Branch
variable {tb : Tables} [Ours tb] {e : Env} {below : List Frame} {Q : Outcome → State → Prop} {T : State} {m : MethodId} {c : Code} {Ls : Array Slot} {rest : List Value} {pc pc' : Nat} {o : Int} {x y : Int32} {cd : ClassFile.Cond}
abbrev cdP (cd : ClassFile.Cond) (x y : Int32) : Prop := match cd with
  | .eq => x = y
  | .ne => ¬ x = y
  | .lt => x < y
  | .ge => ¬ x < y
  | .gt => y < x
  | .le => ¬ y < x
theorem cd_t (h : cdP cd x y) : if_icmp.holds cd x y = true := by
  cases cd
  · exact (teq h).1
  · exact (feq h).2
  · exact (tlt h).1
  · exact (flt h).2.1
  · exact (tlt h).2.2.1
  · exact (flt h).2.2.2
theorem cd_f (h : ¬ cdP cd x y) : if_icmp.holds cd x y = false := by
  cases cd
  · exact (feq h).1
  · exact (teq (Classical.not_not.mp h)).2
  · exact (flt h).1
  · exact (tlt (Classical.not_not.mp h)).2.1
  · exact (flt h).2.2.1
  · exact (tlt (Classical.not_not.mp h)).2.2.2
theorem Goes.icmp (h : At T m c below) (hx : tb.exec = Jvm.exec) (hd : decode c.code pc = .ok (.if_icmp cd o, 3)) (ho : 0 ≤ (pc : Int) + o) (hp : ((pc : Int) + o).toNat = pc')
    (kt : cdP cd x y → Goes tb e below Q T (mkF m pc' Ls rest)) (kf : ¬ cdP cd x y → Goes tb e below Q T (mkF m (pc + 3) Ls rest)) : Goes tb e below Q T (mkF m pc Ls (.int y :: .int x :: rest)) := by
  by_cases q : cdP cd x y
  · exact Goes.go (fun _ => XS.icmpYes h hx rfl rfl hd rfl (cd_t q) ho hp) (kt q)
  · exact Goes.go (fun _ => XS.icmpNo h hx rfl hd rfl (cd_f q)) (kf q)
theorem Goes.ifc (h : At T m c below) (hx : tb.exec = Jvm.exec) (hd : decode c.code pc = .ok (.ifCond cd o, 3)) (ho : 0 ≤ (pc : Int) + o) (hp : ((pc : Int) + o).toNat = pc')
    (kt : cdP cd x 0 → Goes tb e below Q T (mkF m pc' Ls rest)) (kf : ¬ cdP cd x 0 → Goes tb e below Q T (mkF m (pc + 3) Ls rest)) : Goes tb e below Q T (mkF m pc Ls (.int x :: rest)) := by
  by_cases q : cdP cd x 0
  · exact Goes.go (fun _ => XS.ifYes h hx rfl rfl hd rfl ((if0 _ _).trans (cd_t q)) ho hp) (kt q)
  · exact Goes.go (fun _ => XS.ifNo h hx rfl hd rfl ((if0 _ _).trans (cd_f q))) (kf q)
theorem Goes.acmp {ac : ClassFile.ACond} {u v : Value} (h : At T m c below) (hx : tb.exec = Jvm.exec) (hd : decode c.code pc = .ok (.if_acmp ac o, 3)) (r1 : u.isRef = true) (r2 : v.isRef = true) (ho : 0 ≤ (pc : Int) + o) (hp : ((pc : Int) + o).toNat = pc')
    (kt : Jvm.Free.XT.acmp ac u v = true → Goes tb e below Q T (mkF m pc' Ls rest)) (kf : Jvm.Free.XT.acmp ac u v = false → Goes tb e below Q T (mkF m (pc + 3) Ls rest)) : Goes tb e below Q T (mkF m pc Ls (v :: u :: rest)) := by
  cases q : Jvm.Free.XT.acmp ac u v
  · exact Goes.go (fun _ => Jvm.Free.XT.acmpNo h hx rfl hd rfl r1 r2 q) (kf q)
  · exact Goes.go (fun _ => Jvm.Free.XT.acmpYes h hx rfl rfl hd rfl r1 r2 q ho hp) (kt q)
end Branch
/-! Strings of Latin-1 chars -/
section Strs
variable {Z : State} {a0 : Array Value} {h h' : Heap} {a x : Addr} {cs : List Int32}
/-- a String whose chars are cs, each 0 to 255 -/
def LStr (Z : State) (h : Heap) (a : Addr) (cs : List Int32) : Prop :=
  Exa Z h a "java/lang/String" ∧ Fld Z h a "java/lang/String" "coder" "B" (.int 0) ∧ (∃ (t : Addr) (kb : ClassId), Fld Z h a "java/lang/String" "value" "[B" (.ref t) ∧ Arv Z h t kb .byte (Int32.ofNat cs.length) ((cs.map fun c => c.toInt8.toInt32).map Value.int) (.int 0)) ∧ (∀ c ∈ cs, ¬ c < 0 ∧ ¬ (255 : Int32) < c) ∧ cs.length ≤ 4000
theorem LStr.ext (S : LStr Z h a cs) (E : Ext h h') : LStr Z h' a cs := by
  obtain ⟨h1, h2, ⟨t, kb, h3, h4⟩, h5⟩ := S
  exact ⟨h1.ext E, h2.ext E, ⟨t, kb, h3.ext E, h4.ext E⟩, h5⟩
theorem LStr.keep {C : String} {n : Nat} (S : LStr Z h a cs) (K : Keep h h' [x]) (E : Exa Z h x C) (hC : C ≠ "java/lang/String") (wi : (Cond.instantiable C n).before a0 Z = true) : LStr Z h' a cs := by
  obtain ⟨h1, h2, ⟨t, kb, h3, h4⟩, h5⟩ := S
  have n1 : a ∉ [x] := fun q => by cases List.mem_singleton.mp q; exact Exa.ne h1 E (Ne.symm hC) rfl
  have n2 : t ∉ [x] := fun q => by cases List.mem_singleton.mp q; exact Exa.neArv E h4 wi rfl
  exact ⟨h1.keep K, h2.keep K n1, ⟨t, kb, h3.keep K n1, h4.keep K n2⟩, h5⟩
theorem LStr.keep2 {C D : String} {n k : Nat} {y : Addr} (S : LStr Z h a cs) (K : Keep h h' [x, y]) (E : Exa Z h x C) (hC : C ≠ "java/lang/String") (wi : (Cond.instantiable C n).before a0 Z = true) (E' : Exa Z h y D) (hD : D ≠ "java/lang/String") (wi' : (Cond.instantiable D k).before a0 Z = true) : LStr Z h' a cs := by
  obtain ⟨h1, h2, ⟨t, kb, h3, h4⟩, h5⟩ := S
  have n1 : a ∉ [x, y] := ninS (Exa.ne h1 E (Ne.symm hC)) (ninS (Exa.ne h1 E' (Ne.symm hD)) nin0)
  have n2 : t ∉ [x, y] := ninS (Exa.neArv E h4 wi).symm (ninS (Exa.neArv E' h4 wi').symm nin0)
  exact ⟨h1.keep K, h2.keep K n1, ⟨t, kb, h3.keep K n1, h4.keep K n2⟩, h5⟩
/-- a String under construction (its value still null) is no literal's -/
theorem SafeA.null {EL : List (String × Nat)} (E : Exa Z h x "java/lang/String") (V : Fld Z h x "java/lang/String" "value" "[B" .null) : SafeA Z EL h x := fun vm hal B => by
  obtain ⟨p, -, u, a, -, q, -, F, hy⟩ := B
  have Fa := F.ha
  have Fd := F.hd
  obtain ⟨cS, ⟨⟨s1, s2, s3, ⟨cv, kv, iv, s4, s4'⟩, ⟨cc, kc, ic, s5, s5'⟩, s6, s7, s8, s9, s10, s11, s12, s13, s14, s15, s16⟩, hfS, hcS⟩, ⟨kS, k1, k2, k3⟩, hB, hbyt⟩ := F
  obtain ⟨c1, kx, e1, e2, e3, e4, e5⟩ := E
  obtain ⟨c2, cf, k, i, f, v1, v2, v3, v4, v5, v6, v7⟩ := V
  cases e1.symm.trans v1
  rcases hy with rfl | rfl
  · obtain ⟨kv', z4⟩ := ff_back (U := Wst Z vm h) hal s4
    have z4 : Z.fieldFound? "java/lang/String" "value" "[B" = _ := z4
    rw [v2] at z4
    simp only [Option.some.injEq, Prod.mk.injEq] at z4
    cases (show h[q.sa]? = some q.sC from s1).symm.trans e1
    rw [z4.2.2.2, s8] at v7
    cases v7
  · cases (show h[q.sd]? = some q.SA from s10).symm.trans e1
    obtain ⟨-, kA, hkA, comp, hkind⟩ := s11
    have hfS' : vm.findClass "java/lang/String" = some cS := hfS
    rw [hal.findClass] at hfS'
    cases hfS'.symm.trans e2
    cases (show vm.classes[q.SA.cls]? = some kS from k1).symm.trans (show vm.classes[q.SA.cls]? = some kA from hkA)
    rw [k2] at hkind
    cases hkind
theorem LStr.lt (S : LStr Z h a cs) : a < h.size := S.1.lt
end Strs
end Jvm.OwnKit
namespace Jvm.OwnKit
open Sem ClassFile Op Lib Jvm.Stand Jvm.Free Jvm.Free.NT Jvm.LawKit Jvm.RoadKit Bundle
/-! the author's own layer: calls through an interface, floats, Class objects -/
section Walk2
variable {N : Prop} {p : Program} {l : Launch} {e : Env} {R : Room} {s : State} {m : MethodId} {args : Array Value} {below : List Frame} {meth : Method} {c : Code} {Z : State} {a0 : Array Value} {own : String} {EL : List (String × Nat)} {hm : Heap} {T : State} {h : Heap} {cells slots : Nat} {Q : Outcome → State → Prop} {g : JFrame}
theorem Wk.iface {hm' : Heap → Heap} {C : String} {y z : MethodName} {index count W kc ks : Nat} {QQ : Option Value → Heap → List Loc → Prop} {b : Addr} {argsL rest : List Value} {as' : Array Value} {ws : List Addr} (X : Wk N p l e R s m args below meth c Z own EL hm T h cells slots)
    (w1 : (Cond.methodLink own index y).before a0 Z = true) (w2 : (Cond.declares y).before a0 Z = true) (wf : (Cond.interfaceMethod y.cls y.cls y.name y.desc).before a0 Z = true) (w3 : (Cond.selects C y z).before a0 Z = true) (w4 : (Cond.instanceMethod z).before a0 Z = true) (wp : (Cond.publicMethod z).before a0 Z = true) (wu : (Cond.unhidden C y.name y.desc).before a0 Z = true) (wc : (Cond.castable C y.cls).before a0 Z = true) (hy : y.cls ≠ "java/lang/invoke/MethodHandle" ∧ y.cls ≠ "java/lang/invoke/VarHandle") (E : Exa Z h b C)
    (hK : Pays l R p e below s args Z z 5 W as' h kc ks QQ) (hQ : ∀ v h' L, QQ v h' L → Fr Z.heap.size L ∧ Keep h h' ws) (hws : ∀ x ∈ ws, Z.heap.size ≤ x) (M : ∀ h', Mark Z EL hm h ws h' (hm' h'))
    {g : JFrame} (hg : g.method = m) (hsize : g.locals.size = c.maxLocals) (hlen : ∀ sig, parseMethodDescriptor y.desc = some sig → argsL.length = sig.parameters.length) (has : (.ref b :: argsL).toArray = as') (hstack : g.stack = argsL.reverse ++ .ref b :: rest) (hW : 2 * g.monitorRoom + (rest.map fun v => v.category).sum ≤ W)
    (hdg : decode c.code g.pc = .ok (.invokeinterface index count, 5)) (hc : cells + kc ≤ R.cells) (hs : slots + ks ≤ R.slots)
    (k : ∀ (T' : State) (h' : Heap) (v : Option Value) (L : List Loc), Wk N p l e R s m args below meth c Z own EL (hm' h') T' h' (cells + kc) (slots + ks) → QQ v h' L → Keep h h' ws → Goes p.tables e below Q T' { g with pc := g.pc + 5, stack := v.toList ++ rest }) : Goes p.tables e below Q T g := by
  obtain ⟨vm0, locs, k0, h1, X', h3, h4, h5, h6, h7, h8, h9, h10, h11, h12⟩ := X
  obtain ⟨cq, kq, qa, qb, qc⟩ := isOf (s := s.setVm vm0) h5 h3 E
  obtain ⟨v, vm₁, ⟨T', L', k', n'⟩, -, X2, ⟨L, q, l2, y2, z2⟩, st⟩ := Stand.interfaceBack (s := s.setVm vm0) X' h4 h6 (mvT (s := s.setVm vm0) h5 w1) (mvT (s := s.setVm vm0) h5 w2) (Jvm.Free.ULB.iface_rides (s := Z) (U := s.setVm vm0) h5.alike wf) (mvT (s := s.setVm vm0) h5 w3) (mvT (s := s.setVm vm0) h5 w4) (mvT (s := s.setVm vm0) h5 wp) (mvT (s := s.setVm vm0) h5 wu) (mvT (s := s.setVm vm0) h5 wc) hy (hK vm0 h5) qa qb qc hg hsize (Steps.refl _) hlen hstack hW hdg (fun _ _ => ⟨has, h3, hc, hs⟩)
  dsimp only [Pt.U, Pt.locs, Pt.cells, Pt.slots] at X2 l2 y2 z2 st q
  subst l2 y2 z2
  obtain ⟨F, K⟩ := hQ _ _ _ q
  exact Goes.via st (k T' T'.heap v L (Wk.came h1 h4 h5 h6 h7 h8 h9 h10 h11 h12 X2 F K hws (M _)) q K)
theorem Wk.priv {hm' : Heap → Heap} {C : String} {y : MethodName} {bytes : ByteArray} {maxL : Nat} {ret : Option FieldType} {index W kc ks : Nat} {QQ : Option Value → Heap → List Loc → Prop} {b : Addr} {argsL rest : List Value} {as' : Array Value} {ws : List Addr} (X : Wk N p l e R s m args below meth c Z own EL hm T h cells slots)
    (w1 : (Cond.methodLink own index y).before a0 Z = true) (w2 : (Cond.instanceMethod y).before a0 Z = true) (w3 : (Cond.selects y.cls y y).before a0 Z = true) (wp : (Cond.privateMethod y).before a0 Z = true) (w4 : (Cond.code y bytes maxL ret).before a0 Z = true) (hy : y.cls ≠ "java/lang/invoke/MethodHandle" ∧ y.cls ≠ "java/lang/invoke/VarHandle") (E : Exa Z h b C)
    (hK : Pays l R p e below s args Z y 3 W as' h kc ks QQ) (hQ : ∀ v h' L, QQ v h' L → Fr Z.heap.size L ∧ Keep h h' ws) (hws : ∀ x ∈ ws, Z.heap.size ≤ x) (M : ∀ h', Mark Z EL hm h ws h' (hm' h'))
    {g : JFrame} (hg : g.method = m) (hsize : g.locals.size = c.maxLocals) (hlen : ∀ sig, parseMethodDescriptor y.desc = some sig → argsL.length = sig.parameters.length) (has : (.ref b :: argsL).toArray = as') (hstack : g.stack = argsL.reverse ++ .ref b :: rest) (hW : 2 * g.monitorRoom + (rest.map fun v => v.category).sum ≤ W)
    (hdg : decode c.code g.pc = .ok (.invokevirtual index, 3)) (hc : cells + kc ≤ R.cells) (hs : slots + ks ≤ R.slots)
    (k : ∀ (T' : State) (h' : Heap) (v : Option Value) (L : List Loc), Wk N p l e R s m args below meth c Z own EL (hm' h') T' h' (cells + kc) (slots + ks) → QQ v h' L → Keep h h' ws → Goes p.tables e below Q T' { g with pc := g.pc + 3, stack := v.toList ++ rest }) : Goes p.tables e below Q T g := by
  obtain ⟨vm0, locs, k0, h1, X', h3, h4, h5, h6, h7, h8, h9, h10, h11, h12⟩ := X
  obtain ⟨cq, kq, qa, qb, cell, qc, -, qd⟩ := isOf (s := s.setVm vm0) h5 h3 E
  obtain ⟨v, vm₁, ⟨T', L', k', n'⟩, -, X2, ⟨L, q, l2, y2, z2⟩, st⟩ := Stand.privateBack (s := s.setVm vm0) X' h4 h6 (mvT (s := s.setVm vm0) h5 w1) (mvT (s := s.setVm vm0) h5 w2) (mvT (s := s.setVm vm0) h5 w3) (Cond.privateMethod_at (args := args) (mvP (s := s.setVm vm0) h5 wp)) (mvT (s := s.setVm vm0) h5 w4) hy (hK vm0 h5) hg hsize (Steps.refl _) qc (fun z hh => by rw [hh] at qd; cases qd) hlen hstack hW hdg (fun _ _ => ⟨has, h3, hc, hs⟩)
  dsimp only [Pt.U, Pt.locs, Pt.cells, Pt.slots] at X2 l2 y2 z2 st q
  subst l2 y2 z2
  obtain ⟨F, K⟩ := hQ _ _ _ q
  exact Goes.via st (k T' T'.heap v L (Wk.came h1 h4 h5 h6 h7 h8 h9 h10 h11 h12 X2 F K hws (M _)) q K)
theorem Wk.ldcF (X : Wk N p l e R s m args below meth c Z own EL hm T h cells slots) {index : Nat} {v : UInt32} (w : (Cond.constantFloat own index v).before a0 Z = true) {g : JFrame} (hg : g.method = m) (hd : decode c.code g.pc = .ok (.ldc index, 2)) : ∀ t, Steps p.tables e below (T.setTop { g with pc := g.pc + 2, stack := .float v :: g.stack }) t → Steps p.tables e below (T.setTop g) t := by
  obtain ⟨vm0, locs, k0, h1, X', h3, h4, h5, h6, r⟩ := X
  exact X'.ldcFloatC h4 h6 (mv (s := s.setVm vm0) h5 w) hg hd
theorem Wk.iaload (X : Wk N p l e R s m args below meth c Z own EL hm T h cells slots) {a : Addr} {cl : Cell} {j : Int32} {v : Value} (A : Arr Z h a cl .int) (hj : ¬ (j < 0 ∨ cl.slots.size ≤ j.toNatClampNeg)) (hv : cl.slots[j.toNatClampNeg]? = some v)
    {g : JFrame} (hg : g.method = m) {rest : List Value} (hs : g.stack = .int j :: .ref a :: rest) (hd : decode c.code g.pc = .ok (.iaload, 1)) : ∀ t, Steps p.tables e below (T.setTop { g with pc := g.pc + 1, stack := v :: rest }) t → Steps p.tables e below (T.setTop g) t := by
  obtain ⟨vm0, locs, k0, h1, X', h3, h4, h5, r⟩ := X
  intro t k
  exact X'.iaload h4 (j := j) (v := v) (by rw [h3]; exact A.1) (State.isArrayOf_alike h5.alike A.2.1) A.2.2 hj hv hg hs hd t k
/-- the class's Class object -/
def MirC (Z : State) (C : String) (a : Addr) : Prop := (Term.mirror C).eval #[] Z none [] Z = some (.ref a)
theorem MirC.of {C : String} (q : ∃ c k a, Z.vm.findClass C = some c ∧ Z.vm.classes[c]? = some k ∧ k.mirror = some a) : ∃ a, MirC Z C a := by
  obtain ⟨c, k, a, q1, q2, q3⟩ := q
  exact ⟨a, by simp [MirC, Term.eval, q1, q2, q3]⟩
theorem Wk.ldcM (X : Wk N p l e R s m args below meth c Z own EL hm T h cells slots) {C : String} {index : Nat} {a : Addr} (w : (Cond.classLink own index C).before a0 Z = true) (M : MirC Z C a) {g : JFrame} (hg : g.method = m) (hd : decode c.code g.pc = .ok (.ldc index, 2))
    (k : ∀ T', Wk N p l e R s m args below meth c Z own EL hm T' h cells slots → Goes p.tables e below Q T' { g with pc := g.pc + 2, stack := .ref a :: g.stack }) : Goes p.tables e below Q T g := by
  obtain ⟨vm0, locs, k0, h1, X', h3, h4, h5, h6, r⟩ := X
  obtain ⟨vm', X2, st⟩ := X'.ldcMirror h4 h6 (mv (s := s.setVm vm0) h5 w) (Jvm.Free.ALB.Dup.mirror_any (U' := s.setVm vm0) h5.alike M) hg hd
  exact Goes.go st (k _ ⟨vm0, locs, k0, h1, X2, h3, h4, h5, h6, r⟩)
theorem Wk.getClass {C J : String} {y : MethodName} {index count W : Nat} {b a : Addr} {rest : List Value} (X : Wk N p l e R s m args below meth c Z own EL hm T h cells slots)
    (w1 : (Cond.methodLink own index y).before a0 Z = true) (w2 : (Cond.declares ⟨J, y.name, y.desc⟩).before a0 Z = true) (wj : (Cond.publicMethod ⟨J, y.name, y.desc⟩).before a0 Z = true) (wf : (Cond.interfaceMethod y.cls J y.name y.desc).before a0 Z = true) (hxo : y.cls ≠ J) (w3 : (Cond.selects C y getClassN).before a0 Z = true) (w4 : (Cond.instanceMethod getClassN).before a0 Z = true) (wp : (Cond.publicMethod getClassN).before a0 Z = true) (wu : (Cond.unhidden C y.name y.desc).before a0 Z = true) (wc : (Cond.castable C y.cls).before a0 Z = true) (wn : (Cond.native getClassN).before a0 Z = true) (hy : y.cls ≠ "java/lang/invoke/MethodHandle" ∧ y.cls ≠ "java/lang/invoke/VarHandle") (E : Exa Z h b C) (M : MirC Z C a)
    (hfr : 1 ≤ R.frames) (hlo : W + 14 ≤ R.locals) {g : JFrame} (hg : g.method = m) (hsize : g.locals.size = c.maxLocals) (hlen : ∀ sig, parseMethodDescriptor y.desc = some sig → ([] : List Value).length = sig.parameters.length) (hstack : g.stack = .ref b :: rest) (hW : 2 * g.monitorRoom + (rest.map fun v => v.category).sum ≤ W)
    (hdg : decode c.code g.pc = .ok (.invokeinterface index count, 5))
    (k : ∀ T', Wk N p l e R s m args below meth c Z own EL hm T' h cells slots → Goes p.tables e below Q T' { g with pc := g.pc + 5, stack := .ref a :: rest }) : Goes p.tables e below Q T g := by
  obtain ⟨vm0, locs, k0, h1, X', h3, h4, h5, h6, r⟩ := X
  obtain ⟨cq, kq, qa, qb, qc⟩ := isOf (s := s.setVm vm0) h5 h3 E
  obtain ⟨c', k', a', m1, m2, m3, m4⟩ := Term.mirror_spec M
  cases m4
  have qa' := qa
  rw [show (s.setVm vm0).vm = vm0 from rfl, h5.alike.findClass] at qa'
  cases m1.symm.trans qa'
  have hP : ∀ vm₁, (s.setVm vm0).WarmedH vm₁ → GetClass.P (b, cq, k', a) #[.ref b] (T.setVm vm₁) := fun vm₁ hw => ⟨rfl, qc, (RecordOf.of m2).move (U' := T.setVm vm₁) (h5.alike.trans hw.alike), m3⟩
  obtain ⟨v, vm₁, B, hw1, X2, ⟨rfl, hv⟩, st⟩ := Stand.interfaceBackUp (s := s.setVm vm0) X' h4 h6 (mvT (s := s.setVm vm0) h5 w1) (mvT (s := s.setVm vm0) h5 w2) (mvT (s := s.setVm vm0) h5 wj) (Jvm.Free.ULB.iface_rides (s := Z) (U := s.setVm vm0) h5.alike wf) hxo (mvT (s := s.setVm vm0) h5 w3) (mvT (s := s.setVm vm0) h5 w4) (mvT (s := s.setVm vm0) h5 wp) (mvT (s := s.setVm vm0) h5 wu) (mvT (s := s.setVm vm0) h5 wc) hy (GetClass.pays (W := W) (mvT (s := s.setVm vm0) h5 wn) (mvT (s := s.setVm vm0) h5 w4) hfr hlo) qa qb qc hg hsize (Steps.refl _) (argsL := []) hlen hstack hW hdg (fun vm₁ hw => ⟨_, hP vm₁ hw⟩)
  obtain rfl := hv _ (hP vm₁ hw1)
  exact Goes.via st (k _ ⟨vm0, locs, k0, h1, X2, h3, h4, h5, h6, r⟩)
end Walk2
end Jvm.OwnKit
/- laws to paste: Road.backV, Road.lenW, Road.codOf (cut by pick.py; bodies as the Statement names them) -/
namespace Jvm.Pilot.@@N@@
namespace StrChars
open Jvm Sem ClassFile Op Lib Jvm.Stand Jvm.Free.XT Jvm.Free.ALB Jvm.Free.JM Jvm.Free
open Jvm.Lib.Cold (StaticIs)
/-- a char array whose places are chars -/
def Ch (a : Addr) (A : Cell) (U : State) : Prop := Arr .char a A U ∧ Typed .char A
theorem Ch.mv {a : Addr} {A : Cell} {U U' : State} (h : Ch a A U) (hal : U.vm.Alike U'.vm) (hh : U'.heap = U.heap) : Ch a A U' := ⟨h.1.mv hal hh, h.2⟩
theorem Ch.keep {a : Addr} {A : Cell} {U U' : State} (h : Ch a A U) (hal : U.vm.Alike U'.vm) (hk : U'.heap[a]? = some A) : Ch a A U' := ⟨h.1.keep hal hk, h.2⟩
/-- what place i of a char[]'s cell holds -/
def cv (A : Cell) (i : Nat) : Int32 := match A.slots[i]? with | some (.int x) => x | _ => 0
theorem Ch.get {a : Addr} {A : Cell} {U : State} (h : Ch a A U) {i : Nat} (hi : i < A.slots.size) : A.slots[i]? = some (.int (cv A i)) := by
  have e := Array.getElem?_eq_getElem hi
  have f := h.2 i _ e
  unfold cv; rw [e]
  generalize A.slots[i] = v at f
  cases v <;> simp [fits] at f ⊢
/-- the byte that i2b leaves of a char -/
def lo8 (x : Int32) : Int32 := x.toInt8.toInt32
theorem fits_lo8 (y : Int32) : fits .byte (.int (lo8 y)) = true := by
  have h1 := y.toInt8.le_toInt
  have h2 := y.toInt8.toInt_lt
  simp only [lo8, fits, Bool.and_eq_true, decide_eq_true_eq, Int32.le_iff_toInt_le, Int8.toInt_toInt32, show (-128 : Int32).toInt = -128 from by decide, show (127 : Int32).toInt = 127 from by decide]
  omega
/-- A' is A but that each place j of lo .. hi - 1 holds f j -/
def Laid (A A' : Cell) (lo hi : Nat) (f : Nat → Value) : Prop := A'.cls = A.cls ∧ A'.vm = A.vm ∧ A'.slots.size = A.slots.size ∧ ∀ i, A'.slots[i]? = if lo ≤ i ∧ i < hi then some (f i) else A.slots[i]?
theorem Laid.zero (A : Cell) (lo : Nat) (f : Nat → Value) : Laid A A lo (lo + 0) f := ⟨rfl, rfl, rfl, fun i => by rw [if_neg (by omega)]⟩
theorem Laid.step {A Ak : Cell} {lo k : Nat} {f : Nat → Value} {v : Value} (h : Laid A Ak lo k f) (hlo : lo ≤ k) (hk : k < Ak.slots.size) (hv : v = f k) : Laid A (Ak.setSlot k v) lo (k + 1) f := by
  refine ⟨h.1, h.2.1, by simpa [Cell.setSlot] using h.2.2.1, fun i => ?_⟩
  by_cases e : k = i
  · subst e; rw [Cell.slots_setSlot_self v hk, if_pos (by omega), hv]
  · rw [Cell.slots_setSlot_ne v e, h.2.2.2 i]
    by_cases q : lo ≤ i ∧ i < k
    · rw [if_pos q, if_pos (by omega)]
    · rw [if_neg q, if_neg (by omega)]
def U16 : String := "java/lang/StringUTF16"
namespace Cmp5
def yN : MethodName := ⟨"java/lang/StringUTF16", "compress", "([CI[BII)I"⟩
abbrev yB : ByteArray := jdk_52_method_21_code
theorem d0 : decode yB 0 = .ok (.iconst 0, 1) := by decide +kernel
theorem d1 : decode yB 1 = .ok (.istore 5, 2) := by decide +kernel
theorem d3 : decode yB 3 = .ok (.iload 5, 2) := by decide +kernel
theorem d5 : decode yB 5 = .ok (.iload 4, 2) := by decide +kernel
theorem d7 : decode yB 7 = .ok (.if_icmp (.ge) 37, 3) := by decide +kernel
theorem d10 : decode yB 10 = .ok (.aload_n 0, 1) := by decide +kernel
theorem d11 : decode yB 11 = .ok (.iload_n 1, 1) := by decide +kernel
theorem d12 : decode yB 12 = .ok (.caload, 1) := by decide +kernel
theorem d13 : decode yB 13 = .ok (.istore 6, 2) := by decide +kernel
theorem d15 : decode yB 15 = .ok (.iload 6, 2) := by decide +kernel
theorem d17 : decode yB 17 = .ok (.sipush 255, 3) := by decide +kernel
theorem d20 : decode yB 20 = .ok (.if_icmp (.le) 6, 3) := by decide +kernel
theorem d26 : decode yB 26 = .ok (.aload_n 2, 1) := by decide +kernel
theorem d27 : decode yB 27 = .ok (.iload_n 3, 1) := by decide +kernel
theorem d28 : decode yB 28 = .ok (.iload 6, 2) := by decide +kernel
theorem d30 : decode yB 30 = .ok (.i2b, 1) := by decide +kernel
theorem d31 : decode yB 31 = .ok (.bastore, 1) := by decide +kernel
theorem d32 : decode yB 32 = .ok (.iinc 1 1, 3) := by decide +kernel
theorem d35 : decode yB 35 = .ok (.iinc 3 1, 3) := by decide +kernel
theorem d38 : decode yB 38 = .ok (.iinc 5 1, 3) := by decide +kernel
theorem d41 : decode yB 41 = .ok (.goto (-38), 3) := by decide +kernel
theorem d44 : decode yB 44 = .ok (.iload 4, 2) := by decide +kernel
theorem d46 : decode yB 46 = .ok (.ireturn, 1) := by decide +kernel
def site : List Cond := []
def tab : Cond := tabOf yN yB 7 (some .int) site
def P (b : Addr) (A : Cell) (d : Addr) (B : Cell) (o q len : Nat) (args : Array Value) (s : State) : Prop := args = #[.ref b, .int (Int32.ofNat o), .ref d, .int (Int32.ofNat q), .int (Int32.ofNat len)] ∧ Ch b A s ∧ Arr .byte d B s ∧ b ≠ d ∧ o + len ≤ A.slots.size ∧ q + len ≤ B.slots.size ∧ ∀ i, i < len → ¬ 255 < cv A (o + i)
def E (b : Addr) (A : Cell) (d : Addr) (B : Cell) (o q len : Nat) (r : Option Value) (s u : State) : Prop := r = some (.int (Int32.ofNat len)) ∧ ∃ B', Put d B' s u ∧ Laid B B' q (q + len) (fun j => Value.int (lo8 (cv A (o + (j - q)))))
/-- no char of the range above 255: len; the places written hold each char's low byte -/
theorem law (l : Launch) (b : Addr) (A : Cell) (d : Addr) (B : Cell) (o q len : Nat) : Law l yN 5 5 0 0 yB 7 (some .int) site (P b A d B o q len) (E b A d B o q len) (copyLocs d q len) 0 0 := by
  refine Law.of_walk (plainFor_of_name (by decide +kernel)) (by decide +kernel) (by decide +kernel) (by decide) (fun _ _ h => by rw [h.1]; rfl) (fun _ U U' hal hh h => ⟨h.1, h.2.1.mv hal hh, h.2.2.1.mv hal hh, h.2.2.2⟩) (fun r U U' V V' h1 hal h2 h => ⟨h.1, h.2.elim fun B' q => ⟨B', q.1.mv h1 h2, q.2⟩⟩) ?_
  intro p e s m args below meth c s₁ X0 hexec hbytes hml hret hlk hnm hown hh0 W hP
  obtain ⟨rfl, hA, hB, hne, l1, l2, hp⟩ := hP
  have c1 : Steps p.tables e below (s₁.setTop (entryFrame m #[.ref b, .int (Int32.ofNat o), .ref d, .int (Int32.ofNat q), .int (Int32.ofNat len)] 7)) (s₁.setTop (mkF m 0 #[.val (.ref b), .val (.int (Int32.ofNat o)), .val (.ref d), .val (.int (Int32.ofNat q)), .val (.int (Int32.ofNat len)), .unset, .unset] [])) := entry rfl
  have hA0 := hA.1.mv X0.warmed.alike hh0
  have hB0 := hB.mv X0.warmed.alike hh0
  have a31 := hA.1.2.2.2
  have c2 : Steps p.tables e below (s₁.setTop (entryFrame m #[.ref b, .int (Int32.ofNat o), .ref d, .int (Int32.ofNat q), .int (Int32.ofNat len)] 7)) (s₁.setTop (mkF m 3 #[.val (.ref b), .val (.int (Int32.ofNat o)), .val (.ref d), .val (.int (Int32.ofNat q)), .val (.int (Int32.ofNat len)), .val (.int 0), .unset] [])) := c1.trans (by
    refine iconstV X0.here hexec rfl 0 (hb hbytes d0) (by decide) ?_
    refine XS.istore X0.here hexec rfl (hb hbytes d1) rfl rfl ?_
    exact Steps.refl _)
  have loop : ∀ (r i : Nat), i + r = len → ∀ (z : Slot), (z = .unset ∨ ∃ w, z = .val w ∧ w.category = 1) → ∀ (Tl : State) (Bk : Cell), Stand p l e { frames := 0, locals := 0, cells := 0, slots := 0 } s m #[.ref b, .int (Int32.ofNat o), .ref d, .int (Int32.ofNat q), .int (Int32.ofNat len)] below meth c Tl ([] ++ copyLocs d q i) 0 0 → Put d Bk s₁ Tl → Laid B Bk q (q + i) (fun j => Value.int (lo8 (cv A (o + (j - q))))) →
      Steps p.tables e below (s₁.setTop (entryFrame m #[.ref b, .int (Int32.ofNat o), .ref d, .int (Int32.ofNat q), .int (Int32.ofNat len)] 7)) (Tl.setTop (mkF m 3 #[.val (.ref b), .val (.int (Int32.ofNat (o + i))), .val (.ref d), .val (.int (Int32.ofNat (q + i))), .val (.int (Int32.ofNat len)), .val (.int (Int32.ofNat i)), z] [])) → ∃ (T' : State) (B' : Cell) (z' : Slot), Stand p l e { frames := 0, locals := 0, cells := 0, slots := 0 } s m #[.ref b, .int (Int32.ofNat o), .ref d, .int (Int32.ofNat q), .int (Int32.ofNat len)] below meth c T' ([] ++ copyLocs d q len) 0 0 ∧ Put d B' s₁ T' ∧ Laid B B' q (q + len) (fun j => Value.int (lo8 (cv A (o + (j - q))))) ∧
      Steps p.tables e below (s₁.setTop (entryFrame m #[.ref b, .int (Int32.ofNat o), .ref d, .int (Int32.ofNat q), .int (Int32.ofNat len)] 7)) (T'.setTop (mkF m 3 #[.val (.ref b), .val (.int (Int32.ofNat (o + len))), .val (.ref d), .val (.int (Int32.ofNat (q + len))), .val (.int (Int32.ofNat len)), .val (.int (Int32.ofNat len)), z'] [])) := by
    intro r
    induction r with
    | zero =>
      intro i hi z hz Tl Bk Xl pl fl cl
      have hil : i = len := by omega
      rw [hil] at Xl fl cl
      exact ⟨Tl, Bk, z, Xl, pl, fl, cl⟩
    | succ r ih =>
      intro i hi z hz Tl Bk Xl pl fl cl
      have all := X0.warmed.alike.symm.trans Xl.warmed.alike
      have hAl := hA0.keep all (pl.other hne hA0.1)
      have hBk := hB0.like all pl.1 fl.1 fl.2.1 fl.2.2.1
      have hlt : q + i < Bk.slots.size := by rw [fl.2.2.1]; omega
      have c3 : Steps p.tables e below (s₁.setTop (entryFrame m #[.ref b, .int (Int32.ofNat o), .ref d, .int (Int32.ofNat q), .int (Int32.ofNat len)] 7)) (Tl.setTop (mkF m 12 #[.val (.ref b), .val (.int (Int32.ofNat (o + i))), .val (.ref d), .val (.int (Int32.ofNat (q + i))), .val (.int (Int32.ofNat len)), .val (.int (Int32.ofNat i)), z] [.int (Int32.ofNat (o + i)), .ref b])) := cl.trans (by
        refine XS.iload Xl.here hexec rfl (hb hbytes d3) rfl ?_
        refine XS.iload Xl.here hexec rfl (hb hbytes d5) rfl ?_
        refine XS.icmpNo Xl.here hexec rfl (hb hbytes d7) rfl (ii_ge_f (lt32 (by omega) (by omega))) ?_
        refine XS.aloadN Xl.here hexec rfl (hb hbytes d10) rfl rfl ?_
        refine XS.iloadN Xl.here hexec rfl (hb hbytes d11) rfl ?_
        exact Steps.refl _)
      have c4 : Steps p.tables e below (s₁.setTop (entryFrame m #[.ref b, .int (Int32.ofNat o), .ref d, .int (Int32.ofNat q), .int (Int32.ofNat len)] 7)) (Tl.setTop (mkF m 13 #[.val (.ref b), .val (.int (Int32.ofNat (o + i))), .val (.ref d), .val (.int (Int32.ofNat (q + i))), .val (.int (Int32.ofNat len)), .val (.int (Int32.ofNat i)), z] [.int (cv A (o + i))])) := c3.trans (by
        refine Xl.aget hexec hAl rfl (hA.get (i := o + i) (by omega)) rfl rfl (hb hbytes d12) ?_
        exact Steps.refl _)
      have c5 : Steps p.tables e below (s₁.setTop (entryFrame m #[.ref b, .int (Int32.ofNat o), .ref d, .int (Int32.ofNat q), .int (Int32.ofNat len)] 7)) (Tl.setTop (mkF m 15 #[.val (.ref b), .val (.int (Int32.ofNat (o + i))), .val (.ref d), .val (.int (Int32.ofNat (q + i))), .val (.int (Int32.ofNat len)), .val (.int (Int32.ofNat i)), .val (.int (cv A (o + i)))] [])) := c4.trans (by
        refine XS.istoreS Xl.here hexec rfl (hb hbytes d13) rfl rfl hz ?_
        exact Steps.refl _)
      have c6 : Steps p.tables e below (s₁.setTop (entryFrame m #[.ref b, .int (Int32.ofNat o), .ref d, .int (Int32.ofNat q), .int (Int32.ofNat len)] 7)) (Tl.setTop (mkF m 31 #[.val (.ref b), .val (.int (Int32.ofNat (o + i))), .val (.ref d), .val (.int (Int32.ofNat (q + i))), .val (.int (Int32.ofNat len)), .val (.int (Int32.ofNat i)), .val (.int (cv A (o + i)))] [.int (lo8 (cv A (o + i))), .int (Int32.ofNat (q + i)), .ref d])) := c5.trans (by
        refine XS.iload Xl.here hexec rfl (hb hbytes d15) rfl ?_
        refine sipushV Xl.here hexec rfl 255 (hb hbytes d17) (by decide) ?_
        refine XS.icmpYes Xl.here hexec rfl (pc0 := 20) rfl (hb hbytes d20) rfl (ii_le_t (hp i (by omega))) (by decide) rfl ?_
        refine XS.aloadN Xl.here hexec rfl (hb hbytes d26) rfl rfl ?_
        refine XS.iloadN Xl.here hexec rfl (hb hbytes d27) rfl ?_
        refine XS.iload Xl.here hexec rfl (hb hbytes d28) rfl ?_
        refine i2b Xl.here hexec rfl (hb hbytes d30) rfl ?_
        exact Steps.refl _)
      obtain ⟨T7, X7, p7, st7⟩ := Xl.aput hexec hBk rfl hlt rfl (fits_lo8 (cv A (o + i))) (g := (mkF m 31 #[.val (.ref b), .val (.int (Int32.ofNat (o + i))), .val (.ref d), .val (.int (Int32.ofNat (q + i))), .val (.int (Int32.ofNat len)), .val (.int (Int32.ofNat i)), .val (.int (cv A (o + i)))] [.int (lo8 (cv A (o + i))), .int (Int32.ofNat (q + i)), .ref d])) rfl (rest := []) rfl (hb hbytes d31)
      have c8 : Steps p.tables e below (s₁.setTop (entryFrame m #[.ref b, .int (Int32.ofNat o), .ref d, .int (Int32.ofNat q), .int (Int32.ofNat len)] 7)) (T7.setTop (mkF m 32 #[.val (.ref b), .val (.int (Int32.ofNat (o + i))), .val (.ref d), .val (.int (Int32.ofNat (q + i))), .val (.int (Int32.ofNat len)), .val (.int (Int32.ofNat i)), .val (.int (cv A (o + i)))] [])) := c6.trans (st7 _ (Steps.refl _))
      have c9 : Steps p.tables e below (s₁.setTop (entryFrame m #[.ref b, .int (Int32.ofNat o), .ref d, .int (Int32.ofNat q), .int (Int32.ofNat len)] 7)) (T7.setTop (mkF m 3 #[.val (.ref b), .val (.int (Int32.ofNat (o + i) + 1)), .val (.ref d), .val (.int (Int32.ofNat (q + i) + 1)), .val (.int (Int32.ofNat len)), .val (.int (Int32.ofNat i + 1)), .val (.int (cv A (o + i)))] [])) := c8.trans (by
        refine iincV X7.here hexec rfl 1 (hb hbytes d32) (by decide) rfl rfl ?_
        refine iincV X7.here hexec rfl 1 (hb hbytes d35) (by decide) rfl rfl ?_
        refine iincV X7.here hexec rfl 1 (hb hbytes d38) (by decide) rfl rfl ?_
        refine XS.goto X7.here hexec rfl (pc0 := 41) rfl (hb hbytes d41) (by decide) rfl ?_
        exact Steps.refl _)
      have c10 : Steps p.tables e below (s₁.setTop (entryFrame m #[.ref b, .int (Int32.ofNat o), .ref d, .int (Int32.ofNat q), .int (Int32.ofNat len)] 7)) (T7.setTop (mkF m 3 #[.val (.ref b), .val (.int (Int32.ofNat (o + (i + 1)))), .val (.ref d), .val (.int (Int32.ofNat (q + (i + 1)))), .val (.int (Int32.ofNat len)), .val (.int (Int32.ofNat (i + 1))), .val (.int (cv A (o + i)))] [])) := by
        have := c9
        rw [succ32, succ32, succ32] at this
        exact this
      exact ih (i + 1) (by omega) _ (Or.inr ⟨_, rfl, rfl⟩) T7 _ (by rw [copyLocs_step, ← List.append_assoc]; exact X7) (pl.trans p7) (fl.step (by omega) hlt (by simp)) c10
  obtain ⟨T9, B9, z9, X9, p9, f9, g9⟩ := loop len 0 (by omega) .unset (Or.inl rfl) s₁ B (by simpa [copyLocs] using X0) ⟨hB0.1, fun _ _ => rfl, rfl⟩ (Laid.zero _ _ _) c2
  have c11 : Steps p.tables e below (s₁.setTop (entryFrame m #[.ref b, .int (Int32.ofNat o), .ref d, .int (Int32.ofNat q), .int (Int32.ofNat len)] 7)) (T9.setTop (mkF m 46 #[.val (.ref b), .val (.int (Int32.ofNat (o + len))), .val (.ref d), .val (.int (Int32.ofNat (q + len))), .val (.int (Int32.ofNat len)), .val (.int (Int32.ofNat len)), z9] [.int (Int32.ofNat len)])) := g9.trans (by
    refine XS.iload X9.here hexec rfl (hb hbytes d3) rfl ?_
    refine XS.iload X9.here hexec rfl (hb hbytes d5) rfl ?_
    refine XS.icmpYes X9.here hexec rfl (pc0 := 7) rfl (hb hbytes d7) rfl (ii_ge_t (nlt32 (by omega) (Nat.le_refl _))) (by decide) rfl ?_
    refine XS.iload X9.here hexec rfl (hb hbytes d44) rfl ?_
    exact Steps.refl _)
  exact ⟨T9, some (.int (Int32.ofNat len)), _, _, _, X9, by simp, rfl, rfl, (fun h => by cases h), ⟨rfl, B9, p9.from hh0, f9⟩, fun fs hl => c11.trans (X9.ireturnOut hexec hret rfl (Or.inl rfl) (hb hbytes d46) hl)⟩
end Cmp5
namespace Cmp3
def yN : MethodName := ⟨"java/lang/StringUTF16", "compress", "([CII)[B"⟩
abbrev yB : ByteArray := jdk_52_method_16_code
theorem d0 : decode yB 0 = .ok (.iload_n 2, 1) := by decide +kernel
theorem d1 : decode yB 1 = .ok (.newarray .byte, 2) := by decide +kernel
theorem d3 : decode yB 3 = .ok (.astore_n 3, 1) := by decide +kernel
theorem d4 : decode yB 4 = .ok (.aload_n 0, 1) := by decide +kernel
theorem d5 : decode yB 5 = .ok (.iload_n 1, 1) := by decide +kernel
theorem d6 : decode yB 6 = .ok (.aload_n 3, 1) := by decide +kernel
theorem d7 : decode yB 7 = .ok (.iconst 0, 1) := by decide +kernel
theorem d8 : decode yB 8 = .ok (.iload_n 2, 1) := by decide +kernel
theorem d9 : decode yB 9 = .ok (.invokestatic 115, 3) := by decide +kernel
theorem d12 : decode yB 12 = .ok (.istore 4, 2) := by decide +kernel
theorem d14 : decode yB 14 = .ok (.iload 4, 2) := by decide +kernel
theorem d16 : decode yB 16 = .ok (.iload_n 2, 1) := by decide +kernel
theorem d17 : decode yB 17 = .ok (.if_icmp (.eq) 40, 3) := by decide +kernel
theorem d57 : decode yB 57 = .ok (.aload_n 3, 1) := by decide +kernel
theorem d58 : decode yB 58 = .ok (.areturn, 1) := by decide +kernel
def site : List Cond := [.arrayClass .byte, Cmp5.tab] ++ staticW U16 115 Cmp5.yN
def tab : Cond := tabOf yN yB 6 (some (.array .byte)) site
def P (b : Addr) (A : Cell) (o len : Nat) (args : Array Value) (s : State) : Prop := args = #[.ref b, .int (Int32.ofNat o), .int (Int32.ofNat len)] ∧ Ch b A s ∧ o + len ≤ A.slots.size ∧ len ≤ 536870912 ∧ ∀ i, i < len → ¬ 255 < cv A (o + i)
def E (b : Addr) (A : Cell) (o len : Nat) (r : Option Value) (s u : State) : Prop := NewArr .byte "[B" len (fun j => .int (lo8 (cv A (o + j)))) r s u ∧ u.heap.size = s.heap.size + 1
/-- no char of the range above 255: a new byte[] of their low bytes -/
theorem law (l : Launch) (b : Addr) (A : Cell) (o len : Nat) : Law l yN 3 3 1 18 yB 6 (some (.array .byte)) site (P b A o len) (E b A o len) [] 1 len := by
  refine Law.of_walk (plainFor_of_name (by decide +kernel)) (by decide +kernel) (by decide +kernel) (by decide) (fun _ _ h => by rw [h.1]; rfl) (fun _ U U' hal hh h => ⟨h.1, h.2.1.mv hal hh, h.2.2⟩) (fun r U U' V V' h1 hal h2 h => ⟨NewArr.mv r U U' V V' h1 hal h2 h.1, by rw [h1, h2]; exact h.2⟩) ?_
  intro p e s m args below meth c s₁ X0 hexec hbytes hml hret hlk hnm hown hh0 W hP
  obtain ⟨rfl, hA, l1, l2, hp⟩ := hP
  have a31 := hA.1.2.2.2
  have c1 : Steps p.tables e below (s₁.setTop (entryFrame m #[.ref b, .int (Int32.ofNat o), .int (Int32.ofNat len)] 6)) (s₁.setTop (mkF m 0 #[.val (.ref b), .val (.int (Int32.ofNat o)), .val (.int (Int32.ofNat len)), .unset, .unset, .unset] [])) := entry rfl
  have c2 : Steps p.tables e below (s₁.setTop (entryFrame m #[.ref b, .int (Int32.ofNat o), .int (Int32.ofNat len)] 6)) (s₁.setTop (mkF m 1 #[.val (.ref b), .val (.int (Int32.ofNat o)), .val (.int (Int32.ofNat len)), .unset, .unset, .unset] [.int (Int32.ofNat len)])) := c1.trans (by
    refine XS.iloadN X0.here hexec rfl (hb hbytes d0) rfl ?_
    exact Steps.refl _)
  obtain ⟨T3, B3, X3, ba3, bs3, bv3, bh3, bf3, st3⟩ := X0.anew hexec (atype := .byte) (wk W (.arrayClass .byte)) rfl (by show len * 1 ≤ _; omega) (by omega) (g := (mkF m 1 #[.val (.ref b), .val (.int (Int32.ofNat o)), .val (.int (Int32.ofNat len)), .unset, .unset, .unset] [.int (Int32.ofNat len)])) rfl (hb hbytes d1) (rest := []) rfl (Nat.le_refl _) (by show 0 + len ≤ len; omega)
  rw [hh0] at ba3 st3
  have kp3 : XT.Kept s T3 := (XT.Kept.of_eq hh0).push bh3
  have hA3 := hA.keep X3.warmed.alike (kp3 _ _ hA.1.1)
  have hne : b ≠ s.heap.size := hA.1.ne
  have c4 : Steps p.tables e below (s₁.setTop (entryFrame m #[.ref b, .int (Int32.ofNat o), .int (Int32.ofNat len)] 6)) (T3.setTop (mkF m 3 #[.val (.ref b), .val (.int (Int32.ofNat o)), .val (.int (Int32.ofNat len)), .unset, .unset, .unset] [.ref s.heap.size])) := c2.trans (st3 _ (Steps.refl _))
  have c5 : Steps p.tables e below (s₁.setTop (entryFrame m #[.ref b, .int (Int32.ofNat o), .int (Int32.ofNat len)] 6)) (T3.setTop (mkF m 9 #[.val (.ref b), .val (.int (Int32.ofNat o)), .val (.int (Int32.ofNat len)), .val (.ref s.heap.size), .unset, .unset] [.int (Int32.ofNat len), .int 0, .ref s.heap.size, .int (Int32.ofNat o), .ref b])) := c4.trans (by
    refine XS.astoreN X3.here hexec rfl (hb hbytes d3) rfl rfl rfl ?_
    refine XS.aloadN X3.here hexec rfl (hb hbytes d4) rfl rfl ?_
    refine XS.iloadN X3.here hexec rfl (hb hbytes d5) rfl ?_
    refine XS.aloadN X3.here hexec rfl (hb hbytes d6) rfl rfl ?_
    refine iconstV X3.here hexec rfl 0 (hb hbytes d7) (by decide) ?_
    refine XS.iloadN X3.here hexec rfl (hb hbytes d8) rfl ?_
    exact Steps.refl _)
  obtain ⟨v6, T6, X6, E6, g6⟩ := X3.callS hexec (Cmp5.law l b A s.heap.size B3 o 0 len) hown (wks W (staticW U16 115 Cmp5.yN)) (wk W Cmp5.tab) (W := 0) (Nat.le_of_ble_eq_true rfl) (Nat.le_of_ble_eq_true rfl) (Nat.le_refl _) (by show 0 + len + 0 ≤ len; omega) (g := (mkF m 9 #[.val (.ref b), .val (.int (Int32.ofNat o)), .val (.int (Int32.ofNat len)), .val (.ref s.heap.size), .unset, .unset] [.int (Int32.ofNat len), .int (Int32.ofNat 0), .ref s.heap.size, .int (Int32.ofNat o), .ref b])) rfl (by rw [hml]; rfl) c5 (argsL := [.ref b, .int (Int32.ofNat o), .ref s.heap.size, .int (Int32.ofNat 0), .int (Int32.ofNat len)]) (rest := []) rfl rfl (by show 2 * 0 + 0 ≤ _; decide) (hb hbytes d9) (⟨rfl, hA3, ba3, hne, l1, by rw [bs3]; simp, hp⟩)
  obtain ⟨rfl, B6, p6, f6⟩ := E6
  have c7 : Steps p.tables e below (s₁.setTop (entryFrame m #[.ref b, .int (Int32.ofNat o), .int (Int32.ofNat len)] 6)) (T6.setTop (mkF m 12 #[.val (.ref b), .val (.int (Int32.ofNat o)), .val (.int (Int32.ofNat len)), .val (.ref s.heap.size), .unset, .unset] [.int (Int32.ofNat len)])) := g6
  have c8 : Steps p.tables e below (s₁.setTop (entryFrame m #[.ref b, .int (Int32.ofNat o), .int (Int32.ofNat len)] 6)) (T6.setTop (mkF m 58 #[.val (.ref b), .val (.int (Int32.ofNat o)), .val (.int (Int32.ofNat len)), .val (.ref s.heap.size), .val (.int (Int32.ofNat len)), .unset] [.ref s.heap.size])) := c7.trans (by
    refine XS.istore X6.here hexec rfl (hb hbytes d12) rfl rfl ?_
    refine XS.iload X6.here hexec rfl (hb hbytes d14) rfl ?_
    refine XS.iloadN X6.here hexec rfl (hb hbytes d16) rfl ?_
    refine XS.icmpYes X6.here hexec rfl (pc0 := 17) rfl (hb hbytes d17) rfl (ii_eq_t rfl) (by decide) rfl ?_
    refine XS.aloadN X6.here hexec rfl (hb hbytes d57) rfl rfl ?_
    exact Steps.refl _)
  have X8 := X6.wide (L' := []) (cells' := 1) (slots' := len) (fun x hx hlt => by
    simp only [List.nil_append, copyLocs, List.mem_map, List.mem_range] at hx
    obtain ⟨i, -, rfl⟩ := hx
    exact absurd hlt (Nat.lt_irrefl _)) (Nat.le_refl _) (by omega)
  exact ⟨T6, some (.ref s.heap.size), _, _, _, X8, rfl, rfl, rfl, (fun h => by cases h), ⟨⟨rfl, B6, ba3.like (X3.warmed.alike.symm.trans X6.warmed.alike) p6.1 f6.1 f6.2.1 f6.2.2.1, f6.2.1.trans bv3, by rw [X6.warmed.alike.findClass, f6.1]; exact bf3, by rw [f6.2.2.1, bs3]; simp, fun j hj => by rw [f6.2.2.2 j, if_pos (by omega)]; rfl, kp3.put p6 (Nat.le_refl _)⟩, by rw [p6.2.2, bh3, hh0]; simp⟩, fun fs hl => c8.trans (X8.areturnOut hexec rfl hret rfl (hb hbytes d58) hl)⟩
end Cmp3
namespace CodL
def yN : MethodName := ⟨"java/lang/StringUTF16", "coderFromArrayLen", "([BI)B"⟩
abbrev yB : ByteArray := jdk_52_method_15_code
theorem d0 : decode yB 0 = .ok (.iload_n 1, 1) := by decide +kernel
theorem d1 : decode yB 1 = .ok (.aload_n 0, 1) := by decide +kernel
theorem d2 : decode yB 2 = .ok (.arraylength, 1) := by decide +kernel
theorem d3 : decode yB 3 = .ok (.isub, 1) := by decide +kernel
theorem d4 : decode yB 4 = .ok (.bipush 31, 2) := by decide +kernel
theorem d6 : decode yB 6 = .ok (.iushr, 1) := by decide +kernel
theorem d7 : decode yB 7 = .ok (.i2b, 1) := by decide +kernel
theorem d8 : decode yB 8 = .ok (.ireturn, 1) := by decide +kernel
def site : List Cond := []
def tab : Cond := tabOf yN yB 2 (some .byte) site
def P (d : Addr) (B : Cell) (args : Array Value) (s : State) : Prop := args = #[.ref d, .int (Int32.ofNat B.slots.size)] ∧ Arr .byte d B s
def E (r : Option Value) (s u : State) : Prop := XT.PureE (some (.int 0)) r s u
/-- an array as long as the number of chars: LATIN1 -/
theorem law (l : Launch) (d : Addr) (B : Cell) : Law l yN 2 2 0 0 yB 2 (some .byte) site (P d B) E [] 0 0 := by
  refine Law.of_walk (plainFor_of_name (by decide +kernel)) (by decide +kernel) (by decide +kernel) (by decide) (fun _ _ h => by rw [h.1]; rfl) (fun _ U U' hal hh h => ⟨h.1, h.2.mv hal hh⟩) (fun r U U' V V' h1 hal h2 h => XT.PureE.mv r U U' V V' h1 hal h2 h) ?_
  intro p e s m args below meth c s₁ X0 hexec hbytes hml hret hlk hnm hown hh0 W hP
  obtain ⟨rfl, hB⟩ := hP
  have hB0 := hB.mv X0.warmed.alike hh0
  have c1 : Steps p.tables e below (s₁.setTop (entryFrame m #[.ref d, .int (Int32.ofNat B.slots.size)] 2)) (s₁.setTop (mkF m 0 #[.val (.ref d), .val (.int (Int32.ofNat B.slots.size))] [])) := entry rfl
  have c2 : Steps p.tables e below (s₁.setTop (entryFrame m #[.ref d, .int (Int32.ofNat B.slots.size)] 2)) (s₁.setTop (mkF m 2 #[.val (.ref d), .val (.int (Int32.ofNat B.slots.size))] [.ref d, .int (Int32.ofNat B.slots.size)])) := c1.trans (by
    refine XS.iloadN X0.here hexec rfl (hb hbytes d0) rfl ?_
    refine XS.aloadN X0.here hexec rfl (hb hbytes d1) rfl rfl ?_
    exact Steps.refl _)
  have c3 : Steps p.tables e below (s₁.setTop (entryFrame m #[.ref d, .int (Int32.ofNat B.slots.size)] 2)) (s₁.setTop (mkF m 8 #[.val (.ref d), .val (.int (Int32.ofNat B.slots.size))] [.int (lo8 (ushr (Int32.ofNat B.slots.size - Int32.ofNat B.slots.size) 31))])) := c2.trans (by
    refine X0.alen hexec hB0 rfl rfl (hb hbytes d2) ?_
    refine XS.isub X0.here hexec rfl (hb hbytes d3) rfl ?_
    refine bipushV X0.here hexec rfl 31 (hb hbytes d4) (by decide) ?_
    refine iushr X0.here hexec rfl (hb hbytes d6) rfl ?_
    refine i2b X0.here hexec rfl (hb hbytes d7) rfl ?_
    exact Steps.refl _)
  have e0 : lo8 (ushr (Int32.ofNat B.slots.size - Int32.ofNat B.slots.size) 31) = 0 := by rw [Int32.sub_self]; decide
  rw [e0] at c3
  exact ⟨s₁, some (.int 0), _, _, _, X0, rfl, rfl, rfl, (fun h => by cases h), ⟨rfl, hh0⟩, fun fs hl => c3.trans (X0.ireturnOut hexec hret rfl (Or.inr (Or.inr (Or.inl rfl))) (hb hbytes d8) hl)⟩
end CodL
/-- the String at a is Latin-1 over a new byte[] (the heap's one new cell): the low bytes of the len chars of A from o on; every cell but a is kept -/
def Got (a : Addr) (D : Cell) (fV fC : Field) (A : Cell) (o len : Nat) (r : Option Value) (s u : State) : Prop := r = none ∧ ∃ D' V : Cell, Blank "java/lang/String" a D' u ∧ Same D D' [fV.slot, fC.slot] ∧ D'.slots[fV.slot]? = some (.ref s.heap.size) ∧ D'.slots[fC.slot]? = some (.int 0) ∧ Arr .byte s.heap.size V u ∧ V.vm = .none ∧ u.vm.findClass "[B" = some V.cls ∧ V.slots.size = len ∧ (∀ j, j < len → V.slots[j]? = some (.int (lo8 (cv A (o + j))))) ∧ (∀ (y : Addr) (c : Cell), y ≠ a → s.heap[y]? = some c → u.heap[y]? = some c) ∧ u.heap.size = s.heap.size + 1
theorem Got.mv {a : Addr} {D A : Cell} {fV fC : Field} {o len : Nat} : ∀ r (U U' V V' : State), U'.heap = U.heap → V.vm.Alike V'.vm → V'.heap = V.heap → Got a D fV fC A o len r U V → Got a D fV fC A o len r U' V' :=
  fun r U U' V V' h1 hal h2 ⟨e0, D', X, a1, a2, a3, a4, a5, a6, a7, a8, a9, a10, a11⟩ => ⟨e0, D', X, a1.mv hal h2, a2, by rw [h1]; exact a3, a4, by rw [h1]; exact a5.mv hal h2, a6, by rw [hal.findClass]; exact a7, a8, a9, by rw [h1, h2]; exact a10, by rw [h1, h2]; exact a11⟩
namespace New4
def yN : MethodName := ⟨"java/lang/String", "<init>", "([CIILjava/lang/Void;)V"⟩
abbrev yB : ByteArray := jdk_42_method_149_code
theorem d0 : decode yB 0 = .ok (.aload_n 0, 1) := by decide +kernel
theorem d1 : decode yB 1 = .ok (.invokespecial 1, 3) := by decide +kernel
theorem d4 : decode yB 4 = .ok (.iload_n 3, 1) := by decide +kernel
theorem d5 : decode yB 5 = .ok (.ifCond (.ne) 22, 3) := by decide +kernel
theorem d27 : decode yB 27 = .ok (.getstatic 38, 3) := by decide +kernel
theorem d30 : decode yB 30 = .ok (.ifCond (.eq) 28, 3) := by decide +kernel
theorem d33 : decode yB 33 = .ok (.aload_n 1, 1) := by decide +kernel
theorem d34 : decode yB 34 = .ok (.iload_n 2, 1) := by decide +kernel
theorem d35 : decode yB 35 = .ok (.iload_n 3, 1) := by decide +kernel
theorem d36 : decode yB 36 = .ok (.invokestatic 177, 3) := by decide +kernel
theorem d39 : decode yB 39 = .ok (.astore 5, 2) := by decide +kernel
theorem d41 : decode yB 41 = .ok (.aload_n 0, 1) := by decide +kernel
theorem d42 : decode yB 42 = .ok (.aload 5, 2) := by decide +kernel
theorem d44 : decode yB 44 = .ok (.iload_n 3, 1) := by decide +kernel
theorem d45 : decode yB 45 = .ok (.invokestatic 47, 3) := by decide +kernel
theorem d48 : decode yB 48 = .ok (.putfield 15, 3) := by decide +kernel
theorem d51 : decode yB 51 = .ok (.aload_n 0, 1) := by decide +kernel
theorem d52 : decode yB 52 = .ok (.aload 5, 2) := by decide +kernel
theorem d54 : decode yB 54 = .ok (.putfield 9, 3) := by decide +kernel
theorem d57 : decode yB 57 = .ok (.return_, 1) := by decide +kernel
def site : List Cond := [.fieldLink "java/lang/String" 38 "java/lang/String" "COMPACT_STRINGS" "Z", Cmp3.tab, CodL.tab, .laysFinal "java/lang/String" "java/lang/String" "value" "[B", .fieldLink "java/lang/String" 9 "java/lang/String" "value" "[B", .laysFinal "java/lang/String" "java/lang/String" "coder" "B", .fieldLink "java/lang/String" 15 "java/lang/String" "coder" "B"] ++ objW "java/lang/String" 1 ++ staticW "java/lang/String" 177 Cmp3.yN ++ staticW "java/lang/String" 47 CodL.yN
def tab : Cond := tabOf yN yB 6 none site
def P (a : Addr) (D : Cell) (fV fC : Field) (b : Addr) (A : Cell) (z : Int32) (o len : Nat) (args : Array Value) (s : State) : Prop := args = #[.ref a, .ref b, .int (Int32.ofNat o), .int (Int32.ofNat len), .null] ∧ Blank "java/lang/String" a D s ∧ Found "java/lang/String" "value" "[B" fV s ∧ Found "java/lang/String" "coder" "B" fC s ∧ Ch b A s ∧ StaticIs s "java/lang/String" "COMPACT_STRINGS" "Z" (.int z) ∧ ¬ z = 0 ∧ 0 < len ∧ o + len ≤ A.slots.size ∧ len ≤ 536870912 ∧ ∀ i, i < len → ¬ 255 < cv A (o + i)
def E (a : Addr) (D : Cell) (fV fC : Field) (A : Cell) (o len : Nat) (r : Option Value) (s u : State) : Prop := Got a D fV fC A o len r s u
/-- len > 0, no char of the range above 255: a Latin-1 String of their low bytes -/
theorem law (l : Launch) (a : Addr) (D : Cell) (fV fC : Field) (b : Addr) (A : Cell) (z : Int32) (o len : Nat) : Law l yN 5 4 2 35 yB 6 none site (P a D fV fC b A z o len) (E a D fV fC A o len) [⟨a, fC.slot⟩, ⟨a, fV.slot⟩] 1 len := by
  refine Law.of_walk (plainFor_of_name (by decide +kernel)) (by decide +kernel) (by decide +kernel) (by decide) (fun _ _ h => by rw [h.1]; rfl) (fun _ U U' hal hh h => ⟨h.1, h.2.1.mv hal hh, h.2.2.1.al hal, h.2.2.2.1.al hal, h.2.2.2.2.1.mv hal hh, h.2.2.2.2.2.1.there hal hh, h.2.2.2.2.2.2⟩) (fun r U U' V V' h1 hal h2 h => Got.mv r U U' V V' h1 hal h2 h) ?_
  intro p e s m args below meth c s₁ X0 hexec hbytes hml hret hlk hnm hown hh0 W hP
  obtain ⟨rfl, hB, f1, f2, hA, s1, hz, l0, l1, l2, hp⟩ := hP
  have a31 := hA.1.2.2.2
  have c1 : Steps p.tables e below (s₁.setTop (entryFrame m #[.ref a, .ref b, .int (Int32.ofNat o), .int (Int32.ofNat len), .null] 6)) (s₁.setTop (mkF m 0 #[.val (.ref a), .val (.ref b), .val (.int (Int32.ofNat o)), .val (.int (Int32.ofNat len)), .val .null, .unset] [])) := entry rfl
  have c2 : Steps p.tables e below (s₁.setTop (entryFrame m #[.ref a, .ref b, .int (Int32.ofNat o), .int (Int32.ofNat len), .null] 6)) (s₁.setTop (mkF m 1 #[.val (.ref a), .val (.ref b), .val (.int (Int32.ofNat o)), .val (.int (Int32.ofNat len)), .val .null, .unset] [.ref a])) := c1.trans (by
    refine XS.aloadN X0.here hexec rfl (hb hbytes d0) rfl rfl ?_
    exact Steps.refl _)
  obtain ⟨T3, X3, q3, st3⟩ := X0.oinit hexec hown (wks W (objW "java/lang/String" 1)) (g := (mkF m 1 #[.val (.ref a), .val (.ref b), .val (.int (Int32.ofNat o)), .val (.int (Int32.ofNat len)), .val .null, .unset] [.ref a])) rfl (by rw [hml]; rfl) (rest := []) rfl (hb hbytes d1) (W := 0) (by show 2 * 0 + 0 ≤ _; decide) (Nat.le_of_ble_eq_true rfl) (Nat.le_of_ble_eq_true rfl)
  have hh3 := q3.trans hh0
  have c4 : Steps p.tables e below (s₁.setTop (entryFrame m #[.ref a, .ref b, .int (Int32.ofNat o), .int (Int32.ofNat len), .null] 6)) (T3.setTop (mkF m 27 #[.val (.ref a), .val (.ref b), .val (.int (Int32.ofNat o)), .val (.int (Int32.ofNat len)), .val .null, .unset] [])) := (c2.trans (st3 _ (Steps.refl _))).trans (by
    refine XS.iloadN X3.here hexec rfl (hb hbytes d4) rfl ?_
    refine XS.ifYes X3.here hexec rfl (pc0 := 5) rfl (hb hbytes d5) rfl (i0_ne_t (nz32 (by omega) l0)) (by decide) rfl ?_
    exact Steps.refl _)
  obtain ⟨T5, X5, q5, st5⟩ := X3.sget hexec hown (wk W (.fieldLink "java/lang/String" 38 "java/lang/String" "COMPACT_STRINGS" "Z")) s1 (fun _ _ h => by rw [hh3]; exact h) (g := (mkF m 27 #[.val (.ref a), .val (.ref b), .val (.int (Int32.ofNat o)), .val (.int (Int32.ofNat len)), .val .null, .unset] [])) rfl (hb hbytes d27)
  have hh5 := q5.trans hh3
  have c6 : Steps p.tables e below (s₁.setTop (entryFrame m #[.ref a, .ref b, .int (Int32.ofNat o), .int (Int32.ofNat len), .null] 6)) (T5.setTop (mkF m 30 #[.val (.ref a), .val (.ref b), .val (.int (Int32.ofNat o)), .val (.int (Int32.ofNat len)), .val .null, .unset] [.int z])) := c4.trans (st5 _ (Steps.refl _))
  have c7 : Steps p.tables e below (s₁.setTop (entryFrame m #[.ref a, .ref b, .int (Int32.ofNat o), .int (Int32.ofNat len), .null] 6)) (T5.setTop (mkF m 36 #[.val (.ref a), .val (.ref b), .val (.int (Int32.ofNat o)), .val (.int (Int32.ofNat len)), .val .null, .unset] [.int (Int32.ofNat len), .int (Int32.ofNat o), .ref b])) := c6.trans (by
    refine XS.ifNo X5.here hexec rfl (hb hbytes d30) rfl (i0_eq_f hz) ?_
    refine XS.aloadN X5.here hexec rfl (hb hbytes d33) rfl rfl ?_
    refine XS.iloadN X5.here hexec rfl (hb hbytes d34) rfl ?_
    refine XS.iloadN X5.here hexec rfl (hb hbytes d35) rfl ?_
    exact Steps.refl _)
  obtain ⟨v8, T8, X8, E8, g8⟩ := X5.callS hexec (Cmp3.law l b A o len) hown (wks W (staticW "java/lang/String" 177 Cmp3.yN)) (wk W Cmp3.tab) (W := 0) (Nat.le_of_ble_eq_true rfl) (Nat.le_of_ble_eq_true rfl) (Nat.le_refl _) (by show 0 + len ≤ len; omega) (g := (mkF m 36 #[.val (.ref a), .val (.ref b), .val (.int (Int32.ofNat o)), .val (.int (Int32.ofNat len)), .val .null, .unset] [.int (Int32.ofNat len), .int (Int32.ofNat o), .ref b])) rfl (by rw [hml]; rfl) c7 (argsL := [.ref b, .int (Int32.ofNat o), .int (Int32.ofNat len)]) (rest := []) rfl rfl (by show 2 * 0 + 0 ≤ _; decide) (hb hbytes d36) (⟨rfl, hA.mv X5.warmed.alike hh5, l1, l2, hp⟩)
  obtain ⟨e8, z8⟩ := E8
  obtain ⟨rfl, N, n1, n2, n3, n4, n5, n6⟩ := NewArr.mv _ T5 s _ _ hh5.symm (Vm.Alike.refl _) rfl e8
  rw [hh5] at z8
  have hB1 := hB.keep X8.warmed.alike (n6 _ _ hB.1)
  have hne : s.heap.size ≠ a := (Nat.ne_of_lt (Array.getElem?_eq_some_iff.mp hB.1).1).symm
  have c9 : Steps p.tables e below (s₁.setTop (entryFrame m #[.ref a, .ref b, .int (Int32.ofNat o), .int (Int32.ofNat len), .null] 6)) (T8.setTop (mkF m 39 #[.val (.ref a), .val (.ref b), .val (.int (Int32.ofNat o)), .val (.int (Int32.ofNat len)), .val .null, .unset] [.ref s.heap.size])) := g8
  have c10 : Steps p.tables e below (s₁.setTop (entryFrame m #[.ref a, .ref b, .int (Int32.ofNat o), .int (Int32.ofNat len), .null] 6)) (T8.setTop (mkF m 45 #[.val (.ref a), .val (.ref b), .val (.int (Int32.ofNat o)), .val (.int (Int32.ofNat len)), .val .null, .val (.ref s.heap.size)] [.int (Int32.ofNat N.slots.size), .ref s.heap.size, .ref a])) := by
    have hc : Steps p.tables e below (s₁.setTop (entryFrame m #[.ref a, .ref b, .int (Int32.ofNat o), .int (Int32.ofNat len), .null] 6)) (T8.setTop (mkF m 45 #[.val (.ref a), .val (.ref b), .val (.int (Int32.ofNat o)), .val (.int (Int32.ofNat len)), .val .null, .val (.ref s.heap.size)] [.int (Int32.ofNat len), .ref s.heap.size, .ref a])) := c9.trans (by
      refine XS.astore X8.here hexec rfl (hb hbytes d39) rfl rfl rfl ?_
      refine XS.aloadN X8.here hexec rfl (hb hbytes d41) rfl rfl ?_
      refine XS.aload X8.here hexec rfl (hb hbytes d42) rfl rfl ?_
      refine XS.iloadN X8.here hexec rfl (hb hbytes d44) rfl ?_
      exact Steps.refl _)
    rw [n4]; exact hc
  obtain ⟨v11, T11, X11, E11, g11⟩ := X8.callS hexec (CodL.law l s.heap.size N) hown (wks W (staticW "java/lang/String" 47 CodL.yN)) (wk W CodL.tab) (W := 1) (Nat.le_of_ble_eq_true rfl) (Nat.le_of_ble_eq_true rfl) (Nat.le_refl _) (by show 0 + len + 0 ≤ len; omega) (g := (mkF m 45 #[.val (.ref a), .val (.ref b), .val (.int (Int32.ofNat o)), .val (.int (Int32.ofNat len)), .val .null, .val (.ref s.heap.size)] [.int (Int32.ofNat N.slots.size), .ref s.heap.size, .ref a])) rfl (by rw [hml]; rfl) c10 (argsL := [.ref s.heap.size, .int (Int32.ofNat N.slots.size)]) (rest := [.ref a]) rfl rfl (by show 2 * 0 + (1 + 0) ≤ _; decide) (hb hbytes d45) (⟨rfl, n1⟩)
  obtain ⟨rfl, q11⟩ := E11
  have hB11 := hB1.mv (X8.warmed.alike.symm.trans X11.warmed.alike) q11
  have c12 : Steps p.tables e below (s₁.setTop (entryFrame m #[.ref a, .ref b, .int (Int32.ofNat o), .int (Int32.ofNat len), .null] 6)) (T11.setTop (mkF m 48 #[.val (.ref a), .val (.ref b), .val (.int (Int32.ofNat o)), .val (.int (Int32.ofNat len)), .val .null, .val (.ref s.heap.size)] [.int 0, .ref a])) := g11
  obtain ⟨T13, X13, p13, bl13, sl13, st13⟩ := X11.finit hexec hown (wk W (.fieldLink "java/lang/String" 15 "java/lang/String" "coder" "B")) (Or.inr ⟨_, (wk W (.laysFinal "java/lang/String" "java/lang/String" "coder" "B"))⟩) (Or.inl ⟨rfl, hnm⟩) f2 (Or.inl rfl) hB11 (t := .byte) (by decide +kernel) rfl (g := (mkF m 48 #[.val (.ref a), .val (.ref b), .val (.int (Int32.ofNat o)), .val (.int (Int32.ofNat len)), .val .null, .val (.ref s.heap.size)] [.int 0, .ref a])) rfl (rest := []) rfl (hb hbytes d48)
  have c14 : Steps p.tables e below (s₁.setTop (entryFrame m #[.ref a, .ref b, .int (Int32.ofNat o), .int (Int32.ofNat len), .null] 6)) (T13.setTop (mkF m 54 #[.val (.ref a), .val (.ref b), .val (.int (Int32.ofNat o)), .val (.int (Int32.ofNat len)), .val .null, .val (.ref s.heap.size)] [.ref s.heap.size, .ref a])) := (c12.trans (st13 _ (Steps.refl _))).trans (by
    refine XS.aloadN X13.here hexec rfl (hb hbytes d51) rfl rfl ?_
    refine XS.aload X13.here hexec rfl (hb hbytes d52) rfl rfl ?_
    exact Steps.refl _)
  obtain ⟨T15, X15, p15, bl15, sl15, st15⟩ := X13.finit hexec hown (wk W (.fieldLink "java/lang/String" 9 "java/lang/String" "value" "[B")) (Or.inr ⟨_, (wk W (.laysFinal "java/lang/String" "java/lang/String" "value" "[B"))⟩) (Or.inl ⟨rfl, hnm⟩) f1 (Or.inl rfl) bl13 (t := (.array .byte)) (by decide +kernel) rfl (g := (mkF m 54 #[.val (.ref a), .val (.ref b), .val (.int (Int32.ofNat o)), .val (.int (Int32.ofNat len)), .val .null, .val (.ref s.heap.size)] [.ref s.heap.size, .ref a])) rfl (rest := []) rfl (hb hbytes d54)
  have c16 : Steps p.tables e below (s₁.setTop (entryFrame m #[.ref a, .ref b, .int (Int32.ofNat o), .int (Int32.ofNat len), .null] 6)) (T15.setTop (mkF m 57 #[.val (.ref a), .val (.ref b), .val (.int (Int32.ofNat o)), .val (.int (Int32.ofNat len)), .val .null, .val (.ref s.heap.size)] [])) := c14.trans (st15 _ (Steps.refl _))
  have ap := apart (Or.inr ⟨_, (wk W (.laysFinal "java/lang/String" "java/lang/String" "value" "[B"))⟩) (Or.inr ⟨_, (wk W (.laysFinal "java/lang/String" "java/lang/String" "coder" "B"))⟩) f1 f2 (t₁ := .array .byte) (t₂ := .byte) (by decide +kernel) (by decide +kernel) (by decide)
  have al := X8.warmed.alike.symm.trans X15.warmed.alike
  have n7 : T11.heap[s.heap.size]? = some N := by rw [q11]; exact n1.1
  exact ⟨T15, none, _, _, _, X15, by simp, rfl, by omega, (fun _ => rfl), ⟨rfl, _, N, bl15, ((Same.refl D _).set _ (by simp)).set _ (by simp), sl15, (Cell.slots_setSlot_ne _ ap).trans sl13, n1.keep al (p15.other hne (p13.other hne n7)), n2, by rw [al.findClass]; exact n3, n4, n5, fun y c h1 h2 => p15.other h1 (p13.other h1 (by rw [q11]; exact n6 y c h2)), by rw [p15.2.2, p13.2.2, q11]; exact z8⟩, fun fs hl => c16.trans (X15.returnOut hexec hret (hb hbytes d57) hl)⟩
end New4
namespace New1
def yN : MethodName := ⟨"java/lang/String", "<init>", "([C)V"⟩
abbrev yB : ByteArray := jdk_42_method_3_code
theorem d0 : decode yB 0 = .ok (.aload_n 0, 1) := by decide +kernel
theorem d1 : decode yB 1 = .ok (.aload_n 1, 1) := by decide +kernel
theorem d2 : decode yB 2 = .ok (.iconst 0, 1) := by decide +kernel
theorem d3 : decode yB 3 = .ok (.aload_n 1, 1) := by decide +kernel
theorem d4 : decode yB 4 = .ok (.arraylength, 1) := by decide +kernel
theorem d5 : decode yB 5 = .ok (.aconst_null, 1) := by decide +kernel
theorem d6 : decode yB 6 = .ok (.invokespecial 27, 3) := by decide +kernel
theorem d9 : decode yB 9 = .ok (.return_, 1) := by decide +kernel
def site : List Cond := [New4.tab] ++ initW "java/lang/String" 27 New4.yN
def tab : Cond := tabOf yN yB 2 none site
def P (a : Addr) (D : Cell) (fV fC : Field) (b : Addr) (A : Cell) (z : Int32) (args : Array Value) (s : State) : Prop := args = #[.ref a, .ref b] ∧ Blank "java/lang/String" a D s ∧ Found "java/lang/String" "value" "[B" fV s ∧ Found "java/lang/String" "coder" "B" fC s ∧ Ch b A s ∧ StaticIs s "java/lang/String" "COMPACT_STRINGS" "Z" (.int z) ∧ ¬ z = 0 ∧ 0 < A.slots.size ∧ A.slots.size ≤ 536870912 ∧ ∀ i, i < A.slots.size → ¬ 255 < cv A i
def E (a : Addr) (D : Cell) (fV fC : Field) (A : Cell) (r : Option Value) (s u : State) : Prop := Got a D fV fC A 0 A.slots.size r s u
/-- new String(chars), not empty, no char above 255: a Latin-1 String of their low bytes -/
theorem law (l : Launch) (a : Addr) (D : Cell) (fV fC : Field) (b : Addr) (A : Cell) (z : Int32) : Law l yN 2 1 3 52 yB 2 none site (P a D fV fC b A z) (E a D fV fC A) [⟨a, fC.slot⟩, ⟨a, fV.slot⟩] 1 A.slots.size := by
  refine Law.of_walk (plainFor_of_name (by decide +kernel)) (by decide +kernel) (by decide +kernel) (by decide) (fun _ _ h => by rw [h.1]; rfl) (fun _ U U' hal hh h => ⟨h.1, h.2.1.mv hal hh, h.2.2.1.al hal, h.2.2.2.1.al hal, h.2.2.2.2.1.mv hal hh, h.2.2.2.2.2.1.there hal hh, h.2.2.2.2.2.2⟩) (fun r U U' V V' h1 hal h2 h => Got.mv r U U' V V' h1 hal h2 h) ?_
  intro p e s m args below meth c s₁ X0 hexec hbytes hml hret hlk hnm hown hh0 W hP
  obtain ⟨rfl, hB, f1, f2, hA, s1, hz, l0, l2, hp⟩ := hP
  have c1 : Steps p.tables e below (s₁.setTop (entryFrame m #[.ref a, .ref b] 2)) (s₁.setTop (mkF m 0 #[.val (.ref a), .val (.ref b)] [])) := entry rfl
  have c2 : Steps p.tables e below (s₁.setTop (entryFrame m #[.ref a, .ref b] 2)) (s₁.setTop (mkF m 6 #[.val (.ref a), .val (.ref b)] [.null, .int (Int32.ofNat A.slots.size), .int 0, .ref b, .ref a])) := c1.trans (by
    refine XS.aloadN X0.here hexec rfl (hb hbytes d0) rfl rfl ?_
    refine XS.aloadN X0.here hexec rfl (hb hbytes d1) rfl rfl ?_
    refine iconstV X0.here hexec rfl 0 (hb hbytes d2) (by decide) ?_
    refine XS.aloadN X0.here hexec rfl (hb hbytes d3) rfl rfl ?_
    refine X0.alen hexec (hA.1.mv X0.warmed.alike hh0) rfl rfl (hb hbytes d4) ?_
    refine XS.aconstNull X0.here hexec rfl (hb hbytes d5) ?_
    exact Steps.refl _)
  obtain ⟨v3, T3, X3, E3, g3⟩ := X0.callN hexec (New4.law l a D fV fC b A z 0 A.slots.size) rfl hown (wks W (initW "java/lang/String" 27 New4.yN)) (W New4.tab (by simp only [site, List.mem_cons, List.mem_append, true_or, or_true])) (W := 0) (Nat.le_of_ble_eq_true rfl) (Nat.le_of_ble_eq_true rfl) (Nat.le_refl _) (by show 0 + A.slots.size ≤ A.slots.size; omega) (g := (mkF m 6 #[.val (.ref a), .val (.ref b)] [.null, .int (Int32.ofNat A.slots.size), .int (Int32.ofNat 0), .ref b, .ref a])) rfl (by rw [hml]; rfl) c2 (argsL := [.ref b, .int (Int32.ofNat 0), .int (Int32.ofNat A.slots.size), .null]) (rest := []) rfl rfl (by show 2 * 0 + 0 ≤ _; decide) (hb hbytes d6) (⟨rfl, hB.mv X0.warmed.alike hh0, f1.al X0.warmed.alike, f2.al X0.warmed.alike, hA.mv X0.warmed.alike hh0, s1.there X0.warmed.alike hh0, hz, l0, by omega, l2, fun i hi => by rw [Nat.zero_add]; exact hp i hi⟩)
  have e0 := Got.mv _ s₁ s _ _ hh0.symm (Vm.Alike.refl _) rfl E3
  obtain rfl := e0.1
  have c4 : Steps p.tables e below (s₁.setTop (entryFrame m #[.ref a, .ref b] 2)) (T3.setTop (mkF m 9 #[.val (.ref a), .val (.ref b)] [])) := g3
  exact ⟨T3, none, _, _, _, X3, by simp, rfl, by omega, (fun _ => rfl), e0, fun fs hl => c4.trans (X3.returnOut hexec hret (hb hbytes d9) hl)⟩
theorem pays {l : Launch} {R : Room} {p : Program} {e : Env} {below : List Frame} {s : State} {sargs : Array Value} {len W : Nat} (a : Addr) (D : Cell) (fV fC : Field) (b : Addr) (A : Cell) (z : Int32) (htab : tab.before sargs s = true) (hfr : 4 ≤ R.frames) (hlo : W + 65 ≤ R.locals) :
    Back l R p e below s sargs yN len W (fun A₁ a₁ => A₁.cells + 1 ≤ R.cells ∧ A₁.slots + A.slots.size ≤ R.slots ∧ P a D fV fC b A z a₁ A₁.U) (fun A₁ _ v₁ B₁ => E a D fV fC A v₁ A₁.U B₁.U ∧ B₁.locs = A₁.locs ++ [⟨a, fC.slot⟩, ⟨a, fV.slot⟩] ∧ B₁.cells = A₁.cells + 1 ∧ B₁.slots = A₁.slots + A.slots.size) :=
  (law l a D fV fC b A z).pays htab hfr (by omega)
end New1
end StrChars
namespace StrChars.Road
open Jvm Sem ClassFile Op Lib Jvm.Stand Jvm.Free Jvm.Free.XT
open Jvm.Lib.Cold (StaticIs)
abbrev ST : String := "java/lang/String"
/-- every table word that New1's law asks, flat -/
abbrev words : List Jvm.Cond := [.code New1.yN New1.yB 2 none, .initialized ST, .methodLink ST 27 New4.yN, .instanceMethod New4.yN,
  .code New4.yN New4.yB 6 none, .fieldLink ST 38 ST "COMPACT_STRINGS" "Z", .laysFinal ST ST "value" "[B", .fieldLink ST 9 ST "value" "[B", .laysFinal ST ST "coder" "B", .fieldLink ST 15 ST "coder" "B",
  .methodLink ST 1 Lib.objectInit, .instanceMethod Lib.objectInit, .code Lib.objectInit ⟨#[0xb1]⟩ 1 none, .methodLink ST 177 Cmp3.yN, .static Cmp3.yN, .methodLink ST 47 CodL.yN, .static CodL.yN,
  .code Cmp3.yN Cmp3.yB 6 (some (.array .byte)), .initialized U16, .arrayClass .byte, .methodLink U16 115 Cmp5.yN, .static Cmp5.yN, .code Cmp5.yN Cmp5.yB 7 (some .int), .code CodL.yN CodL.yB 2 (some .byte)]
theorem tab_of {a : Array Value} {s : State} (h : ∀ w ∈ words, w.before a s = true) : New1.tab.before a s = true := by
  have h5 : Cmp5.tab.before a s = true := unparts (wk h (.code Cmp5.yN Cmp5.yB 7 (some .int))) (wks h (.initialized Cmp5.yN.cls :: Cmp5.site))
  have hc : CodL.tab.before a s = true := unparts (wk h (.code CodL.yN CodL.yB 2 (some .byte))) (wks h (.initialized CodL.yN.cls :: CodL.site))
  have q5 : ∀ w ∈ Cmp5.tab :: words, w.before a s = true := fun w hw => (List.mem_cons.mp hw).elim (fun e => e ▸ h5) (h w)
  have h3 : Cmp3.tab.before a s = true := unparts (wk q5 (.code Cmp3.yN Cmp3.yB 6 (some (.array .byte)))) (wks q5 (.initialized Cmp3.yN.cls :: Cmp3.site))
  have q3 : ∀ w ∈ Cmp3.tab :: CodL.tab :: words, w.before a s = true := fun w hw => (List.mem_cons.mp hw).elim (fun e => e ▸ h3) fun hw => (List.mem_cons.mp hw).elim (fun e => e ▸ hc) (h w)
  have h4 : New4.tab.before a s = true := unparts (wk q3 (.code New4.yN New4.yB 6 none)) (wks q3 (.initialized New4.yN.cls :: New4.site))
  have q4 : ∀ w ∈ New4.tab :: words, w.before a s = true := fun w hw => (List.mem_cons.mp hw).elim (fun e => e ▸ h4) (h w)
  exact unparts (wk q4 (.code New1.yN New1.yB 2 none)) (wks q4 (.initialized New1.yN.cls :: New1.site))
/-- the words ride from the start Z to the walk's own state -/
theorem moved {Z s : State} {a0 args : Array Value} (hZ : Z.Warmed39 s.vm) (hw : ∀ d ∈ words, d.before a0 Z = true) : ∀ d ∈ words, d.before args s = true := fun d hd => by
  have q := hw d hd
  have t : ∀ d ∈ words, d = .arrayClass .byte ∨ (d.onTables && d.keepsFace) = true := by decide +kernel
  rcases t d hd with rfl | t
  · exact RoadKit.mvA hZ q
  · exact RoadKit.mv hZ q t
/-- WHAT COMES BACK, over the tables of the start Z: h the heap at the call, h' behind it -/
def Q (Z : State) (x : Addr) (A : Cell) (h : Heap) (v : Option Value) (h' : Heap) (L : List Loc) : Prop := v = none ∧ (∀ y ∈ L, y.base = x) ∧ RoadKit.Keep h h' [x] ∧ h'.size = h.size + 1 ∧ RoadKit.Exa Z h' x ST ∧ RoadKit.Fld Z h' x ST "value" "[B" (.ref h.size) ∧ RoadKit.Fld Z h' x ST "coder" "B" (.int 0) ∧
  (∃ V : Cell, RoadKit.Arr Z h' h.size V .byte ∧ V.vm = .none ∧ Z.vm.findClass "[B" = some V.cls ∧ V.slots.size = A.slots.size ∧ ∀ j, j < A.slots.size → V.slots[j]? = some (.int (lo8 (cv A j)))) ∧
  ∀ (O n d : String) (w : Value), RoadKit.Fld Z h x O n d w → RoadKit.slotOf Z O n d ≠ RoadKit.slotOf Z ST "value" "[B" → RoadKit.slotOf Z O n d ≠ RoadKit.slotOf Z ST "coder" "B" → RoadKit.Fld Z h' x O n d w
/-- **new String(chars) AT A CALL, IN THE ROAD'S FORM**: for specialBack behind newO: x the fresh String, b the char[] with the cell A -/
theorem back {p : Program} {l : Launch} {e : Env} {R : Room} {s : State} {args : Array Value} {below : List Frame} {len W : Nat} {Z : State} {a0 : Array Value} {h : Heap} (hZ : Z.Warmed39 s.vm) (hw : ∀ d ∈ words, d.before a0 Z = true) {kI : Nat} (wi : (Jvm.Cond.instantiable ST kI).before a0 Z = true)
    {x b : Addr} {A : Cell} {z : Int32} {v0 c0 : Value} (E : RoadKit.Exa Z h x ST) (V : RoadKit.Fld Z h x ST "value" "[B" v0) (C : RoadKit.Fld Z h x ST "coder" "B" c0) (K : RoadKit.Arr Z h b A .char) (hty : Typed .char A) (S : RoadKit.Sta Z h ST "COMPACT_STRINGS" "Z" (.int z)) (hz : ¬ z = 0)
    (l0 : 0 < A.slots.size) (l2 : A.slots.size ≤ 536870912) (hp : ∀ i, i < A.slots.size → ¬ 255 < cv A i) (hfr : 4 ≤ R.frames) (hlo : W + 65 ≤ R.locals) :
    Back l R p e below s args New1.yN len W (fun P a => a = #[.ref x, .ref b] ∧ P.U.heap = h ∧ P.cells + 1 ≤ R.cells ∧ P.slots + A.slots.size ≤ R.slots)
      (fun P _ v B => ∃ L, Q Z x A h v B.U.heap L ∧ B.locs = P.locs ++ L ∧ B.cells = P.cells + 1 ∧ B.slots = P.slots + A.slots.size) := by
  intro m meth c P g ig mk a X hg hsize hdg hW hn hp'
  obtain ⟨rfl, rfl, r1, r2⟩ := hp'
  have al : Z.vm.Alike P.U.vm := hZ.alike.trans X.warmed.alike
  obtain ⟨D, cfV, kV, iV, fV, hD, gV, stV, knV, obV, asV, slV⟩ := id V
  obtain ⟨D', cfC, kC, iC, fC, hD', gC, stC, -, -, asC, slC⟩ := id C
  cases hD.symm.trans hD'
  obtain ⟨D2, kD, e1, e2, e3, e4, e5⟩ := id E
  cases hD.symm.trans e1
  obtain ⟨c2, k2, i1, i2, i3, -⟩ := Cond.instantiable_spec wi
  cases e2.symm.trans i1
  cases e3.symm.trans i2
  obtain ⟨kU, u1, u2⟩ := al.2.2 _ _ e3
  have hB : Blank ST x D P.U := ⟨hD, ⟨knV, fun q hq => by rw [hq] at obV; cases obV⟩, by rw [al.findClass]; exact e2, kU, u1, by rw [u2]; exact i3, by rw [u2]; exact e5 i3⟩
  have F1 : Found ST "value" "[B" fV P.U := ⟨SBG.found_only al ⟨cfV, kV, iV, gV⟩, stV⟩
  have F2 : Found ST "coder" "B" fC P.U := ⟨SBG.found_only al ⟨cfC, kC, iC, gC⟩, stC⟩
  have hA : Ch b A P.U := ⟨⟨K.1, State.isArrayOf_alike al K.2.1, K.2.2, by omega⟩, hty⟩
  have hS : StaticIs P.U ST "COMPACT_STRINGS" "Z" (.int z) := by
    obtain ⟨cfS, iS, kS, fS, st, cS, t1, t2, t3, t4, t5, t6, t7⟩ := S
    exact StaticIs.there (s := { Z with heap := P.U.heap }) ⟨cfS, iS, kS, fS, st, cS, t1, t2, t3, t4, t5, (fun q => by rw [q] at t6; cases t6), t7⟩ al rfl
  obtain ⟨v, B, X', ⟨⟨hv, E', V', q1, q2, q3, q4, q5, q6, q7, q8, q9, q10, q11⟩, hl, hc, hs⟩, st⟩ := New1.pays x D fV fC b A z (tab_of (moved hZ hw)) hfr hlo m meth c P g ig mk _ X hg hsize hdg hW hn ⟨r1, r2, rfl, hB, F1, F2, hA, hS, hz, l0, l2, hp⟩
  have al' : Z.vm.Alike B.U.vm := hZ.alike.trans X'.warmed.alike
  have hsz : E'.slots.size = D.slots.size := by
    obtain ⟨-, -, -, kB, w1, w2, w3⟩ := q1
    obtain ⟨kB', y1, y2⟩ := al'.2.2 _ _ e3
    rw [q2.2.1] at w1
    cases w1.symm.trans y1
    rw [w3, e5 i3, y2]
  refine ⟨v, B, X', ⟨_, ⟨hv, ?_, ⟨by omega, fun y cy hy hn' => q10 y cy (by simpa using hn') hy, fun y cy hy => ?_⟩, q11, ⟨E', _, q1.1, by rw [q2.2.1]; exact e2, by rw [q2.2.1]; exact e3, by rw [q2.1]; exact obV, fun _ => by rw [hsz]; exact e5 i3⟩,
    ⟨E', cfV, kV, iV, fV, q1.1, gV, stV, by rw [q2.1]; exact knV, by rw [q2.1]; exact obV, by rw [q2.2.1]; exact asV, q3⟩, ⟨E', cfC, kC, iC, fC, q1.1, gC, stC, by rw [q2.1]; exact knV, by rw [q2.1]; exact obV, by rw [q2.2.1]; exact asC, q4⟩,
    ⟨V', ⟨q5.1, State.isArrayOf_alike al'.symm q5.2.1, q5.2.2.1⟩, q6, by rw [← al'.findClass]; exact q7, q8, fun j hj => by have := q9 j hj; rwa [Nat.zero_add] at this⟩, fun O n d w F n1 n2 => ?_⟩, hl, hc, hs⟩, st⟩
  · intro y hy
    simp only [List.mem_cons, List.not_mem_nil, or_false] at hy
    rcases hy with rfl | rfl <;> rfl
  · by_cases q : y = x
    · subst q
      cases hD.symm.trans hy
      exact ⟨E', q1.1, q2.2.1, q2.1, hsz⟩
    · exact ⟨cy, q10 y cy q hy, rfl, rfl, rfl⟩
  · obtain ⟨D3, cf, k, i, f, g1, g2, g3, g4, g5, g6, g7⟩ := F
    cases hD.symm.trans g1
    simp only [RoadKit.slotOf, g2, gV, gC, Option.map_some, Option.getD_some] at n1 n2
    exact ⟨E', cf, k, i, f, q1.1, g2, g3, by rw [q2.1]; exact g4, by rw [q2.1]; exact g5, by rw [q2.2.1]; exact g6, by rw [q2.2.2 f.slot (by simp [n1, n2])]; exact g7⟩
end StrChars.Road
namespace StrChars.Road
open Jvm Sem ClassFile Op Lib Jvm.Stand Jvm.Free Jvm.Free.XT
/-- WHAT COMES BACK, the byte[] as a list of values -/
def QA (Z : State) (x : Addr) (zn : Int32) (cs : List Int32) (h : Heap) (v : Option Value) (h' : Heap) (L : List Loc) : Prop := v = none ∧ (∀ y ∈ L, y.base = x) ∧ RoadKit.Keep h h' [x] ∧ h'.size = h.size + 1 ∧ RoadKit.Exa Z h' x ST ∧ RoadKit.Fld Z h' x ST "value" "[B" (.ref h.size) ∧ RoadKit.Fld Z h' x ST "coder" "B" (.int 0) ∧
  (∃ kb, Z.vm.findClass "[B" = some kb ∧ RoadKit.Arv Z h' h.size kb .byte zn (cs.map fun c => .int (lo8 c)) (.int 0)) ∧
  ∀ (O n d : String) (w : Value), RoadKit.Fld Z h x O n d w → RoadKit.slotOf Z O n d ≠ RoadKit.slotOf Z ST "value" "[B" → RoadKit.slotOf Z O n d ≠ RoadKit.slotOf Z ST "coder" "B" → RoadKit.Fld Z h' x O n d w
/-- **new String(chars) AT A CALL, THE ARRAYS AS LISTS**: the char[] at b holds cs, not empty, no char above 255 -/
theorem backArv {p : Program} {l : Launch} {e : Env} {R : Room} {s : State} {args : Array Value} {below : List Frame} {len W : Nat} {Z : State} {a0 : Array Value} {h : Heap} (hZ : Z.Warmed39 s.vm) (hw : ∀ d ∈ words, d.before a0 Z = true) {kI : Nat} (wi : (Jvm.Cond.instantiable ST kI).before a0 Z = true)
    {x b : Addr} {k : ClassId} {zn z : Int32} {cs : List Int32} {dv v0 c0 : Value} (E : RoadKit.Exa Z h x ST) (V : RoadKit.Fld Z h x ST "value" "[B" v0) (C : RoadKit.Fld Z h x ST "coder" "B" c0) (K : RoadKit.Arv Z h b k .char zn (cs.map Value.int) dv) (S : RoadKit.Sta Z h ST "COMPACT_STRINGS" "Z" (.int z)) (hz : ¬ z = 0)
    (hlen : zn.toNatClampNeg = cs.length) (h0 : 0 < cs.length) (hbig : cs.length ≤ 536870912) (hall : ∀ c ∈ cs, ¬ 255 < c) (hfr : 4 ≤ R.frames) (hlo : W + 65 ≤ R.locals) :
    Back l R p e below s args New1.yN len W (fun P a => a = #[.ref x, .ref b] ∧ P.U.heap = h ∧ P.cells + 1 ≤ R.cells ∧ P.slots + cs.length ≤ R.slots)
      (fun P _ v B => ∃ L, QA Z x zn cs h v B.U.heap L ∧ B.locs = P.locs ++ L ∧ B.cells = P.cells + 1 ∧ B.slots = P.slots + cs.length) := by
  obtain ⟨A, K1, K2, K3, K4, K5, K6⟩ := K
  have e : A.slots.size = cs.length := K3.trans hlen
  have hat : ∀ (i : Nat) (hi : i < cs.length), A.slots[i]? = some (.int cs[i]) := fun i hi => by rw [K5 i (by omega)]; simp [List.getD_eq_getElem?_getD, hi]
  have hcv : ∀ (i : Nat) (hi : i < cs.length), cv A i = cs[i] := fun i hi => by unfold cv; rw [hat i hi]
  have hty : Typed .char A := fun i v hv => by
    have hi : i < A.slots.size := (Array.getElem?_eq_some_iff.mp hv).1
    have q := K5 i hi
    rw [hv] at q
    rw [Option.some.inj q]
    exact K6 i hi
  refine Back.mono (back hZ hw wi E V C K1 hty S hz (by omega) (by omega) (fun i hi => by rw [hcv i (by omega)]; exact hall _ (List.getElem_mem _)) hfr hlo) (fun P a hp => ⟨hp.1, hp.2.1, hp.2.2.1, by rw [e]; exact hp.2.2.2⟩) (fun P a v B hp hq => ?_)
  obtain ⟨L, ⟨q1, q2, q3, q4, q5, q6, q7, ⟨V', v1, v2, v3, v4, v5⟩, q9⟩, hl, hc, hs⟩ := hq
  refine ⟨L, ⟨q1, q2, q3, q4, q5, q6, q7, ⟨V'.cls, v3, V', v1, rfl, by rw [v4, e, hlen], K4, fun i hi => ?_, fun i hi => ?_⟩, q9⟩, hl, hc, by rw [hs, e]⟩
  · have hi' : i < cs.length := by omega
    rw [v5 i (by omega), hcv i hi']; simp [List.getD_eq_getElem?_getD, hi']
  · have hi' : i < cs.length := by omega
    simp only [List.getD_eq_getElem?_getD, List.getElem?_map, List.getElem?_eq_getElem hi', Option.map_some, Option.getD_some]
    exact fits_lo8 _
end StrChars.Road
namespace StrChars.Road
open Jvm Sem ClassFile Op Lib Jvm.Stand Jvm.Free Jvm.Free.XT
/-- WHAT COMES BACK, in the writer's own shape -/
def QV (Z : State) (x : Addr) (N : Int32) (bs : List Int32) (h : Heap) (n0 : Nat) (v : Option Value) (h' : Heap) (L : List Loc) : Prop := v = none ∧ RoadKit.Fr n0 L ∧ RoadKit.Keep h h' [x] ∧ RoadKit.Exa Z h' x ST ∧ RoadKit.Fld Z h' x ST "coder" "B" (.int 0) ∧
  ∃ (t : Addr) (kb : ClassId), n0 ≤ t ∧ h.size ≤ t ∧ ¬ t = x ∧ RoadKit.Fld Z h' x ST "value" "[B" (.ref t) ∧ RoadKit.Arv Z h' t kb .byte N (bs.map Value.int) (.int 0)
/-- **new String(chars) AT A CALL, FOR THE WRITER**: a char[] of n known ints, each 0 to 255 -/
theorem backV {p : Program} {l : Launch} {e : Env} {R : Room} {s : State} {args : Array Value} {below : List Frame} {len W : Nat} {Z : State} {a0 : Array Value} {h : Heap} (hZ : Z.Warmed39 s.vm) (hw : ∀ d ∈ words, d.before a0 Z = true) {kI : Nat} (wi : (Jvm.Cond.instantiable ST kI).before a0 Z = true)
    {x b : Addr} {kC : ClassId} {cs bs : List Int32} {d v0 c0 : Value} {z N : Int32} {n n0 : Nat} (hx0 : n0 ≤ x) (hh0 : n0 ≤ h.size) (E : RoadKit.Exa Z h x ST) (V : RoadKit.Fld Z h x ST "value" "[B" v0) (C : RoadKit.Fld Z h x ST "coder" "B" c0) (K : RoadKit.Arv Z h b kC .char N (cs.map Value.int) d) (S : RoadKit.Sta Z h ST "COMPACT_STRINGS" "Z" (.int z)) (hz : ¬ z = 0)
    (hn : cs.length = n) (hN : N = Int32.ofNat n) (l0 : 0 < n) (l2 : n ≤ 4000) (hp : ∀ c ∈ cs, ¬ c < 0 ∧ ¬ (255 : Int32) < c) (hb : bs = cs.map (fun c => c.toInt8.toInt32)) (hfr : 4 ≤ R.frames) (hlo : W + 65 ≤ R.locals) :
    Back l R p e below s args (⟨"java/lang/String", "<init>", "([C)V"⟩ : MethodName) len W (fun P a => a = #[.ref x, .ref b] ∧ P.U.heap = h ∧ P.cells + 1 ≤ R.cells ∧ P.slots + n ≤ R.slots)
      (fun P _ v B => ∃ L, QV Z x N bs h n0 v B.U.heap L ∧ B.locs = P.locs ++ L ∧ B.cells = P.cells + 1 ∧ B.slots = P.slots + n) := by
  subst hn hN hb
  refine Back.mono (backArv hZ hw wi E V C K S hz (n32 (by omega)) l0 (by omega) (fun c hc => (hp c hc).2) hfr hlo) (fun P a hp => hp) (fun P a v B hp hq => ?_)
  obtain ⟨L, ⟨q1, q2, q3, q4, q5, q6, q7, ⟨kb, v1, v2⟩, q9⟩, hl, hc, hs⟩ := hq
  exact ⟨L, ⟨q1, fun y hy => by rw [q2 y hy]; exact hx0, q3, q5, q7, h.size, kb, hh0, Nat.le_refl _, Nat.ne_of_gt E.lt, q6, by rw [List.map_map]; exact v2⟩, hl, hc, hs⟩
end StrChars.Road
namespace StrChars
open Jvm Sem ClassFile Op Lib Jvm.Stand Jvm.Free.XT Jvm.Free.ALB Jvm.Free.JM Jvm.Free
open Jvm.Lib.Cold (StaticIs)
def hi8 (x : Int32) : Int32 := lo8 (x >>> ((8 : Int32) &&& 31))
theorem shr0 (c : Int32) : c >>> ((0 : Int32) &&& 31) = c := by
  have e : ((0 : Int32) &&& 31) = 0 := by decide
  rw [e]
  apply Int32.toBitVec_inj.mp
  rw [Int32.toBitVec_shiftRight]
  have e1 : ((0 : Int32).toBitVec.smod 32) = 0#32 := by decide
  rw [e1, BitVec.sshiftRight_eq']
  exact BitVec.sshiftRight_zero
end StrChars
namespace StrChars
open Jvm Sem ClassFile Op Lib Jvm.Stand Jvm.Free.XT Jvm.Free.ALB Jvm.Free.JM Jvm.Free
open Jvm.Lib.Cold (StaticIs)
theorem shr1 {n : Nat} (h : 2 * n < 2 ^ 31) : Int32.ofNat (2 * n) >>> ((1 : Int32) &&& 31) = Int32.ofNat n := by
  have e : ((1 : Int32) &&& 31) = 1 := by decide
  rw [e]
  apply Int32.toBitVec_inj.mp
  rw [Int32.toBitVec_shiftRight]
  have e1 : ((1 : Int32).toBitVec.smod 32) = 1#32 := by decide
  have hm : (BitVec.ofNat 32 (2 * n)).toNat = 2 * n := by rw [BitVec.toNat_ofNat, Nat.mod_eq_of_lt (by omega)]
  rw [e1, BitVec.sshiftRight_eq']
  apply BitVec.eq_of_toNat_eq
  show ((BitVec.ofNat 32 (2 * n)).sshiftRight 1).toNat = (BitVec.ofNat 32 n).toNat
  rw [BitVec.toNat_sshiftRight_of_msb_false (by rw [BitVec.msb_eq_false_iff_two_mul_lt, hm]; omega), hm, BitVec.toNat_ofNat, Nat.shiftRight_eq_div_pow]
  omega
/-- the array's cell V codes the n chars f 0 .. f (n - 1) by the coder cd, as the JDK does: coder 1 just where some char is above 255 -/
def Cod (cd : Int32) (n : Nat) (f : Nat → Int32) (V : Cell) : Prop := (cd = 0 ∧ V.slots.size = n ∧ ∀ j, j < n → V.slots[j]? = some (.int (lo8 (f j))) ∧ ¬ 255 < f j) ∨ (cd = 1 ∧ V.slots.size = 2 * n ∧ (∀ j, j < n → V.slots[2 * j]? = some (.int (lo8 (f j))) ∧ V.slots[2 * j + 1]? = some (.int (hi8 (f j)))) ∧ ∃ j, j < n ∧ 255 < f j)
theorem Cod.cd {cd : Int32} {n : Nat} {f : Nat → Int32} {V : Cell} (h : Cod cd n f V) : cd = 0 ∨ cd = 1 := h.imp (fun q => q.1) fun q => q.1
theorem Cod.len {cd : Int32} {n : Nat} {f : Nat → Int32} {V : Cell} (h : Cod cd n f V) (hs : V.slots.size < 2 ^ 31) : Int32.ofNat V.slots.size >>> (cd &&& 31) = Int32.ofNat n := by
  rcases h with ⟨rfl, h, -⟩ | ⟨rfl, h, -⟩
  · rw [shr0, h]
  · rw [h, shr1 (by omega)]
/-- **x is a String of the n chars f 0 .. f (n - 1)**, Latin-1 or UTF-16; its array at t has the cell V -/
def Txt (x t : Addr) (V : Cell) (cd : Int32) (n : Nat) (f : Nat → Int32) (U : State) : Prop := Exact "java/lang/String" x U ∧ Has x "java/lang/String" "value" "[B" (.ref t) U ∧ Has x "java/lang/String" "coder" "B" (.int cd) U ∧ XT.Arr .byte t V U ∧ Cod cd n f V ∧ ∀ j, j < n → ¬ f j < 0 ∧ ¬ 65535 < f j
theorem Txt.mv {x t : Addr} {V : Cell} {cd : Int32} {n : Nat} {f : Nat → Int32} {U U' : State} (h : Txt x t V cd n f U) (hal : U.vm.Alike U'.vm) (hh : U'.heap = U.heap) : Txt x t V cd n f U' := ⟨h.1.mv hal hh, h.2.1.mv hal hh, h.2.2.1.mv hal hh, h.2.2.2.1.mv hal hh, h.2.2.2.2⟩
namespace Cdr
def yN : MethodName := ⟨"java/lang/String", "coder", "()B"⟩
abbrev yB : ByteArray := jdk_42_method_152_code
theorem d0 : decode yB 0 = .ok (.getstatic 38, 3) := by decide +kernel
theorem d3 : decode yB 3 = .ok (.ifCond (.eq) 10, 3) := by decide +kernel
theorem d6 : decode yB 6 = .ok (.aload_n 0, 1) := by decide +kernel
theorem d7 : decode yB 7 = .ok (.getfield 15, 3) := by decide +kernel
theorem d10 : decode yB 10 = .ok (.goto 4, 3) := by decide +kernel
theorem d14 : decode yB 14 = .ok (.ireturn, 1) := by decide +kernel
def site : List Cond := [.fieldLink "java/lang/String" 38 "java/lang/String" "COMPACT_STRINGS" "Z", .fieldLink "java/lang/String" 15 "java/lang/String" "coder" "B"]
def tab : Cond := tabOf yN yB 1 (some .byte) site
def P (x : Addr) (cd z : Int32) (args : Array Value) (s : State) : Prop := args = #[.ref x] ∧ Has x "java/lang/String" "coder" "B" (.int cd) s ∧ (cd = 0 ∨ cd = 1) ∧ StaticIs s "java/lang/String" "COMPACT_STRINGS" "Z" (.int z) ∧ ¬ z = 0
def E (cd : Int32) (r : Option Value) (s u : State) : Prop := XT.PureE (some (.int cd)) r s u
theorem law (l : Launch) (x : Addr) (cd z : Int32) : Law l yN 1 0 0 0 yB 1 (some .byte) site (P x cd z) (E cd) [] 0 0 := by
  refine Law.of_walk (plainFor_of_name (by decide +kernel)) (by decide +kernel) (by decide +kernel) (by decide) (fun _ _ h => by rw [h.1]; rfl) (fun _ U U' hal hh h => ⟨h.1, h.2.1.mv hal hh, h.2.2.1, h.2.2.2.1.there hal hh, h.2.2.2.2⟩) (fun r U U' V V' h1 hal h2 h => XT.PureE.mv r U U' V V' h1 hal h2 h) ?_
  intro p e s m args below meth c s₁ X0 hexec hbytes hml hret hlk hnm hown hh0 W hP
  obtain ⟨rfl, hx, hc, s1, hz⟩ := hP
  have c1 : Steps p.tables e below (s₁.setTop (entryFrame m #[.ref x] 1)) (s₁.setTop (mkF m 0 #[.val (.ref x)] [])) := entry rfl
  obtain ⟨T2, X2, q2, st2⟩ := X0.sget hexec hown (wk W (.fieldLink "java/lang/String" 38 "java/lang/String" "COMPACT_STRINGS" "Z")) s1 (fun _ _ h => by rw [hh0]; exact h) (g := (mkF m 0 #[.val (.ref x)] [])) rfl (hb hbytes d0)
  have hh2 := q2.trans hh0
  have c3 : Steps p.tables e below (s₁.setTop (entryFrame m #[.ref x] 1)) (T2.setTop (mkF m 7 #[.val (.ref x)] [.ref x])) := (c1.trans (st2 _ (Steps.refl _))).trans (by
    refine XS.ifNo X2.here hexec rfl (hb hbytes d3) rfl (i0_eq_f hz) ?_
    refine XS.aloadN X2.here hexec rfl (hb hbytes d6) rfl rfl ?_
    exact Steps.refl _)
  obtain ⟨T4, X4, q4, st4⟩ := X2.hget hexec hown (wk W (.fieldLink "java/lang/String" 15 "java/lang/String" "coder" "B")) (hx.mv X2.warmed.alike hh2) (g := (mkF m 7 #[.val (.ref x)] [.ref x])) rfl (rest := []) rfl (hb hbytes d7)
  have c5 : Steps p.tables e below (s₁.setTop (entryFrame m #[.ref x] 1)) (T4.setTop (mkF m 14 #[.val (.ref x)] [.int cd])) := (c3.trans (st4 _ (Steps.refl _))).trans (by
    refine XS.goto X4.here hexec rfl (pc0 := 10) rfl (hb hbytes d10) (by decide) rfl ?_
    exact Steps.refl _)
  exact ⟨T4, some (.int cd), _, _, _, X4, rfl, rfl, rfl, (fun h => by cases h), ⟨rfl, q4.trans hh2⟩, fun fs hl => c5.trans (X4.ireturnOut hexec hret (by rcases hc with rfl | rfl <;> rfl) (Or.inr (Or.inr (Or.inl rfl))) (hb hbytes d14) hl)⟩
end Cdr
namespace Len
def yN : MethodName := ⟨"java/lang/String", "length", "()I"⟩
abbrev yB : ByteArray := jdk_42_method_54_code
theorem d0 : decode yB 0 = .ok (.aload_n 0, 1) := by decide +kernel
theorem d1 : decode yB 1 = .ok (.getfield 9, 3) := by decide +kernel
theorem d4 : decode yB 4 = .ok (.arraylength, 1) := by decide +kernel
theorem d5 : decode yB 5 = .ok (.aload_n 0, 1) := by decide +kernel
theorem d6 : decode yB 6 = .ok (.invokevirtual 335, 3) := by decide +kernel
theorem d9 : decode yB 9 = .ok (.ishr, 1) := by decide +kernel
theorem d10 : decode yB 10 = .ok (.ireturn, 1) := by decide +kernel
def site : List Cond := [.fieldLink "java/lang/String" 9 "java/lang/String" "value" "[B", Cdr.tab] ++ virtW "java/lang/String" 335 "java/lang/String" Cdr.yN Cdr.yN
def tab : Cond := tabOf yN yB 1 (some .int) site
def P (x t : Addr) (V : Cell) (cd : Int32) (n : Nat) (f : Nat → Int32) (z : Int32) (args : Array Value) (s : State) : Prop := args = #[.ref x] ∧ Txt x t V cd n f s ∧ StaticIs s "java/lang/String" "COMPACT_STRINGS" "Z" (.int z) ∧ ¬ z = 0
def E (n : Nat) (r : Option Value) (s u : State) : Prop := XT.PureE (some (.int (Int32.ofNat n))) r s u
/-- length() of a String of n chars, in either coding -/
theorem law (l : Launch) (x t : Addr) (V : Cell) (cd : Int32) (n : Nat) (f : Nat → Int32) (z : Int32) : Law l yN 1 0 1 13 yB 1 (some .int) site (P x t V cd n f z) (E n) [] 0 0 := by
  refine Law.of_walk (plainFor_of_name (by decide +kernel)) (by decide +kernel) (by decide +kernel) (by decide) (fun _ _ h => by rw [h.1]; rfl) (fun _ U U' hal hh h => ⟨h.1, h.2.1.mv hal hh, h.2.2.1.there hal hh, h.2.2.2⟩) (fun r U U' V V' h1 hal h2 h => XT.PureE.mv r U U' V V' h1 hal h2 h) ?_
  intro p e s m args below meth c s₁ X0 hexec hbytes hml hret hlk hnm hown hh0 W hP
  obtain ⟨rfl, hx, s1, hz⟩ := hP
  have v31 := hx.2.2.2.1.2.2.2
  have c1 : Steps p.tables e below (s₁.setTop (entryFrame m #[.ref x] 1)) (s₁.setTop (mkF m 1 #[.val (.ref x)] [.ref x])) := Steps.trans (entry rfl) (by
    show Steps p.tables e below (s₁.setTop (mkF m 0 #[.val (.ref x)] [])) _
    refine XS.aloadN X0.here hexec rfl (hb hbytes d0) rfl rfl ?_
    exact Steps.refl _)
  obtain ⟨T2, X2, q2, st2⟩ := X0.hget hexec hown (wk W (.fieldLink "java/lang/String" 9 "java/lang/String" "value" "[B")) (hx.mv X0.warmed.alike hh0).2.1 (g := (mkF m 1 #[.val (.ref x)] [.ref x])) rfl (rest := []) rfl (hb hbytes d1)
  have hh2 := q2.trans hh0
  have hx2 := hx.mv X2.warmed.alike hh2
  have c3 : Steps p.tables e below (s₁.setTop (entryFrame m #[.ref x] 1)) (T2.setTop (mkF m 6 #[.val (.ref x)] [.ref x, .int (Int32.ofNat V.slots.size)])) := (c1.trans (st2 _ (Steps.refl _))).trans (by
    refine X2.alen hexec hx2.2.2.2.1 rfl rfl (hb hbytes d4) ?_
    refine XS.aloadN X2.here hexec rfl (hb hbytes d5) rfl rfl ?_
    exact Steps.refl _)
  obtain ⟨v4, T4, X4, E4, g4⟩ := X2.callV hexec (Cdr.law l x cd z) hown (wks W (virtW "java/lang/String" 335 "java/lang/String" Cdr.yN Cdr.yN)) rfl (by decide) (wk W Cdr.tab) (W := 1) (Nat.le_of_ble_eq_true rfl) (Nat.le_of_ble_eq_true rfl) (Nat.le_refl _) (Nat.le_refl _) (hx2.1.fc X2.warmed.alike) hx2.1.is (g := (mkF m 6 #[.val (.ref x)] [.ref x, .int (Int32.ofNat V.slots.size)])) rfl (by rw [hml]; rfl) c3 (argsL := []) (rest := [.int (Int32.ofNat V.slots.size)]) rfl rfl (by show 2 * 0 + (1 + 0) ≤ _; decide) (hb hbytes d6) (⟨rfl, hx2.2.2.1, hx.2.2.2.2.1.cd, s1.there X2.warmed.alike hh2, hz⟩)
  obtain ⟨rfl, q4⟩ := E4
  have c5 : Steps p.tables e below (s₁.setTop (entryFrame m #[.ref x] 1)) (T4.setTop (mkF m 10 #[.val (.ref x)] [.int (Int32.ofNat V.slots.size >>> (cd &&& 31))])) := Steps.trans g4 (by
    refine ishr X4.here hexec rfl (hb hbytes d9) rfl ?_
    exact Steps.refl _)
  rw [hx.2.2.2.2.1.len v31] at c5
  exact ⟨T4, some (.int (Int32.ofNat n)), _, _, _, X4, rfl, rfl, rfl, (fun h => by cases h), ⟨rfl, q4.trans hh2⟩, fun fs hl => c5.trans (X4.ireturnOut hexec hret rfl (Or.inl rfl) (hb hbytes d10) hl)⟩
theorem pays {l : Launch} {R : Room} {p : Program} {e : Env} {below : List Frame} {s : State} {sargs : Array Value} {len W : Nat} (x t : Addr) (V : Cell) (cd : Int32) (n : Nat) (f : Nat → Int32) (z : Int32) (htab : tab.before sargs s = true) (hfr : 2 ≤ R.frames) (hlo : W + 25 ≤ R.locals) :
    Back l R p e below s sargs yN len W (fun A₁ a₁ => A₁.cells + 0 ≤ R.cells ∧ A₁.slots + 0 ≤ R.slots ∧ P x t V cd n f z a₁ A₁.U) (fun A₁ _ v₁ B₁ => E n v₁ A₁.U B₁.U ∧ B₁.locs = A₁.locs ++ [] ∧ B₁.cells = A₁.cells + 0 ∧ B₁.slots = A₁.slots + 0) :=
  (law l x t V cd n f z).pays htab hfr (by omega)
end Len
end StrChars
namespace StrChars.Road
open Jvm Sem ClassFile Op Lib Jvm.Stand Jvm.Free Jvm.Free.XT
open Jvm.Lib.Cold (StaticIs)
theorem consq {a : Array Value} {s : State} {c : Jvm.Cond} {L : List Jvm.Cond} (h0 : c.before a s = true) (h : ∀ w ∈ L, w.before a s = true) : ∀ w ∈ c :: L, w.before a s = true := fun w hw => (List.mem_cons.mp hw).elim (fun e => e ▸ h0) (h w)
/-- the words of String.length(), either coding -/
abbrev wordsLen : List Jvm.Cond := [.code Len.yN Len.yB 1 (some .int), .initialized ST, .fieldLink ST 9 ST "value" "[B", .fieldLink ST 38 ST "COMPACT_STRINGS" "Z", .fieldLink ST 15 ST "coder" "B", .code Cdr.yN Cdr.yB 1 (some .byte), .methodLink ST 335 Cdr.yN, .declares Cdr.yN, .selects ST Cdr.yN Cdr.yN, .instanceMethod Cdr.yN]
theorem tabLen_of {a : Array Value} {s : State} (h : ∀ w ∈ wordsLen, w.before a s = true) : Len.tab.before a s = true := by
  have hc : Cdr.tab.before a s = true := unparts (wk h (.code Cdr.yN Cdr.yB 1 (some .byte))) (wks h (.initialized Cdr.yN.cls :: Cdr.site))
  have q := consq hc h
  exact unparts (wk q (.code Len.yN Len.yB 1 (some .int))) (wks q (.initialized Len.yN.cls :: Len.site))
theorem movedLen {Z s : State} {a0 args : Array Value} (hZ : Z.Warmed39 s.vm) (hw : ∀ d ∈ wordsLen, d.before a0 Z = true) : ∀ d ∈ wordsLen, d.before args s = true := fun d hd => by
  have q := hw d hd
  have t : ∀ d ∈ wordsLen, d = .arrayClass .byte ∨ (d.onTables && d.keepsFace) = true := by decide +kernel
  rcases t d hd with rfl | t
  · exact RoadKit.mvA hZ q
  · exact RoadKit.mv hZ q t
/-- the bytes of the chars cs, low before high -/
def wideBytes : List Int32 → List Value
  | [] => []
  | c :: cs => .int (lo8 c) :: .int (hi8 c) :: wideBytes cs
theorem wide_lo (d : Value) : ∀ (cs : List Int32) (j : Nat), j < cs.length → (wideBytes cs).getD (2 * j) d = .int (lo8 (cs.getD j 0))
  | [], j, h => absurd h (Nat.not_lt_zero j)
  | c :: cs, 0, _ => rfl
  | c :: cs, j + 1, h => by
    have q := wide_lo d cs j (by simpa using h)
    rw [show 2 * (j + 1) = 2 * j + 1 + 1 from by omega]
    simpa [wideBytes] using q
theorem wide_hi (d : Value) : ∀ (cs : List Int32) (j : Nat), j < cs.length → (wideBytes cs).getD (2 * j + 1) d = .int (hi8 (cs.getD j 0))
  | [], j, h => absurd h (Nat.not_lt_zero j)
  | c :: cs, 0, _ => rfl
  | c :: cs, j + 1, h => by
    have q := wide_hi d cs j (by simpa using h)
    rw [show 2 * (j + 1) + 1 = 2 * j + 1 + 1 + 1 from by omega]
    simpa [wideBytes] using q
theorem low_at (d : Value) (cs : List Int32) (j : Nat) (h : j < cs.length) : (cs.map fun c => Value.int (lo8 c)).getD j d = .int (lo8 (cs.getD j 0)) := by
  simp [List.getD_eq_getElem?_getD, h]
/-- an array of N2 bytes vs codes the chars cs by the coder cd -/
def CodA (cs : List Int32) (cd N2 : Int32) (vs : List Value) : Prop := (cd = 0 ∧ N2 = Int32.ofNat cs.length ∧ vs = (cs.map fun c => Value.int (lo8 c)) ∧ ∀ c ∈ cs, ¬ 255 < c) ∨ (cd = 1 ∧ N2 = Int32.ofNat (2 * cs.length) ∧ vs = wideBytes cs ∧ ∃ c ∈ cs, 255 < c)
theorem CodA.cod {cs : List Int32} {cd N2 : Int32} {vs : List Value} {V : Cell} (h : CodA cs cd N2 vs) (hn : 2 * cs.length < 2 ^ 31) (hs : V.slots.size = N2.toNatClampNeg) (hv : RoadKit.Has V vs (.int 0)) : Cod cd cs.length (fun j => cs.getD j 0) V := by
  rcases h with ⟨rfl, rfl, rfl, h⟩ | ⟨rfl, rfl, rfl, c, hc, hw⟩
  · rw [n32 (by omega)] at hs
    exact Or.inl ⟨rfl, hs, fun j hj => ⟨by rw [hv j (by omega), low_at _ _ _ hj], by
      have e : cs.getD j 0 = cs[j] := by simp [List.getD_eq_getElem?_getD, hj]
      show ¬ 255 < cs.getD j 0
      rw [e]; exact h _ (List.getElem_mem _)⟩⟩
  · rw [n32 (by omega)] at hs
    obtain ⟨j, hj, rfl⟩ := List.getElem_of_mem hc
    exact Or.inr ⟨rfl, hs, fun j hj => ⟨by rw [hv _ (by omega), wide_lo _ _ _ hj], by rw [hv _ (by omega), wide_hi _ _ _ hj]⟩, j, hj, by
      have e : cs.getD j 0 = cs[j] := by simp [List.getD_eq_getElem?_getD, hj]
      show 255 < cs.getD j 0
      rw [e]; exact hw⟩
/-- an object of exactly java/lang/String, its two fields found: as the laws ask it -/
theorem strObj {Z U : State} {a0 : Array Value} {kI : Nat} (wi : (Jvm.Cond.instantiable ST kI).before a0 Z = true) (al : Z.vm.Alike U.vm) {x : Addr} {v0 c0 : Value} (E : RoadKit.Exa Z U.heap x ST) (V : RoadKit.Fld Z U.heap x ST "value" "[B" v0) (C : RoadKit.Fld Z U.heap x ST "coder" "B" c0) :
    ∃ (D : Cell) (fV fC : Field), Blank ST x D U ∧ Found ST "value" "[B" fV U ∧ Found ST "coder" "B" fC U ∧ D.slots[fV.slot]? = some v0 ∧ D.slots[fC.slot]? = some c0 ∧ RoadKit.slotOf Z ST "value" "[B" = fV.slot ∧ RoadKit.slotOf Z ST "coder" "B" = fC.slot := by
  obtain ⟨D, cfV, kV, iV, fV, hD, gV, stV, knV, obV, asV, slV⟩ := V
  obtain ⟨D', cfC, kC, iC, fC, hD', gC, stC, -, -, asC, slC⟩ := C
  cases hD.symm.trans hD'
  obtain ⟨D2, kD, e1, e2, e3, e4, e5⟩ := E
  cases hD.symm.trans e1
  obtain ⟨c2, k2, i1, i2, i3, -⟩ := Cond.instantiable_spec wi
  cases e2.symm.trans i1
  cases e3.symm.trans i2
  obtain ⟨kU, u1, u2⟩ := al.2.2 _ _ e3
  exact ⟨D, fV, fC, ⟨hD, ⟨knV, fun q hq => by rw [hq] at obV; cases obV⟩, by rw [al.findClass]; exact e2, kU, u1, by rw [u2]; exact i3, by rw [u2]; exact e5 i3⟩, ⟨SBG.found_only al ⟨cfV, kV, iV, gV⟩, stV⟩, ⟨SBG.found_only al ⟨cfC, kC, iC, gC⟩, stC⟩, slV, slC, by simp [RoadKit.slotOf, gV], by simp [RoadKit.slotOf, gC]⟩
theorem sta_is {Z U : State} (al : Z.vm.Alike U.vm) {C n d : String} {v : Value} (S : RoadKit.Sta Z U.heap C n d v) : StaticIs U C n d v := by
  obtain ⟨cfS, iS, kS, fS, st, cS, t1, t2, t3, t4, t5, t6, t7⟩ := S
  exact StaticIs.there (s := { Z with heap := U.heap }) ⟨cfS, iS, kS, fS, st, cS, t1, t2, t3, t4, t5, (fun q => by rw [q] at t6; cases t6), t7⟩ al rfl
/-- **length() OF SUCH A STRING** -/
theorem lenW {p : Program} {l : Launch} {e : Env} {R : Room} {s : State} {args : Array Value} {below : List Frame} {len W : Nat} {Z : State} {a0 : Array Value} {h : Heap} (hZ : Z.Warmed39 s.vm) (hw : ∀ d ∈ wordsLen, d.before a0 Z = true) {kI : Nat} (wi : (Jvm.Cond.instantiable ST kI).before a0 Z = true)
    {x t : Addr} {kb : ClassId} {cs : List Int32} {cd N2 z : Int32} {vs : List Value} (E : RoadKit.Exa Z h x ST) (V : RoadKit.Fld Z h x ST "value" "[B" (.ref t)) (C : RoadKit.Fld Z h x ST "coder" "B" (.int cd)) (K : RoadKit.Arv Z h t kb .byte N2 vs (.int 0)) (hc : CodA cs cd N2 vs) (hb : ∀ c ∈ cs, ¬ c < 0 ∧ ¬ (65535 : Int32) < c)
    (S : RoadKit.Sta Z h ST "COMPACT_STRINGS" "Z" (.int z)) (hz : ¬ z = 0) (l2 : cs.length ≤ 4000) (hfr : 2 ≤ R.frames) (hlo : W + 25 ≤ R.locals) :
    Back l R p e below s args (⟨"java/lang/String", "length", "()I"⟩ : MethodName) len W (fun P a => a = #[.ref x] ∧ P.U.heap = h ∧ P.cells + 0 ≤ R.cells ∧ P.slots + 0 ≤ R.slots)
      (fun P _ v B => ∃ L, (v = some (.int (Int32.ofNat cs.length)) ∧ L = [] ∧ B.U.heap = h) ∧ B.locs = P.locs ++ L ∧ B.cells = P.cells + 0 ∧ B.slots = P.slots + 0) := by
  obtain ⟨A, K1, K2, K3, K4, K5, K6⟩ := K
  have hcod := hc.cod (by omega) K3 K5
  intro m meth c P g ig mk a X hg hsize hdg hW hn hp'
  obtain ⟨rfl, rfl, r1, r2⟩ := hp'
  have al : Z.vm.Alike P.U.vm := hZ.alike.trans X.warmed.alike
  obtain ⟨D, fV, fC, hB, F1, F2, g1, g2, -, -⟩ := strObj wi al E V C
  have hx : Txt x t A cd cs.length (fun j => cs.getD j 0) P.U := ⟨⟨_, hB.2.2.1, D, hB.1, rfl, by cases q : D.vm <;> first | rfl | exact absurd q (hB.2.1.2 _)⟩, Has.of hB F1 g1, Has.of hB F2 g2, ⟨K1.1, State.isArrayOf_alike al K1.2.1, K1.2.2, by rcases hcod with ⟨-, q, -⟩ | ⟨-, q, -⟩ <;> omega⟩, hcod, fun j hj => by
    have e : cs.getD j 0 = cs[j] := by simp [List.getD_eq_getElem?_getD, hj]
    show ¬ cs.getD j 0 < 0 ∧ ¬ 65535 < cs.getD j 0
    rw [e]; exact hb _ (List.getElem_mem _)⟩
  obtain ⟨v, B, X', ⟨⟨hv, hh⟩, hl, hk, hs⟩, st⟩ := Len.pays x t A cd cs.length (fun j => cs.getD j 0) z (tabLen_of (movedLen hZ hw)) hfr hlo m meth c P g ig mk _ X hg hsize hdg hW hn ⟨r1, r2, rfl, hx, sta_is al S, hz⟩
  exact ⟨v, B, X', ⟨[], ⟨hv, rfl, hh⟩, hl, hk, hs⟩, st⟩
end StrChars.Road
namespace StrChars.Road
open Jvm Sem ClassFile Op Lib Jvm.Stand Jvm.Free Jvm.Free.XT
open Jvm.Lib.Cold (StaticIs)
/-- what backV says of its String, as the contracts of this text ask it: cs's low bytes, coder 0 -/
theorem codOf {cs : List Int32} {n : Nat} (hn : cs.length = n) (hb : ∀ c ∈ cs, ¬ 255 < c) : CodA cs 0 (Int32.ofNat n) ((cs.map lo8).map Value.int) := Or.inl ⟨rfl, by rw [hn], by simp [List.map_map, Function.comp_def], hb⟩
end StrChars.Road
end Jvm.Pilot.@@N@@
namespace Jvm.Pilot.@@N@@
open Jvm Jvm.ClassFile Sem Op Lib Jvm.Free Jvm.Stand Jvm.LawKit Jvm.RoadKit Bundle Jvm.OwnKit Jvm.Pilot.@@N@@.Jvm.D
/-! plain facts on ints -/
theorem own_and255 (x : Int32) : ∃ k : Nat, k < 256 ∧ x &&& 255 = Int32.ofNat k := by
  have e : (x &&& 255).toBitVec.toNat = x.toBitVec.toNat &&& 255 := by
    show (x.toBitVec &&& (255#32)).toNat = _
    rw [BitVec.toNat_and]; rfl
  refine ⟨x.toBitVec.toNat &&& 255, Nat.lt_of_le_of_lt Nat.and_le_right (by decide), ?_⟩
  apply Int32.toBitVec_inj.mp
  apply BitVec.eq_of_toNat_eq
  rw [e]
  show _ = (BitVec.ofNat 32 _).toNat
  rw [BitVec.toNat_ofNat, Nat.mod_eq_of_lt (Nat.lt_of_le_of_lt Nat.and_le_right (by decide))]
theorem own_ch (x : Int32) : nar .char ((x &&& (255 : Int32)).toUInt32.toUInt16.toUInt32.toInt32) = x &&& 255 := by
  show ((x &&& (255 : Int32)).toUInt32.toUInt16.toUInt32.toInt32).toUInt32.toUInt16.toUInt32.toInt32 = _
  rw [i2c_mask, i2c_mask]
theorem own_b255 (x : Int32) : ¬ (x &&& 255) < 0 ∧ ¬ (255 : Int32) < (x &&& 255) := by
  obtain ⟨k, hk, e⟩ := own_and255 x
  rw [e]
  have t : ∀ k : Fin 256, ¬ Int32.ofNat k.val < 0 ∧ ¬ (255 : Int32) < Int32.ofNat k.val := by decide +kernel
  exact t ⟨k, hk⟩
theorem own_ch255 (x : Int32) : ¬ nar .char ((x &&& (255 : Int32)).toUInt32.toUInt16.toUInt32.toInt32) < 0 ∧ ¬ (255 : Int32) < nar .char ((x &&& (255 : Int32)).toUInt32.toUInt16.toUInt32.toInt32) := by
  rw [own_ch]; exact own_b255 x
theorem own_nar_obj {n : String} {v : Value} (h : v.isRef = true) : narrow (.object n) v = v := by rcases ref_cases h with rfl | ⟨_, rfl⟩ <;> rfl
theorem own_fit_obj {n : String} {v : Value} (h : v.isRef = true) : fits (.object n) v = true := by rcases ref_cases h with rfl | ⟨_, rfl⟩ <;> rfl
theorem own_nar255 (x : Int32) : nar .char (x &&& (255 : Int32)) = x &&& 255 := by
  show (x &&& (255 : Int32)).toUInt32.toUInt16.toUInt32.toInt32 = _
  rw [i2c_mask]
theorem own_narc {c : Int32} (h : ¬ c < 0 ∧ ¬ (255 : Int32) < c) : nar .char c = c := by
  have e : c = c &&& 255 := by
    obtain ⟨k, hk⟩ : ∃ k : Fin 256, c = Int32.ofNat k.val := by
      have h1 := h.1; have h2 := h.2
      rw [Int32.lt_iff_toInt_lt] at h1 h2
      have e0 : (0 : Int32).toInt = 0 := rfl
      have e1 : (255 : Int32).toInt = 255 := rfl
      refine ⟨⟨c.toInt.toNat, by omega⟩, ?_⟩
      apply Int32.toInt_inj.mp
      show c.toInt = (Int32.ofNat c.toInt.toNat).toInt
      rw [Int32.toInt_ofNat_of_lt (by omega)]
      omega
    subst hk
    have t : ∀ k : Fin 256, Int32.ofNat k.val = Int32.ofNat k.val &&& 255 := by decide +kernel
    exact t k
  rw [e]; exact own_nar255 c
theorem own_i2c {c : Int32} (h : ¬ c < 0 ∧ ¬ (255 : Int32) < c) : c.toUInt32.toUInt16.toUInt32.toInt32 = c := own_narc h
theorem own_andk (x : Int32) (m : Nat) (hm : m < 2147483648) : ∃ k : Nat, k ≤ m ∧ x &&& Int32.ofNat m = Int32.ofNat k := by
  have e : (x &&& Int32.ofNat m).toBitVec.toNat = x.toBitVec.toNat &&& m := by
    show (x.toBitVec &&& BitVec.ofNat 32 m).toNat = _
    rw [BitVec.toNat_and, BitVec.toNat_ofNat, Nat.mod_eq_of_lt (by omega)]
  refine ⟨x.toBitVec.toNat &&& m, Nat.and_le_right, ?_⟩
  apply Int32.toBitVec_inj.mp
  apply BitVec.eq_of_toNat_eq
  rw [e]
  show _ = (BitVec.ofNat 32 _).toNat
  rw [BitVec.toNat_ofNat, Nat.mod_eq_of_lt (Nat.lt_of_le_of_lt Nat.and_le_right (by omega))]
theorem own_and3 (x : Int32) : x &&& (3 : Int32) = 0 ∨ x &&& (3 : Int32) = 1 ∨ x &&& (3 : Int32) = 2 ∨ x &&& (3 : Int32) = 3 := by
  obtain ⟨k, hk, e⟩ := own_andk x 3 (by decide)
  have e' : x &&& (3 : Int32) = Int32.ofNat k := e
  rw [e']
  have t : ∀ k : Fin 4, Int32.ofNat k.val = 0 ∨ Int32.ofNat k.val = 1 ∨ Int32.ofNat k.val = 2 ∨ Int32.ofNat k.val = 3 := by decide
  exact t ⟨k, by omega⟩
theorem own_rem3 (x : Int32) : (x &&& (3 : Int32)) - (x &&& (3 : Int32)) / 3 * 3 = 0 ∨ (x &&& (3 : Int32)) - (x &&& (3 : Int32)) / 3 * 3 = 1 ∨ (x &&& (3 : Int32)) - (x &&& (3 : Int32)) / 3 * 3 = 2 := by
  rcases own_and3 x with e | e | e | e <;> rw [e] <;> decide
/-- the chars of mk(n, c0, c1) -/
def own_cs (n c0 c1 : Int32) : List Int32 := if n = 0 then [] else if n = 1 then [c0] else [c0, c1]
theorem own_acmp_ne {v : Value} (h : v.isRef = true) : Jvm.Free.XT.acmp .ne v v = false := by simp [Jvm.Free.XT.acmp]
theorem own_acmp_eq {v : Value} (h : v.isRef = true) : Jvm.Free.XT.acmp .eq v v = true := by simp [Jvm.Free.XT.acmp]
theorem own_narb (x : Int32) : nar .byte (x.toInt8.toInt32) = x.toInt8.toInt32 := by
  show x.toInt8.toInt32.toInt8.toInt32 = _
  rw [Int8.toInt8_toInt32]
/-- the chars of mk(n, c0, c1, c2) -/
def own_cs4 (n c0 c1 c2 : Int32) : List Int32 := if n = 0 then [] else if n = 1 then [c0] else if n = 2 then [c0, c1] else [c0, c1, c2]
theorem own_rem (x m d : Int32) (hm : 0 ≤ m.toInt) (hd : 0 < d.toInt) : 0 ≤ ((x &&& m) - (x &&& m) / d * d).toInt ∧ ((x &&& m) - (x &&& m) / d * d).toInt < d.toInt := by
  rw [irem_eq_mod]
  have h1 := (c_and x m hm).1
  rw [(c_irem (x &&& m) d _ rfl).1 h1]
  exact ⟨Int.emod_nonneg _ (by omega), Int.emod_lt_of_pos _ hd⟩
theorem own_enum3 {r : Int32} (h : 0 ≤ r.toInt ∧ r.toInt < (3 : Int32).toInt) : r = 0 ∨ r = 1 ∨ r = 2 := by
  have e3 : (3 : Int32).toInt = 3 := rfl
  have : r.toInt = 0 ∨ r.toInt = 1 ∨ r.toInt = 2 := by omega
  rcases this with e | e | e
  · exact Or.inl (Int32.toInt_inj.mp e)
  · exact Or.inr (Or.inl (Int32.toInt_inj.mp e))
  · exact Or.inr (Or.inr (Int32.toInt_inj.mp e))
theorem own_enum5 {r : Int32} (h : 0 ≤ r.toInt ∧ r.toInt < (5 : Int32).toInt) : r = 0 ∨ r = 1 ∨ r = 2 ∨ r = 3 ∨ r = 4 := by
  have e3 : (5 : Int32).toInt = 5 := rfl
  have : r.toInt = 0 ∨ r.toInt = 1 ∨ r.toInt = 2 ∨ r.toInt = 3 ∨ r.toInt = 4 := by omega
  rcases this with e | e | e | e | e
  · exact Or.inl (Int32.toInt_inj.mp e)
  · exact Or.inr (Or.inl (Int32.toInt_inj.mp e))
  · exact Or.inr (Or.inr (Or.inl (Int32.toInt_inj.mp e)))
  · exact Or.inr (Or.inr (Or.inr (Or.inl (Int32.toInt_inj.mp e))))
  · exact Or.inr (Or.inr (Or.inr (Or.inr (Int32.toInt_inj.mp e))))
theorem own_enum6 {r : Int32} (h : 0 ≤ r.toInt ∧ r.toInt < (6 : Int32).toInt) : r = 0 ∨ r = 1 ∨ r = 2 ∨ r = 3 ∨ r = 4 ∨ r = 5 := by
  have e3 : (6 : Int32).toInt = 6 := rfl
  have : r.toInt = 0 ∨ r.toInt = 1 ∨ r.toInt = 2 ∨ r.toInt = 3 ∨ r.toInt = 4 ∨ r.toInt = 5 := by omega
  rcases this with e | e | e | e | e | e
  · exact Or.inl (Int32.toInt_inj.mp e)
  · exact Or.inr (Or.inl (Int32.toInt_inj.mp e))
  · exact Or.inr (Or.inr (Or.inl (Int32.toInt_inj.mp e)))
  · exact Or.inr (Or.inr (Or.inr (Or.inl (Int32.toInt_inj.mp e))))
  · exact Or.inr (Or.inr (Or.inr (Or.inr (Or.inl (Int32.toInt_inj.mp e)))))
  · exact Or.inr (Or.inr (Or.inr (Or.inr (Or.inr (Int32.toInt_inj.mp e)))))
theorem own_fldstart {Z : State} {args : Array Value} {t : Term} {a : Addr} {C n d : String} {k : Int32} (ev : t.eval args Z none [] Z = some (.ref a)) (h : (Jvm.Cond.eq (.field t C n d) (.int k)).value args Z none Z [] = some true) : Fld Z Z.heap a C n d (.int k) := by
  have h2 := Cond.eq_int (first := Z) (t := Z) (args := args) (Cond.before_iff.mpr h) rfl
  rw [fld_at ev] at h2
  exact Fld.start h2
theorem own_up {cs : List Int32} (hp : ∀ c ∈ cs, ¬ c < 0 ∧ ¬ (255 : Int32) < c) : ∀ c ∈ cs, ¬ c < 0 ∧ ¬ (65535 : Int32) < c := fun c hc => ⟨(hp c hc).1, fun q => (hp c hc).2 (Int32.lt_trans (by decide) q)⟩
theorem own_n10 : ¬ ((1 : Int32) = 0) := by decide
theorem own_n20 : ¬ ((2 : Int32) = 0) := by decide
theorem own_n21 : ¬ ((2 : Int32) = 1) := by decide
theorem own_n30 : ¬ ((3 : Int32) = 0) := by decide
theorem own_n31 : ¬ ((3 : Int32) = 1) := by decide
theorem own_n32 : ¬ ((3 : Int32) = 2) := by decide
theorem own_bite {P : Prop} [Decidable P] {a b : Int32} (ha : ¬ a < 0 ∧ ¬ (255 : Int32) < a) (hb : ¬ b < 0 ∧ ¬ (255 : Int32) < b) : ¬ (if P then a else b) < 0 ∧ ¬ (255 : Int32) < (if P then a else b) := by
  by_cases h : P
  · rw [if_pos h]; exact ha
  · rw [if_neg h]; exact hb
theorem own_ite4 {P : Prop} [Decidable P] {a b : Int32} (ha : a = 0 ∨ a = 1 ∨ a = 2 ∨ a = 3) (hb : b = 0 ∨ b = 1 ∨ b = 2 ∨ b = 3) : (if P then a else b) = 0 ∨ (if P then a else b) = 1 ∨ (if P then a else b) = 2 ∨ (if P then a else b) = 3 := by
  by_cases h : P
  · rw [if_pos h]; exact ha
  · rw [if_neg h]; exact hb
theorem own_newP {p : Program} {l : Launch} {e : Env} {R : Room} {s : State} {args : Array Value} {below : List Frame} {len W : Nat} {Z : State} {a0 : Array Value} {h : Heap} (hws : ∀ d ∈ StrChars.Road.words, d.before a0 Z = true) {kI : Nat} (wi : (Jvm.Cond.instantiable "java/lang/String" kI).before a0 Z = true) {x b : Addr} {kC : ClassId} {cs : List Int32} {d v0 c0 : Value} {N : Int32} {n : Nat} (hx0 : Z.heap.size ≤ x) (hO : Ext Z.heap h) (E : Exa Z h x "java/lang/String") (V : Fld Z h x "java/lang/String" "value" "[B" v0) (C : Fld Z h x "java/lang/String" "coder" "B" c0) (K : Arv Z h b kC .char N (cs.map Value.int) d) {G1 : Int32} (O2 : Sta Z Z.heap "java/lang/String" "COMPACT_STRINGS" "Z" (.int G1)) (P5 : ¬ G1 = 0)
    (hn : cs.length = n) (hN : N = Int32.ofNat n) (l0 : 0 < n) (l2 : n ≤ 4000) (hp : ∀ c ∈ cs, ¬ c < 0 ∧ ¬ (255 : Int32) < c) (hfr : 4 ≤ R.frames) (hlo : W + 65 ≤ R.locals) :
    Pays l R p e below s args Z (⟨"java/lang/String", "<init>", "([C)V"⟩ : MethodName) len W #[.ref x, .ref b] h 1 n (fun v h' L => v = none ∧ Fr Z.heap.size L ∧ Keep h h' [x] ∧ LStr Z h' x cs) := by
  subst hn hN
  intro vm0 hv
  refine Back.mono (StrChars.Road.backV (s := s.setVm vm0) (W := W) hv hws wi (bs := cs.map fun c => c.toInt8.toInt32) (n0 := Z.heap.size) hx0 hO.1 E V C K (O2.ext hO) P5 rfl rfl l0 l2 hp rfl hfr hlo) (fun _ _ q => q) (fun P a v B _ q => ?_)
  obtain ⟨L, ⟨q1, q2, q3, q4, q5, t, kb, -, -, -, q6, q7⟩, r⟩ := q
  exact ⟨L, ⟨q1, q2, q3, q4, q5, ⟨t, kb, q6, q7⟩, hp, l2⟩, r⟩
theorem own_lenP {p : Program} {l : Launch} {e : Env} {R : Room} {s : State} {args : Array Value} {below : List Frame} {len W : Nat} {Z : State} {a0 : Array Value} {h : Heap} (hws : ∀ d ∈ StrChars.Road.wordsLen, d.before a0 Z = true) {kI : Nat} (wi : (Jvm.Cond.instantiable "java/lang/String" kI).before a0 Z = true) {x : Addr} {cs : List Int32} (S : LStr Z h x cs) {G1 : Int32} (O2 : Sta Z Z.heap "java/lang/String" "COMPACT_STRINGS" "Z" (.int G1)) (P5 : ¬ G1 = 0) (hO : Ext Z.heap h) (hfr : 2 ≤ R.frames) (hlo : W + 25 ≤ R.locals) :
    Pays l R p e below s args Z (⟨"java/lang/String", "length", "()I"⟩ : MethodName) len W #[.ref x] h 0 0 (fun v h' L => v = some (.int (Int32.ofNat cs.length)) ∧ L = [] ∧ h' = h) := by
  obtain ⟨Es, Cs, ⟨t, kb, Vs, Ks⟩, hp, hl⟩ := S
  exact fun vm0 hv => StrChars.Road.lenW (s := s.setVm vm0) (W := W) hv hws wi Es Vs Cs Ks (StrChars.Road.codOf rfl (fun c hc => (hp c hc).2)) (own_up hp) (O2.ext hO) P5 hl hfr hlo
theorem w_0 {Z : State} {a0 : Array Value} (hw : ∀ d ∈ tables_1, d.before a0 Z = true) : (Jvm.Cond.arrayClass Jvm.ClassFile.FieldType.char).before a0 Z = true := hw _ (List.mem_of_getElem? (i := 0) rfl)
theorem w_1 {Z : State} {a0 : Array Value} (hw : ∀ d ∈ tables_1, d.before a0 Z = true) : (Jvm.Cond.classLink "com/example/steady_pulse/steadypulse/BuilderStatusPinLaw" (7 : Nat) "java/lang/String").before a0 Z = true := hw _ (List.mem_of_getElem? (i := 1) rfl)
theorem w_2 {Z : State} {a0 : Array Value} (hw : ∀ d ∈ tables_1, d.before a0 Z = true) : (Jvm.Cond.instantiable "java/lang/String" (4 : Nat)).before a0 Z = true := hw _ (List.mem_of_getElem? (i := 2) rfl)
theorem w_3 {Z : State} {a0 : Array Value} (hw : ∀ d ∈ tables_1, d.before a0 Z = true) : (Jvm.Cond.initialized "java/lang/String").before a0 Z = true := hw _ (List.mem_of_getElem? (i := 3) rfl)
theorem w_4 {Z : State} {a0 : Array Value} (hw : ∀ d ∈ tables_1, d.before a0 Z = true) : (Jvm.Cond.methodLink "com/example/steady_pulse/steadypulse/BuilderStatusPinLaw" (9 : Nat) ({ cls := "java/lang/String", name := "<init>", desc := "([C)V" } : Jvm.MethodName)).before a0 Z = true := hw _ (List.mem_of_getElem? (i := 4) rfl)
theorem w_5 {Z : State} {a0 : Array Value} (hw : ∀ d ∈ tables_1, d.before a0 Z = true) : (Jvm.Cond.instanceMethod ({ cls := "java/lang/String", name := "<init>", desc := "([C)V" } : Jvm.MethodName)).before a0 Z = true := hw _ (List.mem_of_getElem? (i := 5) rfl)
theorem w_6 {Z : State} {a0 : Array Value} (hw : ∀ d ∈ tables_1, d.before a0 Z = true) : (Jvm.Cond.code ({ cls := "java/lang/String", name := "<init>", desc := "([C)V" } : Jvm.MethodName) jdk_42_method_3_code (2 : Nat) (Option.none : Option Jvm.ClassFile.FieldType)).before a0 Z = true := hw _ (List.mem_of_getElem? (i := 6) rfl)
theorem w_12 {Z : State} {a0 : Array Value} (hw : ∀ d ∈ tables_1, d.before a0 Z = true) : (Jvm.Cond.instanceMethod ({ cls := "java/lang/Object", name := "<init>", desc := "()V" } : Jvm.MethodName)).before a0 Z = true := hw _ (List.mem_of_getElem? (i := 12) rfl)
theorem w_13 {Z : State} {a0 : Array Value} (hw : ∀ d ∈ tables_1, d.before a0 Z = true) : (Jvm.Cond.code ({ cls := "java/lang/Object", name := "<init>", desc := "()V" } : Jvm.MethodName) object_method_1_code (1 : Nat) (Option.none : Option Jvm.ClassFile.FieldType)).before a0 Z = true := hw _ (List.mem_of_getElem? (i := 13) rfl)
theorem w_14 {Z : State} {a0 : Array Value} (hw : ∀ d ∈ tables_1, d.before a0 Z = true) : (Jvm.Cond.fieldLink "java/lang/String" (38 : Nat) "java/lang/String" "COMPACT_STRINGS" "Z").before a0 Z = true := hw _ (List.mem_of_getElem? (i := 14) rfl)
theorem w_26 {Z : State} {a0 : Array Value} (hw : ∀ d ∈ tables_1, d.before a0 Z = true) : (Jvm.Cond.fieldLink "java/lang/String" (15 : Nat) "java/lang/String" "coder" "B").before a0 Z = true := hw _ (List.mem_of_getElem? (i := 26) rfl)
theorem w_27 {Z : State} {a0 : Array Value} (hw : ∀ d ∈ tables_1, d.before a0 Z = true) : (Jvm.Cond.laysFinal "java/lang/String" "java/lang/String" "coder" "B").before a0 Z = true := hw _ (List.mem_of_getElem? (i := 27) rfl)
theorem w_28 {Z : State} {a0 : Array Value} (hw : ∀ d ∈ tables_1, d.before a0 Z = true) : (Jvm.Cond.fieldLink "java/lang/String" (9 : Nat) "java/lang/String" "value" "[B").before a0 Z = true := hw _ (List.mem_of_getElem? (i := 28) rfl)
theorem w_29 {Z : State} {a0 : Array Value} (hw : ∀ d ∈ tables_1, d.before a0 Z = true) : (Jvm.Cond.laysFinal "java/lang/String" "java/lang/String" "value" "[B").before a0 Z = true := hw _ (List.mem_of_getElem? (i := 29) rfl)
theorem w_30 {Z : State} {a0 : Array Value} (hw : ∀ d ∈ tables_1, d.before a0 Z = true) : (Jvm.Cond.classLink "com/example/steady_pulse/steadypulse/BuilderStatusPinLaw" (12 : Nat) "com/example/steady_pulse/steadypulse/HealthCheckResponse$Builder").before a0 Z = true := hw _ (List.mem_of_getElem? (i := 30) rfl)
theorem w_31 {Z : State} {a0 : Array Value} (hw : ∀ d ∈ tables_1, d.before a0 Z = true) : (Jvm.Cond.instantiable "com/example/steady_pulse/steadypulse/HealthCheckResponse$Builder" (3 : Nat)).before a0 Z = true := hw _ (List.mem_of_getElem? (i := 31) rfl)
theorem w_32 {Z : State} {a0 : Array Value} (hw : ∀ d ∈ tables_1, d.before a0 Z = true) : (Jvm.Cond.initialized "com/example/steady_pulse/steadypulse/HealthCheckResponse$Builder").before a0 Z = true := hw _ (List.mem_of_getElem? (i := 32) rfl)
theorem w_33 {Z : State} {a0 : Array Value} (hw : ∀ d ∈ tables_1, d.before a0 Z = true) : (Jvm.Cond.methodLink "com/example/steady_pulse/steadypulse/BuilderStatusPinLaw" (14 : Nat) ({ cls := "com/example/steady_pulse/steadypulse/HealthCheckResponse$Builder", name := "<init>", desc := "(Ljava/lang/String;)V" } : Jvm.MethodName)).before a0 Z = true := hw _ (List.mem_of_getElem? (i := 33) rfl)
theorem w_34 {Z : State} {a0 : Array Value} (hw : ∀ d ∈ tables_1, d.before a0 Z = true) : (Jvm.Cond.instanceMethod ({ cls := "com/example/steady_pulse/steadypulse/HealthCheckResponse$Builder", name := "<init>", desc := "(Ljava/lang/String;)V" } : Jvm.MethodName)).before a0 Z = true := hw _ (List.mem_of_getElem? (i := 34) rfl)
theorem w_35 {Z : State} {a0 : Array Value} (hw : ∀ d ∈ tables_1, d.before a0 Z = true) : (Jvm.Cond.code ({ cls := "com/example/steady_pulse/steadypulse/HealthCheckResponse$Builder", name := "<init>", desc := "(Ljava/lang/String;)V" } : Jvm.MethodName) prog_22_method_1_code (2 : Nat) (Option.none : Option Jvm.ClassFile.FieldType)).before a0 Z = true := hw _ (List.mem_of_getElem? (i := 35) rfl)
theorem w_36 {Z : State} {a0 : Array Value} (hw : ∀ d ∈ tables_1, d.before a0 Z = true) : (Jvm.Cond.methodLink "com/example/steady_pulse/steadypulse/HealthCheckResponse$Builder" (1 : Nat) ({ cls := "java/lang/Object", name := "<init>", desc := "()V" } : Jvm.MethodName)).before a0 Z = true := hw _ (List.mem_of_getElem? (i := 36) rfl)
theorem w_37 {Z : State} {a0 : Array Value} (hw : ∀ d ∈ tables_1, d.before a0 Z = true) : (Jvm.Cond.classLink "com/example/steady_pulse/steadypulse/HealthCheckResponse$Builder" (7 : Nat) "java/util/LinkedHashMap").before a0 Z = true := hw _ (List.mem_of_getElem? (i := 37) rfl)
theorem w_38 {Z : State} {a0 : Array Value} (hw : ∀ d ∈ tables_1, d.before a0 Z = true) : (Jvm.Cond.instantiable "java/util/LinkedHashMap" (12 : Nat)).before a0 Z = true := hw _ (List.mem_of_getElem? (i := 38) rfl)
theorem w_39 {Z : State} {a0 : Array Value} (hw : ∀ d ∈ tables_1, d.before a0 Z = true) : (Jvm.Cond.initialized "java/util/LinkedHashMap").before a0 Z = true := hw _ (List.mem_of_getElem? (i := 39) rfl)
theorem w_40 {Z : State} {a0 : Array Value} (hw : ∀ d ∈ tables_1, d.before a0 Z = true) : (Jvm.Cond.methodLink "com/example/steady_pulse/steadypulse/HealthCheckResponse$Builder" (9 : Nat) ({ cls := "java/util/LinkedHashMap", name := "<init>", desc := "()V" } : Jvm.MethodName)).before a0 Z = true := hw _ (List.mem_of_getElem? (i := 40) rfl)
theorem w_41 {Z : State} {a0 : Array Value} (hw : ∀ d ∈ tables_1, d.before a0 Z = true) : (Jvm.Cond.instanceMethod ({ cls := "java/util/LinkedHashMap", name := "<init>", desc := "()V" } : Jvm.MethodName)).before a0 Z = true := hw _ (List.mem_of_getElem? (i := 41) rfl)
theorem w_42 {Z : State} {a0 : Array Value} (hw : ∀ d ∈ tables_1, d.before a0 Z = true) : (Jvm.Cond.code ({ cls := "java/util/LinkedHashMap", name := "<init>", desc := "()V" } : Jvm.MethodName) jdk_94_method_16_code (1 : Nat) (Option.none : Option Jvm.ClassFile.FieldType)).before a0 Z = true := hw _ (List.mem_of_getElem? (i := 42) rfl)
theorem w_43 {Z : State} {a0 : Array Value} (hw : ∀ d ∈ tables_1, d.before a0 Z = true) : (Jvm.Cond.methodLink "java/util/LinkedHashMap" (87 : Nat) ({ cls := "java/util/HashMap", name := "<init>", desc := "()V" } : Jvm.MethodName)).before a0 Z = true := hw _ (List.mem_of_getElem? (i := 43) rfl)
theorem w_44 {Z : State} {a0 : Array Value} (hw : ∀ d ∈ tables_1, d.before a0 Z = true) : (Jvm.Cond.instanceMethod ({ cls := "java/util/HashMap", name := "<init>", desc := "()V" } : Jvm.MethodName)).before a0 Z = true := hw _ (List.mem_of_getElem? (i := 44) rfl)
theorem w_47 {Z : State} {a0 : Array Value} (hw : ∀ d ∈ tables_1, d.before a0 Z = true) : (Jvm.Cond.initialized "java/util/HashMap").before a0 Z = true := hw _ (List.mem_of_getElem? (i := 47) rfl)
theorem w_48 {Z : State} {a0 : Array Value} (hw : ∀ d ∈ tables_1, d.before a0 Z = true) : (Jvm.Cond.code ({ cls := "java/util/HashMap", name := "<init>", desc := "()V" } : Jvm.MethodName) jdk_69_method_7_code (1 : Nat) (Option.none : Option Jvm.ClassFile.FieldType)).before a0 Z = true := hw _ (List.mem_of_getElem? (i := 48) rfl)
theorem w_49 {Z : State} {a0 : Array Value} (hw : ∀ d ∈ tables_1, d.before a0 Z = true) : (Jvm.Cond.methodLink "java/util/HashMap" (43 : Nat) ({ cls := "java/util/AbstractMap", name := "<init>", desc := "()V" } : Jvm.MethodName)).before a0 Z = true := hw _ (List.mem_of_getElem? (i := 49) rfl)
theorem w_50 {Z : State} {a0 : Array Value} (hw : ∀ d ∈ tables_1, d.before a0 Z = true) : (Jvm.Cond.instanceMethod ({ cls := "java/util/AbstractMap", name := "<init>", desc := "()V" } : Jvm.MethodName)).before a0 Z = true := hw _ (List.mem_of_getElem? (i := 50) rfl)
theorem w_53 {Z : State} {a0 : Array Value} (hw : ∀ d ∈ tables_1, d.before a0 Z = true) : (Jvm.Cond.initialized "java/util/AbstractMap").before a0 Z = true := hw _ (List.mem_of_getElem? (i := 53) rfl)
theorem w_54 {Z : State} {a0 : Array Value} (hw : ∀ d ∈ tables_1, d.before a0 Z = true) : (Jvm.Cond.code ({ cls := "java/util/AbstractMap", name := "<init>", desc := "()V" } : Jvm.MethodName) jdk_71_method_1_code (1 : Nat) (Option.none : Option Jvm.ClassFile.FieldType)).before a0 Z = true := hw _ (List.mem_of_getElem? (i := 54) rfl)
theorem w_55 {Z : State} {a0 : Array Value} (hw : ∀ d ∈ tables_1, d.before a0 Z = true) : (Jvm.Cond.methodLink "java/util/AbstractMap" (1 : Nat) ({ cls := "java/lang/Object", name := "<init>", desc := "()V" } : Jvm.MethodName)).before a0 Z = true := hw _ (List.mem_of_getElem? (i := 55) rfl)
theorem w_56 {Z : State} {a0 : Array Value} (hw : ∀ d ∈ tables_1, d.before a0 Z = true) : (Jvm.Cond.constantFloat "java/util/HashMap" (92 : Nat) (1061158912 : UInt32)).before a0 Z = true := hw _ (List.mem_of_getElem? (i := 56) rfl)
theorem w_57 {Z : State} {a0 : Array Value} (hw : ∀ d ∈ tables_1, d.before a0 Z = true) : (Jvm.Cond.fieldLink "java/util/HashMap" (81 : Nat) "java/util/HashMap" "loadFactor" "F").before a0 Z = true := hw _ (List.mem_of_getElem? (i := 57) rfl)
theorem w_58 {Z : State} {a0 : Array Value} (hw : ∀ d ∈ tables_1, d.before a0 Z = true) : (Jvm.Cond.laysFinal "java/util/LinkedHashMap" "java/util/HashMap" "loadFactor" "F").before a0 Z = true := hw _ (List.mem_of_getElem? (i := 58) rfl)
theorem w_59 {Z : State} {a0 : Array Value} (hw : ∀ d ∈ tables_1, d.before a0 Z = true) : (Jvm.Cond.fieldLink "java/util/LinkedHashMap" (1 : Nat) "java/util/LinkedHashMap" "putMode" "I").before a0 Z = true := hw _ (List.mem_of_getElem? (i := 59) rfl)
theorem w_60 {Z : State} {a0 : Array Value} (hw : ∀ d ∈ tables_1, d.before a0 Z = true) : (Jvm.Cond.lays "java/util/LinkedHashMap" "java/util/LinkedHashMap" "putMode" "I").before a0 Z = true := hw _ (List.mem_of_getElem? (i := 60) rfl)
theorem w_61 {Z : State} {a0 : Array Value} (hw : ∀ d ∈ tables_1, d.before a0 Z = true) : (Jvm.Cond.fieldLink "java/util/LinkedHashMap" (64 : Nat) "java/util/LinkedHashMap" "accessOrder" "Z").before a0 Z = true := hw _ (List.mem_of_getElem? (i := 61) rfl)
theorem w_62 {Z : State} {a0 : Array Value} (hw : ∀ d ∈ tables_1, d.before a0 Z = true) : (Jvm.Cond.laysFinal "java/util/LinkedHashMap" "java/util/LinkedHashMap" "accessOrder" "Z").before a0 Z = true := hw _ (List.mem_of_getElem? (i := 62) rfl)
theorem w_63 {Z : State} {a0 : Array Value} (hw : ∀ d ∈ tables_1, d.before a0 Z = true) : (Jvm.Cond.fieldLink "com/example/steady_pulse/steadypulse/HealthCheckResponse$Builder" (10 : Nat) "com/example/steady_pulse/steadypulse/HealthCheckResponse$Builder" "data" "Ljava/util/Map;").before a0 Z = true := hw _ (List.mem_of_getElem? (i := 63) rfl)
theorem w_64 {Z : State} {a0 : Array Value} (hw : ∀ d ∈ tables_1, d.before a0 Z = true) : (Jvm.Cond.laysFinal "com/example/steady_pulse/steadypulse/HealthCheckResponse$Builder" "com/example/steady_pulse/steadypulse/HealthCheckResponse$Builder" "data" "Ljava/util/Map;").before a0 Z = true := hw _ (List.mem_of_getElem? (i := 64) rfl)
theorem w_65 {Z : State} {a0 : Array Value} (hw : ∀ d ∈ tables_1, d.before a0 Z = true) : (Jvm.Cond.fieldLink "com/example/steady_pulse/steadypulse/HealthCheckResponse$Builder" (16 : Nat) "com/example/steady_pulse/steadypulse/HealthCheckResponse$Builder" "name" "Ljava/lang/String;").before a0 Z = true := hw _ (List.mem_of_getElem? (i := 65) rfl)
theorem w_66 {Z : State} {a0 : Array Value} (hw : ∀ d ∈ tables_1, d.before a0 Z = true) : (Jvm.Cond.laysFinal "com/example/steady_pulse/steadypulse/HealthCheckResponse$Builder" "com/example/steady_pulse/steadypulse/HealthCheckResponse$Builder" "name" "Ljava/lang/String;").before a0 Z = true := hw _ (List.mem_of_getElem? (i := 66) rfl)
theorem w_67 {Z : State} {a0 : Array Value} (hw : ∀ d ∈ tables_1, d.before a0 Z = true) : (Jvm.Cond.methodLink "com/example/steady_pulse/steadypulse/BuilderStatusPinLaw" (17 : Nat) ({ cls := "com/example/steady_pulse/steadypulse/HealthCheckResponse$Builder", name := "status", desc := "(Z)Lcom/example/steady_pulse/steadypulse/HealthCheckResponse$Builder;" } : Jvm.MethodName)).before a0 Z = true := hw _ (List.mem_of_getElem? (i := 67) rfl)
theorem w_68 {Z : State} {a0 : Array Value} (hw : ∀ d ∈ tables_1, d.before a0 Z = true) : (Jvm.Cond.declares ({ cls := "com/example/steady_pulse/steadypulse/HealthCheckResponse$Builder", name := "status", desc := "(Z)Lcom/example/steady_pulse/steadypulse/HealthCheckResponse$Builder;" } : Jvm.MethodName)).before a0 Z = true := hw _ (List.mem_of_getElem? (i := 68) rfl)
theorem w_69 {Z : State} {a0 : Array Value} (hw : ∀ d ∈ tables_1, d.before a0 Z = true) : (Jvm.Cond.instanceMethod ({ cls := "com/example/steady_pulse/steadypulse/HealthCheckResponse$Builder", name := "status", desc := "(Z)Lcom/example/steady_pulse/steadypulse/HealthCheckResponse$Builder;" } : Jvm.MethodName)).before a0 Z = true := hw _ (List.mem_of_getElem? (i := 69) rfl)
theorem w_70 {Z : State} {a0 : Array Value} (hw : ∀ d ∈ tables_1, d.before a0 Z = true) : (Jvm.Cond.selects "com/example/steady_pulse/steadypulse/HealthCheckResponse$Builder" ({ cls := "com/example/steady_pulse/steadypulse/HealthCheckResponse$Builder", name := "status", desc := "(Z)Lcom/example/steady_pulse/steadypulse/HealthCheckResponse$Builder;" } : Jvm.MethodName) ({ cls := "com/example/steady_pulse/steadypulse/HealthCheckResponse$Builder", name := "status", desc := "(Z)Lcom/example/steady_pulse/steadypulse/HealthCheckResponse$Builder;" } : Jvm.MethodName)).before a0 Z = true := hw _ (List.mem_of_getElem? (i := 70) rfl)
theorem w_71 {Z : State} {a0 : Array Value} (hw : ∀ d ∈ tables_1, d.before a0 Z = true) : (Jvm.Cond.code ({ cls := "com/example/steady_pulse/steadypulse/HealthCheckResponse$Builder", name := "status", desc := "(Z)Lcom/example/steady_pulse/steadypulse/HealthCheckResponse$Builder;" } : Jvm.MethodName) prog_22_method_8_code (2 : Nat) (Option.some (Jvm.ClassFile.FieldType.object "com/example/steady_pulse/steadypulse/HealthCheckResponse$Builder"))).before a0 Z = true := hw _ (List.mem_of_getElem? (i := 71) rfl)
theorem w_72 {Z : State} {a0 : Array Value} (hw : ∀ d ∈ tables_1, d.before a0 Z = true) : (Jvm.Cond.fieldLink "com/example/steady_pulse/steadypulse/HealthCheckResponse$Builder" (52 : Nat) "com/example/steady_pulse/steadypulse/HealthCheckResponse$Status" "DOWN" "Lcom/example/steady_pulse/steadypulse/HealthCheckResponse$Status;").before a0 Z = true := hw _ (List.mem_of_getElem? (i := 72) rfl)
theorem w_73 {Z : State} {a0 : Array Value} (hw : ∀ d ∈ tables_1, d.before a0 Z = true) : (Jvm.Cond.initialized "com/example/steady_pulse/steadypulse/HealthCheckResponse$Status").before a0 Z = true := hw _ (List.mem_of_getElem? (i := 73) rfl)
theorem w_74 {Z : State} {a0 : Array Value} (hw : ∀ d ∈ tables_1, d.before a0 Z = true) : (Jvm.Cond.laysStatic "com/example/steady_pulse/steadypulse/HealthCheckResponse$Status" "DOWN" "Lcom/example/steady_pulse/steadypulse/HealthCheckResponse$Status;").before a0 Z = true := hw _ (List.mem_of_getElem? (i := 74) rfl)
theorem w_75 {Z : State} {a0 : Array Value} (hw : ∀ d ∈ tables_1, d.before a0 Z = true) : (Jvm.Cond.fieldLink "com/example/steady_pulse/steadypulse/HealthCheckResponse$Builder" (55 : Nat) "com/example/steady_pulse/steadypulse/HealthCheckResponse$Builder" "status" "Lcom/example/steady_pulse/steadypulse/HealthCheckResponse$Status;").before a0 Z = true := hw _ (List.mem_of_getElem? (i := 75) rfl)
theorem w_76 {Z : State} {a0 : Array Value} (hw : ∀ d ∈ tables_1, d.before a0 Z = true) : (Jvm.Cond.lays "com/example/steady_pulse/steadypulse/HealthCheckResponse$Builder" "com/example/steady_pulse/steadypulse/HealthCheckResponse$Builder" "status" "Lcom/example/steady_pulse/steadypulse/HealthCheckResponse$Status;").before a0 Z = true := hw _ (List.mem_of_getElem? (i := 76) rfl)
theorem w_77 {Z : State} {a0 : Array Value} (hw : ∀ d ∈ tables_1, d.before a0 Z = true) : (Jvm.Cond.methodLink "com/example/steady_pulse/steadypulse/BuilderStatusPinLaw" (21 : Nat) ({ cls := "com/example/steady_pulse/steadypulse/HealthCheckResponse$Builder", name := "build", desc := "()Lcom/example/steady_pulse/steadypulse/HealthCheckResponse;" } : Jvm.MethodName)).before a0 Z = true := hw _ (List.mem_of_getElem? (i := 77) rfl)
theorem w_78 {Z : State} {a0 : Array Value} (hw : ∀ d ∈ tables_1, d.before a0 Z = true) : (Jvm.Cond.declares ({ cls := "com/example/steady_pulse/steadypulse/HealthCheckResponse$Builder", name := "build", desc := "()Lcom/example/steady_pulse/steadypulse/HealthCheckResponse;" } : Jvm.MethodName)).before a0 Z = true := hw _ (List.mem_of_getElem? (i := 78) rfl)
theorem w_79 {Z : State} {a0 : Array Value} (hw : ∀ d ∈ tables_1, d.before a0 Z = true) : (Jvm.Cond.instanceMethod ({ cls := "com/example/steady_pulse/steadypulse/HealthCheckResponse$Builder", name := "build", desc := "()Lcom/example/steady_pulse/steadypulse/HealthCheckResponse;" } : Jvm.MethodName)).before a0 Z = true := hw _ (List.mem_of_getElem? (i := 79) rfl)
theorem w_80 {Z : State} {a0 : Array Value} (hw : ∀ d ∈ tables_1, d.before a0 Z = true) : (Jvm.Cond.selects "com/example/steady_pulse/steadypulse/HealthCheckResponse$Builder" ({ cls := "com/example/steady_pulse/steadypulse/HealthCheckResponse$Builder", name := "build", desc := "()Lcom/example/steady_pulse/steadypulse/HealthCheckResponse;" } : Jvm.MethodName) ({ cls := "com/example/steady_pulse/steadypulse/HealthCheckResponse$Builder", name := "build", desc := "()Lcom/example/steady_pulse/steadypulse/HealthCheckResponse;" } : Jvm.MethodName)).before a0 Z = true := hw _ (List.mem_of_getElem? (i := 80) rfl)
theorem w_81 {Z : State} {a0 : Array Value} (hw : ∀ d ∈ tables_1, d.before a0 Z = true) : (Jvm.Cond.code ({ cls := "com/example/steady_pulse/steadypulse/HealthCheckResponse$Builder", name := "build", desc := "()Lcom/example/steady_pulse/steadypulse/HealthCheckResponse;" } : Jvm.MethodName) prog_22_method_9_code (1 : Nat) (Option.some (Jvm.ClassFile.FieldType.object "com/example/steady_pulse/steadypulse/HealthCheckResponse"))).before a0 Z = true := hw _ (List.mem_of_getElem? (i := 81) rfl)
theorem w_82 {Z : State} {a0 : Array Value} (hw : ∀ d ∈ tables_1, d.before a0 Z = true) : (Jvm.Cond.classLink "com/example/steady_pulse/steadypulse/HealthCheckResponse$Builder" (66 : Nat) "com/example/steady_pulse/steadypulse/HealthCheckResponse").before a0 Z = true := hw _ (List.mem_of_getElem? (i := 82) rfl)
theorem w_83 {Z : State} {a0 : Array Value} (hw : ∀ d ∈ tables_1, d.before a0 Z = true) : (Jvm.Cond.instantiable "com/example/steady_pulse/steadypulse/HealthCheckResponse" (3 : Nat)).before a0 Z = true := hw _ (List.mem_of_getElem? (i := 83) rfl)
theorem w_84 {Z : State} {a0 : Array Value} (hw : ∀ d ∈ tables_1, d.before a0 Z = true) : (Jvm.Cond.initialized "com/example/steady_pulse/steadypulse/HealthCheckResponse").before a0 Z = true := hw _ (List.mem_of_getElem? (i := 84) rfl)
theorem w_85 {Z : State} {a0 : Array Value} (hw : ∀ d ∈ tables_1, d.before a0 Z = true) : (Jvm.Cond.methodLink "com/example/steady_pulse/steadypulse/HealthCheckResponse$Builder" (68 : Nat) ({ cls := "com/example/steady_pulse/steadypulse/HealthCheckResponse", name := "<init>", desc := "(Ljava/lang/String;Lcom/example/steady_pulse/steadypulse/HealthCheckResponse$Status;Ljava/util/Map;)V" } : Jvm.MethodName)).before a0 Z = true := hw _ (List.mem_of_getElem? (i := 85) rfl)
theorem w_86 {Z : State} {a0 : Array Value} (hw : ∀ d ∈ tables_1, d.before a0 Z = true) : (Jvm.Cond.instanceMethod ({ cls := "com/example/steady_pulse/steadypulse/HealthCheckResponse", name := "<init>", desc := "(Ljava/lang/String;Lcom/example/steady_pulse/steadypulse/HealthCheckResponse$Status;Ljava/util/Map;)V" } : Jvm.MethodName)).before a0 Z = true := hw _ (List.mem_of_getElem? (i := 86) rfl)
theorem w_87 {Z : State} {a0 : Array Value} (hw : ∀ d ∈ tables_1, d.before a0 Z = true) : (Jvm.Cond.code ({ cls := "com/example/steady_pulse/steadypulse/HealthCheckResponse", name := "<init>", desc := "(Ljava/lang/String;Lcom/example/steady_pulse/steadypulse/HealthCheckResponse$Status;Ljava/util/Map;)V" } : Jvm.MethodName) prog_21_method_1_code (9 : Nat) (Option.none : Option Jvm.ClassFile.FieldType)).before a0 Z = true := hw _ (List.mem_of_getElem? (i := 87) rfl)
theorem w_88 {Z : State} {a0 : Array Value} (hw : ∀ d ∈ tables_1, d.before a0 Z = true) : (Jvm.Cond.methodLink "com/example/steady_pulse/steadypulse/HealthCheckResponse" (1 : Nat) ({ cls := "java/lang/Object", name := "<init>", desc := "()V" } : Jvm.MethodName)).before a0 Z = true := hw _ (List.mem_of_getElem? (i := 88) rfl)
theorem w_89 {Z : State} {a0 : Array Value} (hw : ∀ d ∈ tables_1, d.before a0 Z = true) : (Jvm.Cond.stringLink "com/example/steady_pulse/steadypulse/HealthCheckResponse" (7 : Nat) "name").before a0 Z = true := hw _ (List.mem_of_getElem? (i := 89) rfl)
theorem w_92 {Z : State} {a0 : Array Value} (hw : ∀ d ∈ tables_1, d.before a0 Z = true) : (Jvm.Cond.methodLink "com/example/steady_pulse/steadypulse/HealthCheckResponse" (9 : Nat) ({ cls := "java/util/Objects", name := "requireNonNull", desc := "(Ljava/lang/Object;Ljava/lang/String;)Ljava/lang/Object;" } : Jvm.MethodName)).before a0 Z = true := hw _ (List.mem_of_getElem? (i := 92) rfl)
theorem w_93 {Z : State} {a0 : Array Value} (hw : ∀ d ∈ tables_1, d.before a0 Z = true) : (Jvm.Cond.static ({ cls := "java/util/Objects", name := "requireNonNull", desc := "(Ljava/lang/Object;Ljava/lang/String;)Ljava/lang/Object;" } : Jvm.MethodName)).before a0 Z = true := hw _ (List.mem_of_getElem? (i := 93) rfl)
theorem w_94 {Z : State} {a0 : Array Value} (hw : ∀ d ∈ tables_1, d.before a0 Z = true) : (Jvm.Cond.initialized "java/util/Objects").before a0 Z = true := hw _ (List.mem_of_getElem? (i := 94) rfl)
theorem w_95 {Z : State} {a0 : Array Value} (hw : ∀ d ∈ tables_1, d.before a0 Z = true) : (Jvm.Cond.code ({ cls := "java/util/Objects", name := "requireNonNull", desc := "(Ljava/lang/Object;Ljava/lang/String;)Ljava/lang/Object;" } : Jvm.MethodName) jdk_31_method_11_code (2 : Nat) (Option.some (Jvm.ClassFile.FieldType.object "java/lang/Object"))).before a0 Z = true := hw _ (List.mem_of_getElem? (i := 95) rfl)
theorem w_96 {Z : State} {a0 : Array Value} (hw : ∀ d ∈ tables_1, d.before a0 Z = true) : (Jvm.Cond.stringLink "com/example/steady_pulse/steadypulse/HealthCheckResponse" (15 : Nat) "status").before a0 Z = true := hw _ (List.mem_of_getElem? (i := 96) rfl)
theorem w_97 {Z : State} {a0 : Array Value} (hw : ∀ d ∈ tables_1, d.before a0 Z = true) : (Jvm.Cond.stringLink "com/example/steady_pulse/steadypulse/HealthCheckResponse" (17 : Nat) "data").before a0 Z = true := hw _ (List.mem_of_getElem? (i := 97) rfl)
theorem w_98 {Z : State} {a0 : Array Value} (hw : ∀ d ∈ tables_1, d.before a0 Z = true) : (Jvm.Cond.methodLink "com/example/steady_pulse/steadypulse/HealthCheckResponse" (19 : Nat) ({ cls := "java/lang/String", name := "isBlank", desc := "()Z" } : Jvm.MethodName)).before a0 Z = true := hw _ (List.mem_of_getElem? (i := 98) rfl)
theorem w_99 {Z : State} {a0 : Array Value} (hw : ∀ d ∈ tables_1, d.before a0 Z = true) : (Jvm.Cond.declares ({ cls := "java/lang/String", name := "isBlank", desc := "()Z" } : Jvm.MethodName)).before a0 Z = true := hw _ (List.mem_of_getElem? (i := 99) rfl)
theorem w_100 {Z : State} {a0 : Array Value} (hw : ∀ d ∈ tables_1, d.before a0 Z = true) : (Jvm.Cond.instanceMethod ({ cls := "java/lang/String", name := "isBlank", desc := "()Z" } : Jvm.MethodName)).before a0 Z = true := hw _ (List.mem_of_getElem? (i := 100) rfl)
theorem w_101 {Z : State} {a0 : Array Value} (hw : ∀ d ∈ tables_1, d.before a0 Z = true) : (Jvm.Cond.selects "java/lang/String" ({ cls := "java/lang/String", name := "isBlank", desc := "()Z" } : Jvm.MethodName) ({ cls := "java/lang/String", name := "isBlank", desc := "()Z" } : Jvm.MethodName)).before a0 Z = true := hw _ (List.mem_of_getElem? (i := 101) rfl)
theorem w_102 {Z : State} {a0 : Array Value} (hw : ∀ d ∈ tables_1, d.before a0 Z = true) : (Jvm.Cond.code ({ cls := "java/lang/String", name := "isBlank", desc := "()Z" } : Jvm.MethodName) jdk_42_method_117_code (1 : Nat) (Option.some Jvm.ClassFile.FieldType.boolean)).before a0 Z = true := hw _ (List.mem_of_getElem? (i := 102) rfl)
theorem w_103 {Z : State} {a0 : Array Value} (hw : ∀ d ∈ tables_1, d.before a0 Z = true) : (Jvm.Cond.methodLink "java/lang/String" (876 : Nat) ({ cls := "java/lang/String", name := "indexOfNonWhitespace", desc := "()I" } : Jvm.MethodName)).before a0 Z = true := hw _ (List.mem_of_getElem? (i := 103) rfl)
theorem w_104 {Z : State} {a0 : Array Value} (hw : ∀ d ∈ tables_1, d.before a0 Z = true) : (Jvm.Cond.instanceMethod ({ cls := "java/lang/String", name := "indexOfNonWhitespace", desc := "()I" } : Jvm.MethodName)).before a0 Z = true := hw _ (List.mem_of_getElem? (i := 104) rfl)
theorem w_105 {Z : State} {a0 : Array Value} (hw : ∀ d ∈ tables_1, d.before a0 Z = true) : (Jvm.Cond.privateMethod ({ cls := "java/lang/String", name := "indexOfNonWhitespace", desc := "()I" } : Jvm.MethodName)).before a0 Z = true := hw _ (List.mem_of_getElem? (i := 105) rfl)
theorem w_106 {Z : State} {a0 : Array Value} (hw : ∀ d ∈ tables_1, d.before a0 Z = true) : (Jvm.Cond.selects "java/lang/String" ({ cls := "java/lang/String", name := "indexOfNonWhitespace", desc := "()I" } : Jvm.MethodName) ({ cls := "java/lang/String", name := "indexOfNonWhitespace", desc := "()I" } : Jvm.MethodName)).before a0 Z = true := hw _ (List.mem_of_getElem? (i := 106) rfl)
theorem w_107 {Z : State} {a0 : Array Value} (hw : ∀ d ∈ tables_1, d.before a0 Z = true) : (Jvm.Cond.code ({ cls := "java/lang/String", name := "indexOfNonWhitespace", desc := "()I" } : Jvm.MethodName) jdk_42_method_120_code (1 : Nat) (Option.some Jvm.ClassFile.FieldType.int)).before a0 Z = true := hw _ (List.mem_of_getElem? (i := 107) rfl)
theorem w_108 {Z : State} {a0 : Array Value} (hw : ∀ d ∈ tables_1, d.before a0 Z = true) : (Jvm.Cond.methodLink "java/lang/String" (492 : Nat) ({ cls := "java/lang/String", name := "isLatin1", desc := "()Z" } : Jvm.MethodName)).before a0 Z = true := hw _ (List.mem_of_getElem? (i := 108) rfl)
theorem w_109 {Z : State} {a0 : Array Value} (hw : ∀ d ∈ tables_1, d.before a0 Z = true) : (Jvm.Cond.declares ({ cls := "java/lang/String", name := "isLatin1", desc := "()Z" } : Jvm.MethodName)).before a0 Z = true := hw _ (List.mem_of_getElem? (i := 109) rfl)
theorem w_110 {Z : State} {a0 : Array Value} (hw : ∀ d ∈ tables_1, d.before a0 Z = true) : (Jvm.Cond.instanceMethod ({ cls := "java/lang/String", name := "isLatin1", desc := "()Z" } : Jvm.MethodName)).before a0 Z = true := hw _ (List.mem_of_getElem? (i := 110) rfl)
theorem w_111 {Z : State} {a0 : Array Value} (hw : ∀ d ∈ tables_1, d.before a0 Z = true) : (Jvm.Cond.selects "java/lang/String" ({ cls := "java/lang/String", name := "isLatin1", desc := "()Z" } : Jvm.MethodName) ({ cls := "java/lang/String", name := "isLatin1", desc := "()Z" } : Jvm.MethodName)).before a0 Z = true := hw _ (List.mem_of_getElem? (i := 111) rfl)
theorem w_112 {Z : State} {a0 : Array Value} (hw : ∀ d ∈ tables_1, d.before a0 Z = true) : (Jvm.Cond.code ({ cls := "java/lang/String", name := "isLatin1", desc := "()Z" } : Jvm.MethodName) jdk_42_method_154_code (1 : Nat) (Option.some Jvm.ClassFile.FieldType.boolean)).before a0 Z = true := hw _ (List.mem_of_getElem? (i := 112) rfl)
theorem w_113 {Z : State} {a0 : Array Value} (hw : ∀ d ∈ tables_1, d.before a0 Z = true) : (Jvm.Cond.methodLink "java/lang/String" (924 : Nat) ({ cls := "java/lang/StringLatin1", name := "indexOfNonWhitespace", desc := "([B)I" } : Jvm.MethodName)).before a0 Z = true := hw _ (List.mem_of_getElem? (i := 113) rfl)
theorem w_114 {Z : State} {a0 : Array Value} (hw : ∀ d ∈ tables_1, d.before a0 Z = true) : (Jvm.Cond.static ({ cls := "java/lang/StringLatin1", name := "indexOfNonWhitespace", desc := "([B)I" } : Jvm.MethodName)).before a0 Z = true := hw _ (List.mem_of_getElem? (i := 114) rfl)
theorem w_115 {Z : State} {a0 : Array Value} (hw : ∀ d ∈ tables_1, d.before a0 Z = true) : (Jvm.Cond.initialized "java/lang/StringLatin1").before a0 Z = true := hw _ (List.mem_of_getElem? (i := 115) rfl)
theorem w_116 {Z : State} {a0 : Array Value} (hw : ∀ d ∈ tables_1, d.before a0 Z = true) : (Jvm.Cond.code ({ cls := "java/lang/StringLatin1", name := "indexOfNonWhitespace", desc := "([B)I" } : Jvm.MethodName) jdk_43_method_37_code (4 : Nat) (Option.some Jvm.ClassFile.FieldType.int)).before a0 Z = true := hw _ (List.mem_of_getElem? (i := 116) rfl)
theorem w_117 {Z : State} {a0 : Array Value} (hw : ∀ d ∈ tables_1, d.before a0 Z = true) : (Jvm.Cond.methodLink "java/lang/StringLatin1" (50 : Nat) ({ cls := "java/lang/StringLatin1", name := "getChar", desc := "([BI)C" } : Jvm.MethodName)).before a0 Z = true := hw _ (List.mem_of_getElem? (i := 117) rfl)
theorem w_118 {Z : State} {a0 : Array Value} (hw : ∀ d ∈ tables_1, d.before a0 Z = true) : (Jvm.Cond.static ({ cls := "java/lang/StringLatin1", name := "getChar", desc := "([BI)C" } : Jvm.MethodName)).before a0 Z = true := hw _ (List.mem_of_getElem? (i := 118) rfl)
theorem w_119 {Z : State} {a0 : Array Value} (hw : ∀ d ∈ tables_1, d.before a0 Z = true) : (Jvm.Cond.code ({ cls := "java/lang/StringLatin1", name := "getChar", desc := "([BI)C" } : Jvm.MethodName) jdk_43_method_44_code (2 : Nat) (Option.some Jvm.ClassFile.FieldType.char)).before a0 Z = true := hw _ (List.mem_of_getElem? (i := 119) rfl)
theorem w_120 {Z : State} {a0 : Array Value} (hw : ∀ d ∈ tables_1, d.before a0 Z = true) : (Jvm.Cond.fieldLink "java/lang/StringLatin1" (66 : Nat) "java/lang/CharacterDataLatin1" "instance" "Ljava/lang/CharacterDataLatin1;").before a0 Z = true := hw _ (List.mem_of_getElem? (i := 120) rfl)
theorem w_121 {Z : State} {a0 : Array Value} (hw : ∀ d ∈ tables_1, d.before a0 Z = true) : (Jvm.Cond.initialized "java/lang/CharacterDataLatin1").before a0 Z = true := hw _ (List.mem_of_getElem? (i := 121) rfl)
theorem w_122 {Z : State} {a0 : Array Value} (hw : ∀ d ∈ tables_1, d.before a0 Z = true) : (Jvm.Cond.methodLink "java/lang/StringLatin1" (211 : Nat) ({ cls := "java/lang/CharacterDataLatin1", name := "isWhitespace", desc := "(I)Z" } : Jvm.MethodName)).before a0 Z = true := hw _ (List.mem_of_getElem? (i := 122) rfl)
theorem w_123 {Z : State} {a0 : Array Value} (hw : ∀ d ∈ tables_1, d.before a0 Z = true) : (Jvm.Cond.declares ({ cls := "java/lang/CharacterDataLatin1", name := "isWhitespace", desc := "(I)Z" } : Jvm.MethodName)).before a0 Z = true := hw _ (List.mem_of_getElem? (i := 123) rfl)
theorem w_124 {Z : State} {a0 : Array Value} (hw : ∀ d ∈ tables_1, d.before a0 Z = true) : (Jvm.Cond.instanceMethod ({ cls := "java/lang/CharacterDataLatin1", name := "isWhitespace", desc := "(I)Z" } : Jvm.MethodName)).before a0 Z = true := hw _ (List.mem_of_getElem? (i := 124) rfl)
theorem w_125 {Z : State} {a0 : Array Value} (hw : ∀ d ∈ tables_1, d.before a0 Z = true) : (Jvm.Cond.selects "java/lang/CharacterDataLatin1" ({ cls := "java/lang/CharacterDataLatin1", name := "isWhitespace", desc := "(I)Z" } : Jvm.MethodName) ({ cls := "java/lang/CharacterDataLatin1", name := "isWhitespace", desc := "(I)Z" } : Jvm.MethodName)).before a0 Z = true := hw _ (List.mem_of_getElem? (i := 125) rfl)
theorem w_126 {Z : State} {a0 : Array Value} (hw : ∀ d ∈ tables_1, d.before a0 Z = true) : (Jvm.Cond.code ({ cls := "java/lang/CharacterDataLatin1", name := "isWhitespace", desc := "(I)Z" } : Jvm.MethodName) jdk_116_method_26_code (3 : Nat) (Option.some Jvm.ClassFile.FieldType.boolean)).before a0 Z = true := hw _ (List.mem_of_getElem? (i := 126) rfl)
theorem w_127 {Z : State} {a0 : Array Value} (hw : ∀ d ∈ tables_1, d.before a0 Z = true) : (Jvm.Cond.methodLink "java/lang/CharacterDataLatin1" (15 : Nat) ({ cls := "java/lang/CharacterDataLatin1", name := "getProperties", desc := "(I)I" } : Jvm.MethodName)).before a0 Z = true := hw _ (List.mem_of_getElem? (i := 127) rfl)
theorem w_128 {Z : State} {a0 : Array Value} (hw : ∀ d ∈ tables_1, d.before a0 Z = true) : (Jvm.Cond.declares ({ cls := "java/lang/CharacterDataLatin1", name := "getProperties", desc := "(I)I" } : Jvm.MethodName)).before a0 Z = true := hw _ (List.mem_of_getElem? (i := 128) rfl)
theorem w_129 {Z : State} {a0 : Array Value} (hw : ∀ d ∈ tables_1, d.before a0 Z = true) : (Jvm.Cond.instanceMethod ({ cls := "java/lang/CharacterDataLatin1", name := "getProperties", desc := "(I)I" } : Jvm.MethodName)).before a0 Z = true := hw _ (List.mem_of_getElem? (i := 129) rfl)
theorem w_130 {Z : State} {a0 : Array Value} (hw : ∀ d ∈ tables_1, d.before a0 Z = true) : (Jvm.Cond.selects "java/lang/CharacterDataLatin1" ({ cls := "java/lang/CharacterDataLatin1", name := "getProperties", desc := "(I)I" } : Jvm.MethodName) ({ cls := "java/lang/CharacterDataLatin1", name := "getProperties", desc := "(I)I" } : Jvm.MethodName)).before a0 Z = true := hw _ (List.mem_of_getElem? (i := 130) rfl)
theorem w_131 {Z : State} {a0 : Array Value} (hw : ∀ d ∈ tables_1, d.before a0 Z = true) : (Jvm.Cond.code ({ cls := "java/lang/CharacterDataLatin1", name := "getProperties", desc := "(I)I" } : Jvm.MethodName) jdk_116_method_1_code (4 : Nat) (Option.some Jvm.ClassFile.FieldType.int)).before a0 Z = true := hw _ (List.mem_of_getElem? (i := 131) rfl)
theorem w_132 {Z : State} {a0 : Array Value} (hw : ∀ d ∈ tables_1, d.before a0 Z = true) : (Jvm.Cond.fieldLink "java/lang/CharacterDataLatin1" (1 : Nat) "java/lang/CharacterDataLatin1" "A" "[I").before a0 Z = true := hw _ (List.mem_of_getElem? (i := 132) rfl)
theorem w_133 {Z : State} {a0 : Array Value} (hw : ∀ d ∈ tables_1, d.before a0 Z = true) : (Jvm.Cond.methodLink "java/lang/String" (505 : Nat) ({ cls := "java/lang/String", name := "length", desc := "()I" } : Jvm.MethodName)).before a0 Z = true := hw _ (List.mem_of_getElem? (i := 133) rfl)
theorem w_134 {Z : State} {a0 : Array Value} (hw : ∀ d ∈ tables_1, d.before a0 Z = true) : (Jvm.Cond.declares ({ cls := "java/lang/String", name := "length", desc := "()I" } : Jvm.MethodName)).before a0 Z = true := hw _ (List.mem_of_getElem? (i := 134) rfl)
theorem w_135 {Z : State} {a0 : Array Value} (hw : ∀ d ∈ tables_1, d.before a0 Z = true) : (Jvm.Cond.instanceMethod ({ cls := "java/lang/String", name := "length", desc := "()I" } : Jvm.MethodName)).before a0 Z = true := hw _ (List.mem_of_getElem? (i := 135) rfl)
theorem w_136 {Z : State} {a0 : Array Value} (hw : ∀ d ∈ tables_1, d.before a0 Z = true) : (Jvm.Cond.selects "java/lang/String" ({ cls := "java/lang/String", name := "length", desc := "()I" } : Jvm.MethodName) ({ cls := "java/lang/String", name := "length", desc := "()I" } : Jvm.MethodName)).before a0 Z = true := hw _ (List.mem_of_getElem? (i := 136) rfl)
theorem w_143 {Z : State} {a0 : Array Value} (hw : ∀ d ∈ tables_1, d.before a0 Z = true) : (Jvm.Cond.classLink "com/example/steady_pulse/steadypulse/HealthCheckResponse" (32 : Nat) "java/util/LinkedHashMap").before a0 Z = true := hw _ (List.mem_of_getElem? (i := 143) rfl)
theorem w_144 {Z : State} {a0 : Array Value} (hw : ∀ d ∈ tables_1, d.before a0 Z = true) : (Jvm.Cond.methodLink "com/example/steady_pulse/steadypulse/HealthCheckResponse" (34 : Nat) ({ cls := "java/util/LinkedHashMap", name := "<init>", desc := "()V" } : Jvm.MethodName)).before a0 Z = true := hw _ (List.mem_of_getElem? (i := 144) rfl)
theorem w_145 {Z : State} {a0 : Array Value} (hw : ∀ d ∈ tables_1, d.before a0 Z = true) : (Jvm.Cond.methodLink "com/example/steady_pulse/steadypulse/HealthCheckResponse" (35 : Nat) ({ cls := "java/util/Map", name := "entrySet", desc := "()Ljava/util/Set;" } : Jvm.MethodName)).before a0 Z = true := hw _ (List.mem_of_getElem? (i := 145) rfl)
theorem w_146 {Z : State} {a0 : Array Value} (hw : ∀ d ∈ tables_1, d.before a0 Z = true) : (Jvm.Cond.declares ({ cls := "java/util/Map", name := "entrySet", desc := "()Ljava/util/Set;" } : Jvm.MethodName)).before a0 Z = true := hw _ (List.mem_of_getElem? (i := 146) rfl)
theorem w_147 {Z : State} {a0 : Array Value} (hw : ∀ d ∈ tables_1, d.before a0 Z = true) : (Jvm.Cond.interfaceMethod "java/util/Map" "java/util/Map" "entrySet" "()Ljava/util/Set;").before a0 Z = true := hw _ (List.mem_of_getElem? (i := 147) rfl)
theorem w_148 {Z : State} {a0 : Array Value} (hw : ∀ d ∈ tables_1, d.before a0 Z = true) : (Jvm.Cond.selects "java/util/LinkedHashMap" ({ cls := "java/util/Map", name := "entrySet", desc := "()Ljava/util/Set;" } : Jvm.MethodName) ({ cls := "java/util/LinkedHashMap", name := "entrySet", desc := "()Ljava/util/Set;" } : Jvm.MethodName)).before a0 Z = true := hw _ (List.mem_of_getElem? (i := 148) rfl)
theorem w_149 {Z : State} {a0 : Array Value} (hw : ∀ d ∈ tables_1, d.before a0 Z = true) : (Jvm.Cond.instanceMethod ({ cls := "java/util/LinkedHashMap", name := "entrySet", desc := "()Ljava/util/Set;" } : Jvm.MethodName)).before a0 Z = true := hw _ (List.mem_of_getElem? (i := 149) rfl)
theorem w_150 {Z : State} {a0 : Array Value} (hw : ∀ d ∈ tables_1, d.before a0 Z = true) : (Jvm.Cond.publicMethod ({ cls := "java/util/LinkedHashMap", name := "entrySet", desc := "()Ljava/util/Set;" } : Jvm.MethodName)).before a0 Z = true := hw _ (List.mem_of_getElem? (i := 150) rfl)
theorem w_151 {Z : State} {a0 : Array Value} (hw : ∀ d ∈ tables_1, d.before a0 Z = true) : (Jvm.Cond.unhidden "java/util/LinkedHashMap" "entrySet" "()Ljava/util/Set;").before a0 Z = true := hw _ (List.mem_of_getElem? (i := 151) rfl)
theorem w_152 {Z : State} {a0 : Array Value} (hw : ∀ d ∈ tables_1, d.before a0 Z = true) : (Jvm.Cond.castable "java/util/LinkedHashMap" "java/util/Map").before a0 Z = true := hw _ (List.mem_of_getElem? (i := 152) rfl)
theorem w_153 {Z : State} {a0 : Array Value} (hw : ∀ d ∈ tables_1, d.before a0 Z = true) : (Jvm.Cond.code ({ cls := "java/util/LinkedHashMap", name := "entrySet", desc := "()Ljava/util/Set;" } : Jvm.MethodName) jdk_94_method_32_code (1 : Nat) (Option.some (Jvm.ClassFile.FieldType.object "java/util/Set"))).before a0 Z = true := hw _ (List.mem_of_getElem? (i := 153) rfl)
theorem w_154 {Z : State} {a0 : Array Value} (hw : ∀ d ∈ tables_1, d.before a0 Z = true) : (Jvm.Cond.methodLink "java/util/LinkedHashMap" (148 : Nat) ({ cls := "java/util/LinkedHashMap", name := "sequencedEntrySet", desc := "()Ljava/util/SequencedSet;" } : Jvm.MethodName)).before a0 Z = true := hw _ (List.mem_of_getElem? (i := 154) rfl)
theorem w_155 {Z : State} {a0 : Array Value} (hw : ∀ d ∈ tables_1, d.before a0 Z = true) : (Jvm.Cond.declares ({ cls := "java/util/LinkedHashMap", name := "sequencedEntrySet", desc := "()Ljava/util/SequencedSet;" } : Jvm.MethodName)).before a0 Z = true := hw _ (List.mem_of_getElem? (i := 155) rfl)
theorem w_156 {Z : State} {a0 : Array Value} (hw : ∀ d ∈ tables_1, d.before a0 Z = true) : (Jvm.Cond.instanceMethod ({ cls := "java/util/LinkedHashMap", name := "sequencedEntrySet", desc := "()Ljava/util/SequencedSet;" } : Jvm.MethodName)).before a0 Z = true := hw _ (List.mem_of_getElem? (i := 156) rfl)
theorem w_157 {Z : State} {a0 : Array Value} (hw : ∀ d ∈ tables_1, d.before a0 Z = true) : (Jvm.Cond.selects "java/util/LinkedHashMap" ({ cls := "java/util/LinkedHashMap", name := "sequencedEntrySet", desc := "()Ljava/util/SequencedSet;" } : Jvm.MethodName) ({ cls := "java/util/LinkedHashMap", name := "sequencedEntrySet", desc := "()Ljava/util/SequencedSet;" } : Jvm.MethodName)).before a0 Z = true := hw _ (List.mem_of_getElem? (i := 157) rfl)
theorem w_158 {Z : State} {a0 : Array Value} (hw : ∀ d ∈ tables_1, d.before a0 Z = true) : (Jvm.Cond.code ({ cls := "java/util/LinkedHashMap", name := "sequencedEntrySet", desc := "()Ljava/util/SequencedSet;" } : Jvm.MethodName) jdk_94_method_33_code (3 : Nat) (Option.some (Jvm.ClassFile.FieldType.object "java/util/SequencedSet"))).before a0 Z = true := hw _ (List.mem_of_getElem? (i := 158) rfl)
theorem w_159 {Z : State} {a0 : Array Value} (hw : ∀ d ∈ tables_1, d.before a0 Z = true) : (Jvm.Cond.fieldLink "java/util/LinkedHashMap" (151 : Nat) "java/util/LinkedHashMap" "entrySet" "Ljava/util/Set;").before a0 Z = true := hw _ (List.mem_of_getElem? (i := 159) rfl)
theorem w_160 {Z : State} {a0 : Array Value} (hw : ∀ d ∈ tables_1, d.before a0 Z = true) : (Jvm.Cond.sameField "java/util/LinkedHashMap" "java/util/HashMap" "entrySet" "Ljava/util/Set;").before a0 Z = true := hw _ (List.mem_of_getElem? (i := 160) rfl)
theorem w_161 {Z : State} {a0 : Array Value} (hw : ∀ d ∈ tables_1, d.before a0 Z = true) : (Jvm.Cond.lays "java/util/LinkedHashMap" "java/util/HashMap" "entrySet" "Ljava/util/Set;").before a0 Z = true := hw _ (List.mem_of_getElem? (i := 161) rfl)
theorem w_162 {Z : State} {a0 : Array Value} (hw : ∀ d ∈ tables_1, d.before a0 Z = true) : (Jvm.Cond.classLink "java/util/LinkedHashMap" (154 : Nat) "java/util/LinkedHashMap$LinkedEntrySet").before a0 Z = true := hw _ (List.mem_of_getElem? (i := 162) rfl)
theorem w_163 {Z : State} {a0 : Array Value} (hw : ∀ d ∈ tables_1, d.before a0 Z = true) : (Jvm.Cond.instantiable "java/util/LinkedHashMap$LinkedEntrySet" (2 : Nat)).before a0 Z = true := hw _ (List.mem_of_getElem? (i := 163) rfl)
theorem w_164 {Z : State} {a0 : Array Value} (hw : ∀ d ∈ tables_1, d.before a0 Z = true) : (Jvm.Cond.initialized "java/util/LinkedHashMap$LinkedEntrySet").before a0 Z = true := hw _ (List.mem_of_getElem? (i := 164) rfl)
theorem w_165 {Z : State} {a0 : Array Value} (hw : ∀ d ∈ tables_1, d.before a0 Z = true) : (Jvm.Cond.methodLink "java/util/LinkedHashMap" (156 : Nat) ({ cls := "java/util/LinkedHashMap$LinkedEntrySet", name := "<init>", desc := "(Ljava/util/LinkedHashMap;Z)V" } : Jvm.MethodName)).before a0 Z = true := hw _ (List.mem_of_getElem? (i := 165) rfl)
theorem w_166 {Z : State} {a0 : Array Value} (hw : ∀ d ∈ tables_1, d.before a0 Z = true) : (Jvm.Cond.instanceMethod ({ cls := "java/util/LinkedHashMap$LinkedEntrySet", name := "<init>", desc := "(Ljava/util/LinkedHashMap;Z)V" } : Jvm.MethodName)).before a0 Z = true := hw _ (List.mem_of_getElem? (i := 166) rfl)
theorem w_168 {Z : State} {a0 : Array Value} (hw : ∀ d ∈ tables_1, d.before a0 Z = true) : (Jvm.Cond.code ({ cls := "java/util/LinkedHashMap$LinkedEntrySet", name := "<init>", desc := "(Ljava/util/LinkedHashMap;Z)V" } : Jvm.MethodName) jdk_113_method_1_code (3 : Nat) (Option.none : Option Jvm.ClassFile.FieldType)).before a0 Z = true := hw _ (List.mem_of_getElem? (i := 168) rfl)
theorem w_169 {Z : State} {a0 : Array Value} (hw : ∀ d ∈ tables_1, d.before a0 Z = true) : (Jvm.Cond.fieldLink "java/util/LinkedHashMap$LinkedEntrySet" (1 : Nat) "java/util/LinkedHashMap$LinkedEntrySet" "this$0" "Ljava/util/LinkedHashMap;").before a0 Z = true := hw _ (List.mem_of_getElem? (i := 169) rfl)
theorem w_170 {Z : State} {a0 : Array Value} (hw : ∀ d ∈ tables_1, d.before a0 Z = true) : (Jvm.Cond.laysFinal "java/util/LinkedHashMap$LinkedEntrySet" "java/util/LinkedHashMap$LinkedEntrySet" "this$0" "Ljava/util/LinkedHashMap;").before a0 Z = true := hw _ (List.mem_of_getElem? (i := 170) rfl)
theorem w_171 {Z : State} {a0 : Array Value} (hw : ∀ d ∈ tables_1, d.before a0 Z = true) : (Jvm.Cond.methodLink "java/util/LinkedHashMap$LinkedEntrySet" (7 : Nat) ({ cls := "java/util/AbstractSet", name := "<init>", desc := "()V" } : Jvm.MethodName)).before a0 Z = true := hw _ (List.mem_of_getElem? (i := 171) rfl)
theorem w_172 {Z : State} {a0 : Array Value} (hw : ∀ d ∈ tables_1, d.before a0 Z = true) : (Jvm.Cond.instanceMethod ({ cls := "java/util/AbstractSet", name := "<init>", desc := "()V" } : Jvm.MethodName)).before a0 Z = true := hw _ (List.mem_of_getElem? (i := 172) rfl)
theorem w_175 {Z : State} {a0 : Array Value} (hw : ∀ d ∈ tables_1, d.before a0 Z = true) : (Jvm.Cond.initialized "java/util/AbstractSet").before a0 Z = true := hw _ (List.mem_of_getElem? (i := 175) rfl)
theorem w_176 {Z : State} {a0 : Array Value} (hw : ∀ d ∈ tables_1, d.before a0 Z = true) : (Jvm.Cond.code ({ cls := "java/util/AbstractSet", name := "<init>", desc := "()V" } : Jvm.MethodName) jdk_91_method_1_code (1 : Nat) (Option.none : Option Jvm.ClassFile.FieldType)).before a0 Z = true := hw _ (List.mem_of_getElem? (i := 176) rfl)
theorem w_177 {Z : State} {a0 : Array Value} (hw : ∀ d ∈ tables_1, d.before a0 Z = true) : (Jvm.Cond.methodLink "java/util/AbstractSet" (1 : Nat) ({ cls := "java/util/AbstractCollection", name := "<init>", desc := "()V" } : Jvm.MethodName)).before a0 Z = true := hw _ (List.mem_of_getElem? (i := 177) rfl)
theorem w_178 {Z : State} {a0 : Array Value} (hw : ∀ d ∈ tables_1, d.before a0 Z = true) : (Jvm.Cond.instanceMethod ({ cls := "java/util/AbstractCollection", name := "<init>", desc := "()V" } : Jvm.MethodName)).before a0 Z = true := hw _ (List.mem_of_getElem? (i := 178) rfl)
theorem w_181 {Z : State} {a0 : Array Value} (hw : ∀ d ∈ tables_1, d.before a0 Z = true) : (Jvm.Cond.initialized "java/util/AbstractCollection").before a0 Z = true := hw _ (List.mem_of_getElem? (i := 181) rfl)
theorem w_182 {Z : State} {a0 : Array Value} (hw : ∀ d ∈ tables_1, d.before a0 Z = true) : (Jvm.Cond.code ({ cls := "java/util/AbstractCollection", name := "<init>", desc := "()V" } : Jvm.MethodName) jdk_22_method_1_code (1 : Nat) (Option.none : Option Jvm.ClassFile.FieldType)).before a0 Z = true := hw _ (List.mem_of_getElem? (i := 182) rfl)
theorem w_183 {Z : State} {a0 : Array Value} (hw : ∀ d ∈ tables_1, d.before a0 Z = true) : (Jvm.Cond.methodLink "java/util/AbstractCollection" (1 : Nat) ({ cls := "java/lang/Object", name := "<init>", desc := "()V" } : Jvm.MethodName)).before a0 Z = true := hw _ (List.mem_of_getElem? (i := 183) rfl)
theorem w_184 {Z : State} {a0 : Array Value} (hw : ∀ d ∈ tables_1, d.before a0 Z = true) : (Jvm.Cond.fieldLink "java/util/LinkedHashMap$LinkedEntrySet" (13 : Nat) "java/util/LinkedHashMap$LinkedEntrySet" "reversed" "Z").before a0 Z = true := hw _ (List.mem_of_getElem? (i := 184) rfl)
theorem w_185 {Z : State} {a0 : Array Value} (hw : ∀ d ∈ tables_1, d.before a0 Z = true) : (Jvm.Cond.laysFinal "java/util/LinkedHashMap$LinkedEntrySet" "java/util/LinkedHashMap$LinkedEntrySet" "reversed" "Z").before a0 Z = true := hw _ (List.mem_of_getElem? (i := 185) rfl)
theorem w_186 {Z : State} {a0 : Array Value} (hw : ∀ d ∈ tables_1, d.before a0 Z = true) : (Jvm.Cond.methodLink "com/example/steady_pulse/steadypulse/HealthCheckResponse" (41 : Nat) ({ cls := "java/util/Set", name := "iterator", desc := "()Ljava/util/Iterator;" } : Jvm.MethodName)).before a0 Z = true := hw _ (List.mem_of_getElem? (i := 186) rfl)
theorem w_187 {Z : State} {a0 : Array Value} (hw : ∀ d ∈ tables_1, d.before a0 Z = true) : (Jvm.Cond.declares ({ cls := "java/util/Set", name := "iterator", desc := "()Ljava/util/Iterator;" } : Jvm.MethodName)).before a0 Z = true := hw _ (List.mem_of_getElem? (i := 187) rfl)
theorem w_188 {Z : State} {a0 : Array Value} (hw : ∀ d ∈ tables_1, d.before a0 Z = true) : (Jvm.Cond.interfaceMethod "java/util/Set" "java/util/Set" "iterator" "()Ljava/util/Iterator;").before a0 Z = true := hw _ (List.mem_of_getElem? (i := 188) rfl)
theorem w_189 {Z : State} {a0 : Array Value} (hw : ∀ d ∈ tables_1, d.before a0 Z = true) : (Jvm.Cond.selects "java/util/LinkedHashMap$LinkedEntrySet" ({ cls := "java/util/Set", name := "iterator", desc := "()Ljava/util/Iterator;" } : Jvm.MethodName) ({ cls := "java/util/LinkedHashMap$LinkedEntrySet", name := "iterator", desc := "()Ljava/util/Iterator;" } : Jvm.MethodName)).before a0 Z = true := hw _ (List.mem_of_getElem? (i := 189) rfl)
theorem w_190 {Z : State} {a0 : Array Value} (hw : ∀ d ∈ tables_1, d.before a0 Z = true) : (Jvm.Cond.instanceMethod ({ cls := "java/util/LinkedHashMap$LinkedEntrySet", name := "iterator", desc := "()Ljava/util/Iterator;" } : Jvm.MethodName)).before a0 Z = true := hw _ (List.mem_of_getElem? (i := 190) rfl)
theorem w_191 {Z : State} {a0 : Array Value} (hw : ∀ d ∈ tables_1, d.before a0 Z = true) : (Jvm.Cond.publicMethod ({ cls := "java/util/LinkedHashMap$LinkedEntrySet", name := "iterator", desc := "()Ljava/util/Iterator;" } : Jvm.MethodName)).before a0 Z = true := hw _ (List.mem_of_getElem? (i := 191) rfl)
theorem w_192 {Z : State} {a0 : Array Value} (hw : ∀ d ∈ tables_1, d.before a0 Z = true) : (Jvm.Cond.unhidden "java/util/LinkedHashMap$LinkedEntrySet" "iterator" "()Ljava/util/Iterator;").before a0 Z = true := hw _ (List.mem_of_getElem? (i := 192) rfl)
theorem w_193 {Z : State} {a0 : Array Value} (hw : ∀ d ∈ tables_1, d.before a0 Z = true) : (Jvm.Cond.castable "java/util/LinkedHashMap$LinkedEntrySet" "java/util/Set").before a0 Z = true := hw _ (List.mem_of_getElem? (i := 193) rfl)
theorem w_194 {Z : State} {a0 : Array Value} (hw : ∀ d ∈ tables_1, d.before a0 Z = true) : (Jvm.Cond.code ({ cls := "java/util/LinkedHashMap$LinkedEntrySet", name := "iterator", desc := "()Ljava/util/Iterator;" } : Jvm.MethodName) jdk_113_method_4_code (1 : Nat) (Option.some (Jvm.ClassFile.FieldType.object "java/util/Iterator"))).before a0 Z = true := hw _ (List.mem_of_getElem? (i := 194) rfl)
theorem w_195 {Z : State} {a0 : Array Value} (hw : ∀ d ∈ tables_1, d.before a0 Z = true) : (Jvm.Cond.classLink "java/util/LinkedHashMap$LinkedEntrySet" (26 : Nat) "java/util/LinkedHashMap$LinkedEntryIterator").before a0 Z = true := hw _ (List.mem_of_getElem? (i := 195) rfl)
theorem w_196 {Z : State} {a0 : Array Value} (hw : ∀ d ∈ tables_1, d.before a0 Z = true) : (Jvm.Cond.instantiable "java/util/LinkedHashMap$LinkedEntryIterator" (5 : Nat)).before a0 Z = true := hw _ (List.mem_of_getElem? (i := 196) rfl)
theorem w_197 {Z : State} {a0 : Array Value} (hw : ∀ d ∈ tables_1, d.before a0 Z = true) : (Jvm.Cond.initialized "java/util/LinkedHashMap$LinkedEntryIterator").before a0 Z = true := hw _ (List.mem_of_getElem? (i := 197) rfl)
theorem w_198 {Z : State} {a0 : Array Value} (hw : ∀ d ∈ tables_1, d.before a0 Z = true) : (Jvm.Cond.methodLink "java/util/LinkedHashMap$LinkedEntrySet" (28 : Nat) ({ cls := "java/util/LinkedHashMap$LinkedEntryIterator", name := "<init>", desc := "(Ljava/util/LinkedHashMap;Z)V" } : Jvm.MethodName)).before a0 Z = true := hw _ (List.mem_of_getElem? (i := 198) rfl)
theorem w_199 {Z : State} {a0 : Array Value} (hw : ∀ d ∈ tables_1, d.before a0 Z = true) : (Jvm.Cond.instanceMethod ({ cls := "java/util/LinkedHashMap$LinkedEntryIterator", name := "<init>", desc := "(Ljava/util/LinkedHashMap;Z)V" } : Jvm.MethodName)).before a0 Z = true := hw _ (List.mem_of_getElem? (i := 199) rfl)
theorem w_201 {Z : State} {a0 : Array Value} (hw : ∀ d ∈ tables_1, d.before a0 Z = true) : (Jvm.Cond.code ({ cls := "java/util/LinkedHashMap$LinkedEntryIterator", name := "<init>", desc := "(Ljava/util/LinkedHashMap;Z)V" } : Jvm.MethodName) jdk_2615_method_1_code (3 : Nat) (Option.none : Option Jvm.ClassFile.FieldType)).before a0 Z = true := hw _ (List.mem_of_getElem? (i := 201) rfl)
theorem w_202 {Z : State} {a0 : Array Value} (hw : ∀ d ∈ tables_1, d.before a0 Z = true) : (Jvm.Cond.methodLink "java/util/LinkedHashMap$LinkedEntryIterator" (1 : Nat) ({ cls := "java/util/LinkedHashMap$LinkedHashIterator", name := "<init>", desc := "(Ljava/util/LinkedHashMap;Z)V" } : Jvm.MethodName)).before a0 Z = true := hw _ (List.mem_of_getElem? (i := 202) rfl)
theorem w_203 {Z : State} {a0 : Array Value} (hw : ∀ d ∈ tables_1, d.before a0 Z = true) : (Jvm.Cond.instanceMethod ({ cls := "java/util/LinkedHashMap$LinkedHashIterator", name := "<init>", desc := "(Ljava/util/LinkedHashMap;Z)V" } : Jvm.MethodName)).before a0 Z = true := hw _ (List.mem_of_getElem? (i := 203) rfl)
theorem w_206 {Z : State} {a0 : Array Value} (hw : ∀ d ∈ tables_1, d.before a0 Z = true) : (Jvm.Cond.initialized "java/util/LinkedHashMap$LinkedHashIterator").before a0 Z = true := hw _ (List.mem_of_getElem? (i := 206) rfl)
theorem w_207 {Z : State} {a0 : Array Value} (hw : ∀ d ∈ tables_1, d.before a0 Z = true) : (Jvm.Cond.code ({ cls := "java/util/LinkedHashMap$LinkedHashIterator", name := "<init>", desc := "(Ljava/util/LinkedHashMap;Z)V" } : Jvm.MethodName) jdk_2616_method_1_code (3 : Nat) (Option.none : Option Jvm.ClassFile.FieldType)).before a0 Z = true := hw _ (List.mem_of_getElem? (i := 207) rfl)
theorem w_208 {Z : State} {a0 : Array Value} (hw : ∀ d ∈ tables_1, d.before a0 Z = true) : (Jvm.Cond.fieldLink "java/util/LinkedHashMap$LinkedHashIterator" (1 : Nat) "java/util/LinkedHashMap$LinkedHashIterator" "this$0" "Ljava/util/LinkedHashMap;").before a0 Z = true := hw _ (List.mem_of_getElem? (i := 208) rfl)
theorem w_209 {Z : State} {a0 : Array Value} (hw : ∀ d ∈ tables_1, d.before a0 Z = true) : (Jvm.Cond.laysFinal "java/util/LinkedHashMap$LinkedEntryIterator" "java/util/LinkedHashMap$LinkedHashIterator" "this$0" "Ljava/util/LinkedHashMap;").before a0 Z = true := hw _ (List.mem_of_getElem? (i := 209) rfl)
theorem w_210 {Z : State} {a0 : Array Value} (hw : ∀ d ∈ tables_1, d.before a0 Z = true) : (Jvm.Cond.methodLink "java/util/LinkedHashMap$LinkedHashIterator" (7 : Nat) ({ cls := "java/lang/Object", name := "<init>", desc := "()V" } : Jvm.MethodName)).before a0 Z = true := hw _ (List.mem_of_getElem? (i := 210) rfl)
theorem w_211 {Z : State} {a0 : Array Value} (hw : ∀ d ∈ tables_1, d.before a0 Z = true) : (Jvm.Cond.fieldLink "java/util/LinkedHashMap$LinkedHashIterator" (13 : Nat) "java/util/LinkedHashMap$LinkedHashIterator" "reversed" "Z").before a0 Z = true := hw _ (List.mem_of_getElem? (i := 211) rfl)
theorem w_212 {Z : State} {a0 : Array Value} (hw : ∀ d ∈ tables_1, d.before a0 Z = true) : (Jvm.Cond.lays "java/util/LinkedHashMap$LinkedEntryIterator" "java/util/LinkedHashMap$LinkedHashIterator" "reversed" "Z").before a0 Z = true := hw _ (List.mem_of_getElem? (i := 212) rfl)
theorem w_213 {Z : State} {a0 : Array Value} (hw : ∀ d ∈ tables_1, d.before a0 Z = true) : (Jvm.Cond.fieldLink "java/util/LinkedHashMap$LinkedHashIterator" (23 : Nat) "java/util/LinkedHashMap" "head" "Ljava/util/LinkedHashMap$Entry;").before a0 Z = true := hw _ (List.mem_of_getElem? (i := 213) rfl)
theorem w_214 {Z : State} {a0 : Array Value} (hw : ∀ d ∈ tables_1, d.before a0 Z = true) : (Jvm.Cond.lays "java/util/LinkedHashMap" "java/util/LinkedHashMap" "head" "Ljava/util/LinkedHashMap$Entry;").before a0 Z = true := hw _ (List.mem_of_getElem? (i := 214) rfl)
theorem w_215 {Z : State} {a0 : Array Value} (hw : ∀ d ∈ tables_1, d.before a0 Z = true) : (Jvm.Cond.fieldLink "java/util/LinkedHashMap$LinkedHashIterator" (26 : Nat) "java/util/LinkedHashMap$LinkedHashIterator" "next" "Ljava/util/LinkedHashMap$Entry;").before a0 Z = true := hw _ (List.mem_of_getElem? (i := 215) rfl)
theorem w_216 {Z : State} {a0 : Array Value} (hw : ∀ d ∈ tables_1, d.before a0 Z = true) : (Jvm.Cond.lays "java/util/LinkedHashMap$LinkedEntryIterator" "java/util/LinkedHashMap$LinkedHashIterator" "next" "Ljava/util/LinkedHashMap$Entry;").before a0 Z = true := hw _ (List.mem_of_getElem? (i := 216) rfl)
theorem w_217 {Z : State} {a0 : Array Value} (hw : ∀ d ∈ tables_1, d.before a0 Z = true) : (Jvm.Cond.fieldLink "java/util/LinkedHashMap$LinkedHashIterator" (29 : Nat) "java/util/LinkedHashMap" "modCount" "I").before a0 Z = true := hw _ (List.mem_of_getElem? (i := 217) rfl)
theorem w_218 {Z : State} {a0 : Array Value} (hw : ∀ d ∈ tables_1, d.before a0 Z = true) : (Jvm.Cond.sameField "java/util/LinkedHashMap" "java/util/HashMap" "modCount" "I").before a0 Z = true := hw _ (List.mem_of_getElem? (i := 218) rfl)
theorem w_219 {Z : State} {a0 : Array Value} (hw : ∀ d ∈ tables_1, d.before a0 Z = true) : (Jvm.Cond.lays "java/util/LinkedHashMap" "java/util/HashMap" "modCount" "I").before a0 Z = true := hw _ (List.mem_of_getElem? (i := 219) rfl)
theorem w_220 {Z : State} {a0 : Array Value} (hw : ∀ d ∈ tables_1, d.before a0 Z = true) : (Jvm.Cond.fieldLink "java/util/LinkedHashMap$LinkedHashIterator" (33 : Nat) "java/util/LinkedHashMap$LinkedHashIterator" "expectedModCount" "I").before a0 Z = true := hw _ (List.mem_of_getElem? (i := 220) rfl)
theorem w_221 {Z : State} {a0 : Array Value} (hw : ∀ d ∈ tables_1, d.before a0 Z = true) : (Jvm.Cond.lays "java/util/LinkedHashMap$LinkedEntryIterator" "java/util/LinkedHashMap$LinkedHashIterator" "expectedModCount" "I").before a0 Z = true := hw _ (List.mem_of_getElem? (i := 221) rfl)
theorem w_222 {Z : State} {a0 : Array Value} (hw : ∀ d ∈ tables_1, d.before a0 Z = true) : (Jvm.Cond.fieldLink "java/util/LinkedHashMap$LinkedHashIterator" (36 : Nat) "java/util/LinkedHashMap$LinkedHashIterator" "current" "Ljava/util/LinkedHashMap$Entry;").before a0 Z = true := hw _ (List.mem_of_getElem? (i := 222) rfl)
theorem w_223 {Z : State} {a0 : Array Value} (hw : ∀ d ∈ tables_1, d.before a0 Z = true) : (Jvm.Cond.lays "java/util/LinkedHashMap$LinkedEntryIterator" "java/util/LinkedHashMap$LinkedHashIterator" "current" "Ljava/util/LinkedHashMap$Entry;").before a0 Z = true := hw _ (List.mem_of_getElem? (i := 223) rfl)
theorem w_224 {Z : State} {a0 : Array Value} (hw : ∀ d ∈ tables_1, d.before a0 Z = true) : (Jvm.Cond.methodLink "com/example/steady_pulse/steadypulse/HealthCheckResponse" (47 : Nat) ({ cls := "java/util/Iterator", name := "hasNext", desc := "()Z" } : Jvm.MethodName)).before a0 Z = true := hw _ (List.mem_of_getElem? (i := 224) rfl)
theorem w_225 {Z : State} {a0 : Array Value} (hw : ∀ d ∈ tables_1, d.before a0 Z = true) : (Jvm.Cond.declares ({ cls := "java/util/Iterator", name := "hasNext", desc := "()Z" } : Jvm.MethodName)).before a0 Z = true := hw _ (List.mem_of_getElem? (i := 225) rfl)
theorem w_226 {Z : State} {a0 : Array Value} (hw : ∀ d ∈ tables_1, d.before a0 Z = true) : (Jvm.Cond.interfaceMethod "java/util/Iterator" "java/util/Iterator" "hasNext" "()Z").before a0 Z = true := hw _ (List.mem_of_getElem? (i := 226) rfl)
theorem w_227 {Z : State} {a0 : Array Value} (hw : ∀ d ∈ tables_1, d.before a0 Z = true) : (Jvm.Cond.selects "java/util/LinkedHashMap$LinkedEntryIterator" ({ cls := "java/util/Iterator", name := "hasNext", desc := "()Z" } : Jvm.MethodName) ({ cls := "java/util/LinkedHashMap$LinkedHashIterator", name := "hasNext", desc := "()Z" } : Jvm.MethodName)).before a0 Z = true := hw _ (List.mem_of_getElem? (i := 227) rfl)
theorem w_228 {Z : State} {a0 : Array Value} (hw : ∀ d ∈ tables_1, d.before a0 Z = true) : (Jvm.Cond.instanceMethod ({ cls := "java/util/LinkedHashMap$LinkedHashIterator", name := "hasNext", desc := "()Z" } : Jvm.MethodName)).before a0 Z = true := hw _ (List.mem_of_getElem? (i := 228) rfl)
theorem w_229 {Z : State} {a0 : Array Value} (hw : ∀ d ∈ tables_1, d.before a0 Z = true) : (Jvm.Cond.publicMethod ({ cls := "java/util/LinkedHashMap$LinkedHashIterator", name := "hasNext", desc := "()Z" } : Jvm.MethodName)).before a0 Z = true := hw _ (List.mem_of_getElem? (i := 229) rfl)
theorem w_230 {Z : State} {a0 : Array Value} (hw : ∀ d ∈ tables_1, d.before a0 Z = true) : (Jvm.Cond.unhidden "java/util/LinkedHashMap$LinkedEntryIterator" "hasNext" "()Z").before a0 Z = true := hw _ (List.mem_of_getElem? (i := 230) rfl)
theorem w_231 {Z : State} {a0 : Array Value} (hw : ∀ d ∈ tables_1, d.before a0 Z = true) : (Jvm.Cond.castable "java/util/LinkedHashMap$LinkedEntryIterator" "java/util/Iterator").before a0 Z = true := hw _ (List.mem_of_getElem? (i := 231) rfl)
theorem w_232 {Z : State} {a0 : Array Value} (hw : ∀ d ∈ tables_1, d.before a0 Z = true) : (Jvm.Cond.code ({ cls := "java/util/LinkedHashMap$LinkedHashIterator", name := "hasNext", desc := "()Z" } : Jvm.MethodName) jdk_2616_method_2_code (1 : Nat) (Option.some Jvm.ClassFile.FieldType.boolean)).before a0 Z = true := hw _ (List.mem_of_getElem? (i := 232) rfl)
theorem w_233 {Z : State} {a0 : Array Value} (hw : ∀ d ∈ tables_1, d.before a0 Z = true) : (Jvm.Cond.fieldLink "com/example/steady_pulse/steadypulse/HealthCheckResponse" (83 : Nat) "com/example/steady_pulse/steadypulse/HealthCheckResponse" "name" "Ljava/lang/String;").before a0 Z = true := hw _ (List.mem_of_getElem? (i := 233) rfl)
theorem w_234 {Z : State} {a0 : Array Value} (hw : ∀ d ∈ tables_1, d.before a0 Z = true) : (Jvm.Cond.laysFinal "com/example/steady_pulse/steadypulse/HealthCheckResponse" "com/example/steady_pulse/steadypulse/HealthCheckResponse" "name" "Ljava/lang/String;").before a0 Z = true := hw _ (List.mem_of_getElem? (i := 234) rfl)
theorem w_235 {Z : State} {a0 : Array Value} (hw : ∀ d ∈ tables_1, d.before a0 Z = true) : (Jvm.Cond.fieldLink "com/example/steady_pulse/steadypulse/HealthCheckResponse" (86 : Nat) "com/example/steady_pulse/steadypulse/HealthCheckResponse" "status" "Lcom/example/steady_pulse/steadypulse/HealthCheckResponse$Status;").before a0 Z = true := hw _ (List.mem_of_getElem? (i := 235) rfl)
theorem w_236 {Z : State} {a0 : Array Value} (hw : ∀ d ∈ tables_1, d.before a0 Z = true) : (Jvm.Cond.laysFinal "com/example/steady_pulse/steadypulse/HealthCheckResponse" "com/example/steady_pulse/steadypulse/HealthCheckResponse" "status" "Lcom/example/steady_pulse/steadypulse/HealthCheckResponse$Status;").before a0 Z = true := hw _ (List.mem_of_getElem? (i := 236) rfl)
theorem w_237 {Z : State} {a0 : Array Value} (hw : ∀ d ∈ tables_1, d.before a0 Z = true) : (Jvm.Cond.methodLink "com/example/steady_pulse/steadypulse/HealthCheckResponse" (89 : Nat) ({ cls := "java/util/Collections", name := "unmodifiableMap", desc := "(Ljava/util/Map;)Ljava/util/Map;" } : Jvm.MethodName)).before a0 Z = true := hw _ (List.mem_of_getElem? (i := 237) rfl)
theorem w_238 {Z : State} {a0 : Array Value} (hw : ∀ d ∈ tables_1, d.before a0 Z = true) : (Jvm.Cond.static ({ cls := "java/util/Collections", name := "unmodifiableMap", desc := "(Ljava/util/Map;)Ljava/util/Map;" } : Jvm.MethodName)).before a0 Z = true := hw _ (List.mem_of_getElem? (i := 238) rfl)
theorem w_239 {Z : State} {a0 : Array Value} (hw : ∀ d ∈ tables_1, d.before a0 Z = true) : (Jvm.Cond.initialized "java/util/Collections").before a0 Z = true := hw _ (List.mem_of_getElem? (i := 239) rfl)
theorem w_240 {Z : State} {a0 : Array Value} (hw : ∀ d ∈ tables_1, d.before a0 Z = true) : (Jvm.Cond.code ({ cls := "java/util/Collections", name := "unmodifiableMap", desc := "(Ljava/util/Map;)Ljava/util/Map;" } : Jvm.MethodName) jdk_79_method_36_code (1 : Nat) (Option.some (Jvm.ClassFile.FieldType.object "java/util/Map"))).before a0 Z = true := hw _ (List.mem_of_getElem? (i := 240) rfl)
theorem w_241 {Z : State} {a0 : Array Value} (hw : ∀ d ∈ tables_1, d.before a0 Z = true) : (Jvm.Cond.methodLink "java/util/Collections" (220 : Nat) ({ cls := "java/util/Map", name := "getClass", desc := "()Ljava/lang/Class;" } : Jvm.MethodName)).before a0 Z = true := hw _ (List.mem_of_getElem? (i := 241) rfl)
theorem w_242 {Z : State} {a0 : Array Value} (hw : ∀ d ∈ tables_1, d.before a0 Z = true) : (Jvm.Cond.declares ({ cls := "java/lang/Object", name := "getClass", desc := "()Ljava/lang/Class;" } : Jvm.MethodName)).before a0 Z = true := hw _ (List.mem_of_getElem? (i := 242) rfl)
theorem w_243 {Z : State} {a0 : Array Value} (hw : ∀ d ∈ tables_1, d.before a0 Z = true) : (Jvm.Cond.interfaceMethod "java/util/Map" "java/lang/Object" "getClass" "()Ljava/lang/Class;").before a0 Z = true := hw _ (List.mem_of_getElem? (i := 243) rfl)
theorem w_244 {Z : State} {a0 : Array Value} (hw : ∀ d ∈ tables_1, d.before a0 Z = true) : (Jvm.Cond.selects "java/util/LinkedHashMap" ({ cls := "java/util/Map", name := "getClass", desc := "()Ljava/lang/Class;" } : Jvm.MethodName) ({ cls := "java/lang/Object", name := "getClass", desc := "()Ljava/lang/Class;" } : Jvm.MethodName)).before a0 Z = true := hw _ (List.mem_of_getElem? (i := 244) rfl)
theorem w_245 {Z : State} {a0 : Array Value} (hw : ∀ d ∈ tables_1, d.before a0 Z = true) : (Jvm.Cond.instanceMethod ({ cls := "java/lang/Object", name := "getClass", desc := "()Ljava/lang/Class;" } : Jvm.MethodName)).before a0 Z = true := hw _ (List.mem_of_getElem? (i := 245) rfl)
theorem w_246 {Z : State} {a0 : Array Value} (hw : ∀ d ∈ tables_1, d.before a0 Z = true) : (Jvm.Cond.publicMethod ({ cls := "java/lang/Object", name := "getClass", desc := "()Ljava/lang/Class;" } : Jvm.MethodName)).before a0 Z = true := hw _ (List.mem_of_getElem? (i := 246) rfl)
theorem w_247 {Z : State} {a0 : Array Value} (hw : ∀ d ∈ tables_1, d.before a0 Z = true) : (Jvm.Cond.unhidden "java/util/LinkedHashMap" "getClass" "()Ljava/lang/Class;").before a0 Z = true := hw _ (List.mem_of_getElem? (i := 247) rfl)
theorem w_248 {Z : State} {a0 : Array Value} (hw : ∀ d ∈ tables_1, d.before a0 Z = true) : (Jvm.Cond.native ({ cls := "java/lang/Object", name := "getClass", desc := "()Ljava/lang/Class;" } : Jvm.MethodName)).before a0 Z = true := hw _ (List.mem_of_getElem? (i := 248) rfl)
theorem w_250 {Z : State} {a0 : Array Value} (hw : ∀ d ∈ tables_1, d.before a0 Z = true) : (Jvm.Cond.classLink "java/util/Collections" (223 : Nat) "java/util/Collections$UnmodifiableMap").before a0 Z = true := hw _ (List.mem_of_getElem? (i := 250) rfl)
theorem w_252 {Z : State} {a0 : Array Value} (hw : ∀ d ∈ tables_1, d.before a0 Z = true) : (Jvm.Cond.instantiable "java/util/Collections$UnmodifiableMap" (4 : Nat)).before a0 Z = true := hw _ (List.mem_of_getElem? (i := 252) rfl)
theorem w_253 {Z : State} {a0 : Array Value} (hw : ∀ d ∈ tables_1, d.before a0 Z = true) : (Jvm.Cond.initialized "java/util/Collections$UnmodifiableMap").before a0 Z = true := hw _ (List.mem_of_getElem? (i := 253) rfl)
theorem w_254 {Z : State} {a0 : Array Value} (hw : ∀ d ∈ tables_1, d.before a0 Z = true) : (Jvm.Cond.methodLink "java/util/Collections" (225 : Nat) ({ cls := "java/util/Collections$UnmodifiableMap", name := "<init>", desc := "(Ljava/util/Map;)V" } : Jvm.MethodName)).before a0 Z = true := hw _ (List.mem_of_getElem? (i := 254) rfl)
theorem w_255 {Z : State} {a0 : Array Value} (hw : ∀ d ∈ tables_1, d.before a0 Z = true) : (Jvm.Cond.instanceMethod ({ cls := "java/util/Collections$UnmodifiableMap", name := "<init>", desc := "(Ljava/util/Map;)V" } : Jvm.MethodName)).before a0 Z = true := hw _ (List.mem_of_getElem? (i := 255) rfl)
theorem w_256 {Z : State} {a0 : Array Value} (hw : ∀ d ∈ tables_1, d.before a0 Z = true) : (Jvm.Cond.code ({ cls := "java/util/Collections$UnmodifiableMap", name := "<init>", desc := "(Ljava/util/Map;)V" } : Jvm.MethodName) jdk_2500_method_1_code (2 : Nat) (Option.none : Option Jvm.ClassFile.FieldType)).before a0 Z = true := hw _ (List.mem_of_getElem? (i := 256) rfl)
theorem w_257 {Z : State} {a0 : Array Value} (hw : ∀ d ∈ tables_1, d.before a0 Z = true) : (Jvm.Cond.methodLink "java/util/Collections$UnmodifiableMap" (1 : Nat) ({ cls := "java/lang/Object", name := "<init>", desc := "()V" } : Jvm.MethodName)).before a0 Z = true := hw _ (List.mem_of_getElem? (i := 257) rfl)
theorem w_258 {Z : State} {a0 : Array Value} (hw : ∀ d ∈ tables_1, d.before a0 Z = true) : (Jvm.Cond.fieldLink "java/util/Collections$UnmodifiableMap" (10 : Nat) "java/util/Collections$UnmodifiableMap" "m" "Ljava/util/Map;").before a0 Z = true := hw _ (List.mem_of_getElem? (i := 258) rfl)
theorem w_259 {Z : State} {a0 : Array Value} (hw : ∀ d ∈ tables_1, d.before a0 Z = true) : (Jvm.Cond.laysFinal "java/util/Collections$UnmodifiableMap" "java/util/Collections$UnmodifiableMap" "m" "Ljava/util/Map;").before a0 Z = true := hw _ (List.mem_of_getElem? (i := 259) rfl)
theorem w_260 {Z : State} {a0 : Array Value} (hw : ∀ d ∈ tables_1, d.before a0 Z = true) : (Jvm.Cond.fieldLink "com/example/steady_pulse/steadypulse/HealthCheckResponse" (95 : Nat) "com/example/steady_pulse/steadypulse/HealthCheckResponse" "data" "Ljava/util/Map;").before a0 Z = true := hw _ (List.mem_of_getElem? (i := 260) rfl)
theorem w_261 {Z : State} {a0 : Array Value} (hw : ∀ d ∈ tables_1, d.before a0 Z = true) : (Jvm.Cond.laysFinal "com/example/steady_pulse/steadypulse/HealthCheckResponse" "com/example/steady_pulse/steadypulse/HealthCheckResponse" "data" "Ljava/util/Map;").before a0 Z = true := hw _ (List.mem_of_getElem? (i := 261) rfl)
theorem w_262 {Z : State} {a0 : Array Value} (hw : ∀ d ∈ tables_1, d.before a0 Z = true) : (Jvm.Cond.fieldLink "com/example/steady_pulse/steadypulse/BuilderStatusPinLaw" (31 : Nat) "com/example/steady_pulse/steadypulse/HealthCheckResponse$Status" "DOWN" "Lcom/example/steady_pulse/steadypulse/HealthCheckResponse$Status;").before a0 Z = true := hw _ (List.mem_of_getElem? (i := 262) rfl)
theorem w_263 {Z : State} {a0 : Array Value} (hw : ∀ d ∈ tables_1, d.before a0 Z = true) : (Jvm.Cond.methodLink "com/example/steady_pulse/steadypulse/BuilderStatusPinLaw" (34 : Nat) ({ cls := "com/example/steady_pulse/steadypulse/HealthCheckResponse", name := "getStatus", desc := "()Lcom/example/steady_pulse/steadypulse/HealthCheckResponse$Status;" } : Jvm.MethodName)).before a0 Z = true := hw _ (List.mem_of_getElem? (i := 263) rfl)
theorem w_264 {Z : State} {a0 : Array Value} (hw : ∀ d ∈ tables_1, d.before a0 Z = true) : (Jvm.Cond.declares ({ cls := "com/example/steady_pulse/steadypulse/HealthCheckResponse", name := "getStatus", desc := "()Lcom/example/steady_pulse/steadypulse/HealthCheckResponse$Status;" } : Jvm.MethodName)).before a0 Z = true := hw _ (List.mem_of_getElem? (i := 264) rfl)
theorem w_265 {Z : State} {a0 : Array Value} (hw : ∀ d ∈ tables_1, d.before a0 Z = true) : (Jvm.Cond.instanceMethod ({ cls := "com/example/steady_pulse/steadypulse/HealthCheckResponse", name := "getStatus", desc := "()Lcom/example/steady_pulse/steadypulse/HealthCheckResponse$Status;" } : Jvm.MethodName)).before a0 Z = true := hw _ (List.mem_of_getElem? (i := 265) rfl)
theorem w_266 {Z : State} {a0 : Array Value} (hw : ∀ d ∈ tables_1, d.before a0 Z = true) : (Jvm.Cond.selects "com/example/steady_pulse/steadypulse/HealthCheckResponse" ({ cls := "com/example/steady_pulse/steadypulse/HealthCheckResponse", name := "getStatus", desc := "()Lcom/example/steady_pulse/steadypulse/HealthCheckResponse$Status;" } : Jvm.MethodName) ({ cls := "com/example/steady_pulse/steadypulse/HealthCheckResponse", name := "getStatus", desc := "()Lcom/example/steady_pulse/steadypulse/HealthCheckResponse$Status;" } : Jvm.MethodName)).before a0 Z = true := hw _ (List.mem_of_getElem? (i := 266) rfl)
theorem w_267 {Z : State} {a0 : Array Value} (hw : ∀ d ∈ tables_1, d.before a0 Z = true) : (Jvm.Cond.code ({ cls := "com/example/steady_pulse/steadypulse/HealthCheckResponse", name := "getStatus", desc := "()Lcom/example/steady_pulse/steadypulse/HealthCheckResponse$Status;" } : Jvm.MethodName) prog_21_method_7_code (1 : Nat) (Option.some (Jvm.ClassFile.FieldType.object "com/example/steady_pulse/steadypulse/HealthCheckResponse$Status"))).before a0 Z = true := hw _ (List.mem_of_getElem? (i := 267) rfl)
theorem w_268 {Z : State} {a0 : Array Value} (hw : ∀ d ∈ tables_1, d.before a0 Z = true) : (Jvm.Cond.methodLink "com/example/steady_pulse/steadypulse/BuilderStatusPinLaw" (40 : Nat) ({ cls := "com/example/steady_pulse/steadypulse/HealthCheckResponse", name := "getName", desc := "()Ljava/lang/String;" } : Jvm.MethodName)).before a0 Z = true := hw _ (List.mem_of_getElem? (i := 268) rfl)
theorem w_269 {Z : State} {a0 : Array Value} (hw : ∀ d ∈ tables_1, d.before a0 Z = true) : (Jvm.Cond.declares ({ cls := "com/example/steady_pulse/steadypulse/HealthCheckResponse", name := "getName", desc := "()Ljava/lang/String;" } : Jvm.MethodName)).before a0 Z = true := hw _ (List.mem_of_getElem? (i := 269) rfl)
theorem w_270 {Z : State} {a0 : Array Value} (hw : ∀ d ∈ tables_1, d.before a0 Z = true) : (Jvm.Cond.instanceMethod ({ cls := "com/example/steady_pulse/steadypulse/HealthCheckResponse", name := "getName", desc := "()Ljava/lang/String;" } : Jvm.MethodName)).before a0 Z = true := hw _ (List.mem_of_getElem? (i := 270) rfl)
theorem w_271 {Z : State} {a0 : Array Value} (hw : ∀ d ∈ tables_1, d.before a0 Z = true) : (Jvm.Cond.selects "com/example/steady_pulse/steadypulse/HealthCheckResponse" ({ cls := "com/example/steady_pulse/steadypulse/HealthCheckResponse", name := "getName", desc := "()Ljava/lang/String;" } : Jvm.MethodName) ({ cls := "com/example/steady_pulse/steadypulse/HealthCheckResponse", name := "getName", desc := "()Ljava/lang/String;" } : Jvm.MethodName)).before a0 Z = true := hw _ (List.mem_of_getElem? (i := 271) rfl)
theorem w_272 {Z : State} {a0 : Array Value} (hw : ∀ d ∈ tables_1, d.before a0 Z = true) : (Jvm.Cond.code ({ cls := "com/example/steady_pulse/steadypulse/HealthCheckResponse", name := "getName", desc := "()Ljava/lang/String;" } : Jvm.MethodName) prog_21_method_6_code (1 : Nat) (Option.some (Jvm.ClassFile.FieldType.object "java/lang/String"))).before a0 Z = true := hw _ (List.mem_of_getElem? (i := 272) rfl)
theorem w_273 {Z : State} {a0 : Array Value} (hw : ∀ d ∈ tables_1, d.before a0 Z = true) : (Jvm.Cond.methodLink "com/example/steady_pulse/steadypulse/BuilderStatusPinLaw" (44 : Nat) ({ cls := "java/lang/String", name := "equals", desc := "(Ljava/lang/Object;)Z" } : Jvm.MethodName)).before a0 Z = true := hw _ (List.mem_of_getElem? (i := 273) rfl)
theorem w_274 {Z : State} {a0 : Array Value} (hw : ∀ d ∈ tables_1, d.before a0 Z = true) : (Jvm.Cond.declares ({ cls := "java/lang/String", name := "equals", desc := "(Ljava/lang/Object;)Z" } : Jvm.MethodName)).before a0 Z = true := hw _ (List.mem_of_getElem? (i := 274) rfl)
theorem w_275 {Z : State} {a0 : Array Value} (hw : ∀ d ∈ tables_1, d.before a0 Z = true) : (Jvm.Cond.instanceMethod ({ cls := "java/lang/String", name := "equals", desc := "(Ljava/lang/Object;)Z" } : Jvm.MethodName)).before a0 Z = true := hw _ (List.mem_of_getElem? (i := 275) rfl)
theorem w_276 {Z : State} {a0 : Array Value} (hw : ∀ d ∈ tables_1, d.before a0 Z = true) : (Jvm.Cond.selects "java/lang/String" ({ cls := "java/lang/String", name := "equals", desc := "(Ljava/lang/Object;)Z" } : Jvm.MethodName) ({ cls := "java/lang/String", name := "equals", desc := "(Ljava/lang/Object;)Z" } : Jvm.MethodName)).before a0 Z = true := hw _ (List.mem_of_getElem? (i := 276) rfl)
theorem w_277 {Z : State} {a0 : Array Value} (hw : ∀ d ∈ tables_1, d.before a0 Z = true) : (Jvm.Cond.code ({ cls := "java/lang/String", name := "equals", desc := "(Ljava/lang/Object;)Z" } : Jvm.MethodName) jdk_42_method_66_code (3 : Nat) (Option.some Jvm.ClassFile.FieldType.boolean)).before a0 Z = true := hw _ (List.mem_of_getElem? (i := 277) rfl)
theorem w_278 {Z : State} {a0 : Array Value} (hw : ∀ d ∈ tables_1, d.before a0 Z = true) : (Jvm.Cond.fieldLink "com/example/steady_pulse/steadypulse/HealthCheckResponse$Builder" (46 : Nat) "com/example/steady_pulse/steadypulse/HealthCheckResponse$Status" "UP" "Lcom/example/steady_pulse/steadypulse/HealthCheckResponse$Status;").before a0 Z = true := hw _ (List.mem_of_getElem? (i := 278) rfl)
theorem w_279 {Z : State} {a0 : Array Value} (hw : ∀ d ∈ tables_1, d.before a0 Z = true) : (Jvm.Cond.laysStatic "com/example/steady_pulse/steadypulse/HealthCheckResponse$Status" "UP" "Lcom/example/steady_pulse/steadypulse/HealthCheckResponse$Status;").before a0 Z = true := hw _ (List.mem_of_getElem? (i := 279) rfl)
theorem w_280 {Z : State} {a0 : Array Value} (hw : ∀ d ∈ tables_1, d.before a0 Z = true) : (Jvm.Cond.fieldLink "com/example/steady_pulse/steadypulse/BuilderStatusPinLaw" (25 : Nat) "com/example/steady_pulse/steadypulse/HealthCheckResponse$Status" "UP" "Lcom/example/steady_pulse/steadypulse/HealthCheckResponse$Status;").before a0 Z = true := hw _ (List.mem_of_getElem? (i := 280) rfl)
theorem d_jdk_71_method_1_0 : decode jdk_71_method_1_code 0 = .ok (.aload_n 0, 1) := by decide +kernel
theorem d_jdk_71_method_1_1 : decode jdk_71_method_1_code 1 = .ok (.invokespecial 1, 3) := by decide +kernel
theorem d_jdk_71_method_1_4 : decode jdk_71_method_1_code 4 = .ok (.return_, 1) := by decide +kernel
theorem d_jdk_22_method_1_0 : decode jdk_22_method_1_code 0 = .ok (.aload_n 0, 1) := by decide +kernel
theorem d_jdk_22_method_1_1 : decode jdk_22_method_1_code 1 = .ok (.invokespecial 1, 3) := by decide +kernel
theorem d_jdk_22_method_1_4 : decode jdk_22_method_1_code 4 = .ok (.return_, 1) := by decide +kernel
theorem d_jdk_91_method_1_0 : decode jdk_91_method_1_code 0 = .ok (.aload_n 0, 1) := by decide +kernel
theorem d_jdk_91_method_1_1 : decode jdk_91_method_1_code 1 = .ok (.invokespecial 1, 3) := by decide +kernel
theorem d_jdk_91_method_1_4 : decode jdk_91_method_1_code 4 = .ok (.return_, 1) := by decide +kernel
theorem d_jdk_69_method_7_0 : decode jdk_69_method_7_code 0 = .ok (.aload_n 0, 1) := by decide +kernel
theorem d_jdk_69_method_7_1 : decode jdk_69_method_7_code 1 = .ok (.invokespecial 43, 3) := by decide +kernel
theorem d_jdk_69_method_7_4 : decode jdk_69_method_7_code 4 = .ok (.aload_n 0, 1) := by decide +kernel
theorem d_jdk_69_method_7_5 : decode jdk_69_method_7_code 5 = .ok (.ldc 92, 2) := by decide +kernel
theorem d_jdk_69_method_7_7 : decode jdk_69_method_7_code 7 = .ok (.putfield 81, 3) := by decide +kernel
theorem d_jdk_69_method_7_10 : decode jdk_69_method_7_code 10 = .ok (.return_, 1) := by decide +kernel
theorem d_jdk_94_method_16_0 : decode jdk_94_method_16_code 0 = .ok (.aload_n 0, 1) := by decide +kernel
theorem d_jdk_94_method_16_1 : decode jdk_94_method_16_code 1 = .ok (.invokespecial 87, 3) := by decide +kernel
theorem d_jdk_94_method_16_4 : decode jdk_94_method_16_code 4 = .ok (.aload_n 0, 1) := by decide +kernel
theorem d_jdk_94_method_16_5 : decode jdk_94_method_16_code 5 = .ok (.iconst 0, 1) := by decide +kernel
theorem d_jdk_94_method_16_6 : decode jdk_94_method_16_code 6 = .ok (.putfield 1, 3) := by decide +kernel
theorem d_jdk_94_method_16_9 : decode jdk_94_method_16_code 9 = .ok (.aload_n 0, 1) := by decide +kernel
theorem d_jdk_94_method_16_10 : decode jdk_94_method_16_code 10 = .ok (.iconst 0, 1) := by decide +kernel
theorem d_jdk_94_method_16_11 : decode jdk_94_method_16_code 11 = .ok (.putfield 64, 3) := by decide +kernel
theorem d_jdk_94_method_16_14 : decode jdk_94_method_16_code 14 = .ok (.return_, 1) := by decide +kernel
theorem d_jdk_113_method_1_0 : decode jdk_113_method_1_code 0 = .ok (.aload_n 0, 1) := by decide +kernel
theorem d_jdk_113_method_1_1 : decode jdk_113_method_1_code 1 = .ok (.aload_n 1, 1) := by decide +kernel
theorem d_jdk_113_method_1_2 : decode jdk_113_method_1_code 2 = .ok (.putfield 1, 3) := by decide +kernel
theorem d_jdk_113_method_1_5 : decode jdk_113_method_1_code 5 = .ok (.aload_n 0, 1) := by decide +kernel
theorem d_jdk_113_method_1_6 : decode jdk_113_method_1_code 6 = .ok (.invokespecial 7, 3) := by decide +kernel
theorem d_jdk_113_method_1_9 : decode jdk_113_method_1_code 9 = .ok (.aload_n 0, 1) := by decide +kernel
theorem d_jdk_113_method_1_10 : decode jdk_113_method_1_code 10 = .ok (.iload_n 2, 1) := by decide +kernel
theorem d_jdk_113_method_1_11 : decode jdk_113_method_1_code 11 = .ok (.putfield 13, 3) := by decide +kernel
theorem d_jdk_113_method_1_14 : decode jdk_113_method_1_code 14 = .ok (.return_, 1) := by decide +kernel
theorem d_jdk_94_method_33_0 : decode jdk_94_method_33_code 0 = .ok (.aload_n 0, 1) := by decide +kernel
theorem d_jdk_94_method_33_1 : decode jdk_94_method_33_code 1 = .ok (.getfield 151, 3) := by decide +kernel
theorem d_jdk_94_method_33_4 : decode jdk_94_method_33_code 4 = .ok (.astore_n 1, 1) := by decide +kernel
theorem d_jdk_94_method_33_5 : decode jdk_94_method_33_code 5 = .ok (.aload_n 1, 1) := by decide +kernel
theorem d_jdk_94_method_33_6 : decode jdk_94_method_33_code 6 = .ok (.ifnonnull 20, 3) := by decide +kernel
theorem d_jdk_94_method_33_9 : decode jdk_94_method_33_code 9 = .ok (.new 154, 3) := by decide +kernel
theorem d_jdk_94_method_33_12 : decode jdk_94_method_33_code 12 = .ok (.dup, 1) := by decide +kernel
theorem d_jdk_94_method_33_13 : decode jdk_94_method_33_code 13 = .ok (.aload_n 0, 1) := by decide +kernel
theorem d_jdk_94_method_33_14 : decode jdk_94_method_33_code 14 = .ok (.iconst 0, 1) := by decide +kernel
theorem d_jdk_94_method_33_15 : decode jdk_94_method_33_code 15 = .ok (.invokespecial 156, 3) := by decide +kernel
theorem d_jdk_94_method_33_18 : decode jdk_94_method_33_code 18 = .ok (.astore_n 2, 1) := by decide +kernel
theorem d_jdk_94_method_33_19 : decode jdk_94_method_33_code 19 = .ok (.aload_n 0, 1) := by decide +kernel
theorem d_jdk_94_method_33_20 : decode jdk_94_method_33_code 20 = .ok (.aload_n 2, 1) := by decide +kernel
theorem d_jdk_94_method_33_21 : decode jdk_94_method_33_code 21 = .ok (.putfield 151, 3) := by decide +kernel
theorem d_jdk_94_method_33_24 : decode jdk_94_method_33_code 24 = .ok (.aload_n 2, 1) := by decide +kernel
theorem d_jdk_94_method_33_25 : decode jdk_94_method_33_code 25 = .ok (.areturn, 1) := by decide +kernel
theorem d_jdk_94_method_32_0 : decode jdk_94_method_32_code 0 = .ok (.aload_n 0, 1) := by decide +kernel
theorem d_jdk_94_method_32_1 : decode jdk_94_method_32_code 1 = .ok (.invokevirtual 148, 3) := by decide +kernel
theorem d_jdk_94_method_32_4 : decode jdk_94_method_32_code 4 = .ok (.areturn, 1) := by decide +kernel
theorem d_jdk_2616_method_1_0 : decode jdk_2616_method_1_code 0 = .ok (.aload_n 0, 1) := by decide +kernel
theorem d_jdk_2616_method_1_1 : decode jdk_2616_method_1_code 1 = .ok (.aload_n 1, 1) := by decide +kernel
theorem d_jdk_2616_method_1_2 : decode jdk_2616_method_1_code 2 = .ok (.putfield 1, 3) := by decide +kernel
theorem d_jdk_2616_method_1_5 : decode jdk_2616_method_1_code 5 = .ok (.aload_n 0, 1) := by decide +kernel
theorem d_jdk_2616_method_1_6 : decode jdk_2616_method_1_code 6 = .ok (.invokespecial 7, 3) := by decide +kernel
theorem d_jdk_2616_method_1_9 : decode jdk_2616_method_1_code 9 = .ok (.aload_n 0, 1) := by decide +kernel
theorem d_jdk_2616_method_1_10 : decode jdk_2616_method_1_code 10 = .ok (.iload_n 2, 1) := by decide +kernel
theorem d_jdk_2616_method_1_11 : decode jdk_2616_method_1_code 11 = .ok (.putfield 13, 3) := by decide +kernel
theorem d_jdk_2616_method_1_14 : decode jdk_2616_method_1_code 14 = .ok (.aload_n 0, 1) := by decide +kernel
theorem d_jdk_2616_method_1_15 : decode jdk_2616_method_1_code 15 = .ok (.iload_n 2, 1) := by decide +kernel
theorem d_jdk_2616_method_1_16 : decode jdk_2616_method_1_code 16 = .ok (.ifCond .eq 10, 3) := by decide +kernel
theorem d_jdk_2616_method_1_26 : decode jdk_2616_method_1_code 26 = .ok (.aload_n 1, 1) := by decide +kernel
theorem d_jdk_2616_method_1_27 : decode jdk_2616_method_1_code 27 = .ok (.getfield 23, 3) := by decide +kernel
theorem d_jdk_2616_method_1_30 : decode jdk_2616_method_1_code 30 = .ok (.putfield 26, 3) := by decide +kernel
theorem d_jdk_2616_method_1_33 : decode jdk_2616_method_1_code 33 = .ok (.aload_n 0, 1) := by decide +kernel
theorem d_jdk_2616_method_1_34 : decode jdk_2616_method_1_code 34 = .ok (.aload_n 1, 1) := by decide +kernel
theorem d_jdk_2616_method_1_35 : decode jdk_2616_method_1_code 35 = .ok (.getfield 29, 3) := by decide +kernel
theorem d_jdk_2616_method_1_38 : decode jdk_2616_method_1_code 38 = .ok (.putfield 33, 3) := by decide +kernel
theorem d_jdk_2616_method_1_41 : decode jdk_2616_method_1_code 41 = .ok (.aload_n 0, 1) := by decide +kernel
theorem d_jdk_2616_method_1_42 : decode jdk_2616_method_1_code 42 = .ok (.aconst_null, 1) := by decide +kernel
theorem d_jdk_2616_method_1_43 : decode jdk_2616_method_1_code 43 = .ok (.putfield 36, 3) := by decide +kernel
theorem d_jdk_2616_method_1_46 : decode jdk_2616_method_1_code 46 = .ok (.return_, 1) := by decide +kernel
theorem d_jdk_2615_method_1_0 : decode jdk_2615_method_1_code 0 = .ok (.aload_n 0, 1) := by decide +kernel
theorem d_jdk_2615_method_1_1 : decode jdk_2615_method_1_code 1 = .ok (.aload_n 1, 1) := by decide +kernel
theorem d_jdk_2615_method_1_2 : decode jdk_2615_method_1_code 2 = .ok (.iload_n 2, 1) := by decide +kernel
theorem d_jdk_2615_method_1_3 : decode jdk_2615_method_1_code 3 = .ok (.invokespecial 1, 3) := by decide +kernel
theorem d_jdk_2615_method_1_6 : decode jdk_2615_method_1_code 6 = .ok (.return_, 1) := by decide +kernel
theorem d_jdk_113_method_4_0 : decode jdk_113_method_4_code 0 = .ok (.new 26, 3) := by decide +kernel
theorem d_jdk_113_method_4_3 : decode jdk_113_method_4_code 3 = .ok (.dup, 1) := by decide +kernel
theorem d_jdk_113_method_4_4 : decode jdk_113_method_4_code 4 = .ok (.aload_n 0, 1) := by decide +kernel
theorem d_jdk_113_method_4_5 : decode jdk_113_method_4_code 5 = .ok (.getfield 1, 3) := by decide +kernel
theorem d_jdk_113_method_4_8 : decode jdk_113_method_4_code 8 = .ok (.aload_n 0, 1) := by decide +kernel
theorem d_jdk_113_method_4_9 : decode jdk_113_method_4_code 9 = .ok (.getfield 13, 3) := by decide +kernel
theorem d_jdk_113_method_4_12 : decode jdk_113_method_4_code 12 = .ok (.invokespecial 28, 3) := by decide +kernel
theorem d_jdk_113_method_4_15 : decode jdk_113_method_4_code 15 = .ok (.areturn, 1) := by decide +kernel
theorem d_jdk_2616_method_2_0 : decode jdk_2616_method_2_code 0 = .ok (.aload_n 0, 1) := by decide +kernel
theorem d_jdk_2616_method_2_1 : decode jdk_2616_method_2_code 1 = .ok (.getfield 26, 3) := by decide +kernel
theorem d_jdk_2616_method_2_4 : decode jdk_2616_method_2_code 4 = .ok (.ifnull 7, 3) := by decide +kernel
theorem d_jdk_2616_method_2_11 : decode jdk_2616_method_2_code 11 = .ok (.iconst 0, 1) := by decide +kernel
theorem d_jdk_2616_method_2_12 : decode jdk_2616_method_2_code 12 = .ok (.ireturn, 1) := by decide +kernel
theorem d_jdk_42_method_154_0 : decode jdk_42_method_154_code 0 = .ok (.getstatic 38, 3) := by decide +kernel
theorem d_jdk_42_method_154_3 : decode jdk_42_method_154_code 3 = .ok (.ifCond .eq 14, 3) := by decide +kernel
theorem d_jdk_42_method_154_6 : decode jdk_42_method_154_code 6 = .ok (.aload_n 0, 1) := by decide +kernel
theorem d_jdk_42_method_154_7 : decode jdk_42_method_154_code 7 = .ok (.getfield 15, 3) := by decide +kernel
theorem d_jdk_42_method_154_10 : decode jdk_42_method_154_code 10 = .ok (.ifCond .ne 7, 3) := by decide +kernel
theorem d_jdk_42_method_154_13 : decode jdk_42_method_154_code 13 = .ok (.iconst 1, 1) := by decide +kernel
theorem d_jdk_42_method_154_14 : decode jdk_42_method_154_code 14 = .ok (.goto 4, 3) := by decide +kernel
theorem d_jdk_42_method_154_18 : decode jdk_42_method_154_code 18 = .ok (.ireturn, 1) := by decide +kernel
theorem d_jdk_43_method_44_0 : decode jdk_43_method_44_code 0 = .ok (.aload_n 0, 1) := by decide +kernel
theorem d_jdk_43_method_44_1 : decode jdk_43_method_44_code 1 = .ok (.iload_n 1, 1) := by decide +kernel
theorem d_jdk_43_method_44_2 : decode jdk_43_method_44_code 2 = .ok (.baload, 1) := by decide +kernel
theorem d_jdk_43_method_44_3 : decode jdk_43_method_44_code 3 = .ok (.sipush 255, 3) := by decide +kernel
theorem d_jdk_43_method_44_6 : decode jdk_43_method_44_code 6 = .ok (.iand, 1) := by decide +kernel
theorem d_jdk_43_method_44_7 : decode jdk_43_method_44_code 7 = .ok (.i2c, 1) := by decide +kernel
theorem d_jdk_43_method_44_8 : decode jdk_43_method_44_code 8 = .ok (.ireturn, 1) := by decide +kernel
theorem d_jdk_116_method_1_0 : decode jdk_116_method_1_code 0 = .ok (.iload_n 1, 1) := by decide +kernel
theorem d_jdk_116_method_1_1 : decode jdk_116_method_1_code 1 = .ok (.i2c, 1) := by decide +kernel
theorem d_jdk_116_method_1_2 : decode jdk_116_method_1_code 2 = .ok (.istore_n 2, 1) := by decide +kernel
theorem d_jdk_116_method_1_3 : decode jdk_116_method_1_code 3 = .ok (.getstatic 1, 3) := by decide +kernel
theorem d_jdk_116_method_1_6 : decode jdk_116_method_1_code 6 = .ok (.iload_n 2, 1) := by decide +kernel
theorem d_jdk_116_method_1_7 : decode jdk_116_method_1_code 7 = .ok (.iaload, 1) := by decide +kernel
theorem d_jdk_116_method_1_8 : decode jdk_116_method_1_code 8 = .ok (.istore_n 3, 1) := by decide +kernel
theorem d_jdk_116_method_1_9 : decode jdk_116_method_1_code 9 = .ok (.iload_n 3, 1) := by decide +kernel
theorem d_jdk_116_method_1_10 : decode jdk_116_method_1_code 10 = .ok (.ireturn, 1) := by decide +kernel
theorem d_jdk_116_method_26_0 : decode jdk_116_method_26_code 0 = .ok (.aload_n 0, 1) := by decide +kernel
theorem d_jdk_116_method_26_1 : decode jdk_116_method_26_code 1 = .ok (.iload_n 1, 1) := by decide +kernel
theorem d_jdk_116_method_26_2 : decode jdk_116_method_26_code 2 = .ok (.invokevirtual 15, 3) := by decide +kernel
theorem d_jdk_116_method_26_5 : decode jdk_116_method_26_code 5 = .ok (.istore_n 2, 1) := by decide +kernel
theorem d_jdk_116_method_26_6 : decode jdk_116_method_26_code 6 = .ok (.iload_n 2, 1) := by decide +kernel
theorem d_jdk_116_method_26_7 : decode jdk_116_method_26_code 7 = .ok (.sipush 28672, 3) := by decide +kernel
theorem d_jdk_116_method_26_10 : decode jdk_116_method_26_code 10 = .ok (.iand, 1) := by decide +kernel
theorem d_jdk_116_method_26_11 : decode jdk_116_method_26_code 11 = .ok (.sipush 16384, 3) := by decide +kernel
theorem d_jdk_116_method_26_14 : decode jdk_116_method_26_code 14 = .ok (.if_icmp .ne 7, 3) := by decide +kernel
theorem d_jdk_116_method_26_21 : decode jdk_116_method_26_code 21 = .ok (.iconst 0, 1) := by decide +kernel
theorem d_jdk_116_method_26_22 : decode jdk_116_method_26_code 22 = .ok (.ireturn, 1) := by decide +kernel
theorem d_jdk_43_method_37_0 : decode jdk_43_method_37_code 0 = .ok (.aload_n 0, 1) := by decide +kernel
theorem d_jdk_43_method_37_1 : decode jdk_43_method_37_code 1 = .ok (.arraylength, 1) := by decide +kernel
theorem d_jdk_43_method_37_2 : decode jdk_43_method_37_code 2 = .ok (.istore_n 1, 1) := by decide +kernel
theorem d_jdk_43_method_37_3 : decode jdk_43_method_37_code 3 = .ok (.iconst 0, 1) := by decide +kernel
theorem d_jdk_43_method_37_4 : decode jdk_43_method_37_code 4 = .ok (.istore_n 2, 1) := by decide +kernel
theorem d_jdk_43_method_37_5 : decode jdk_43_method_37_code 5 = .ok (.iload_n 2, 1) := by decide +kernel
theorem d_jdk_43_method_37_6 : decode jdk_43_method_37_code 6 = .ok (.iload_n 1, 1) := by decide +kernel
theorem d_jdk_43_method_37_7 : decode jdk_43_method_37_code 7 = .ok (.if_icmp .ge 40, 3) := by decide +kernel
theorem d_jdk_43_method_37_10 : decode jdk_43_method_37_code 10 = .ok (.aload_n 0, 1) := by decide +kernel
theorem d_jdk_43_method_37_11 : decode jdk_43_method_37_code 11 = .ok (.iload_n 2, 1) := by decide +kernel
theorem d_jdk_43_method_37_12 : decode jdk_43_method_37_code 12 = .ok (.invokestatic 50, 3) := by decide +kernel
theorem d_jdk_43_method_37_15 : decode jdk_43_method_37_code 15 = .ok (.istore_n 3, 1) := by decide +kernel
theorem d_jdk_43_method_37_16 : decode jdk_43_method_37_code 16 = .ok (.iload_n 3, 1) := by decide +kernel
theorem d_jdk_43_method_37_17 : decode jdk_43_method_37_code 17 = .ok (.bipush 32, 2) := by decide +kernel
theorem d_jdk_43_method_37_19 : decode jdk_43_method_37_code 19 = .ok (.if_icmp .eq 22, 3) := by decide +kernel
theorem d_jdk_43_method_37_22 : decode jdk_43_method_37_code 22 = .ok (.iload_n 3, 1) := by decide +kernel
theorem d_jdk_43_method_37_23 : decode jdk_43_method_37_code 23 = .ok (.bipush 9, 2) := by decide +kernel
theorem d_jdk_43_method_37_25 : decode jdk_43_method_37_code 25 = .ok (.if_icmp .eq 16, 3) := by decide +kernel
theorem d_jdk_43_method_37_28 : decode jdk_43_method_37_code 28 = .ok (.getstatic 66, 3) := by decide +kernel
theorem d_jdk_43_method_37_31 : decode jdk_43_method_37_code 31 = .ok (.iload_n 3, 1) := by decide +kernel
theorem d_jdk_43_method_37_32 : decode jdk_43_method_37_code 32 = .ok (.invokevirtual 211, 3) := by decide +kernel
theorem d_jdk_43_method_37_35 : decode jdk_43_method_37_code 35 = .ok (.ifCond .ne 6, 3) := by decide +kernel
theorem d_jdk_43_method_37_38 : decode jdk_43_method_37_code 38 = .ok (.goto 9, 3) := by decide +kernel
theorem d_jdk_43_method_37_47 : decode jdk_43_method_37_code 47 = .ok (.iload_n 2, 1) := by decide +kernel
theorem d_jdk_43_method_37_48 : decode jdk_43_method_37_code 48 = .ok (.ireturn, 1) := by decide +kernel
theorem d_jdk_42_method_120_0 : decode jdk_42_method_120_code 0 = .ok (.aload_n 0, 1) := by decide +kernel
theorem d_jdk_42_method_120_1 : decode jdk_42_method_120_code 1 = .ok (.invokevirtual 492, 3) := by decide +kernel
theorem d_jdk_42_method_120_4 : decode jdk_42_method_120_code 4 = .ok (.ifCond .eq 13, 3) := by decide +kernel
theorem d_jdk_42_method_120_7 : decode jdk_42_method_120_code 7 = .ok (.aload_n 0, 1) := by decide +kernel
theorem d_jdk_42_method_120_8 : decode jdk_42_method_120_code 8 = .ok (.getfield 9, 3) := by decide +kernel
theorem d_jdk_42_method_120_11 : decode jdk_42_method_120_code 11 = .ok (.invokestatic 924, 3) := by decide +kernel
theorem d_jdk_42_method_120_14 : decode jdk_42_method_120_code 14 = .ok (.goto 10, 3) := by decide +kernel
theorem d_jdk_42_method_120_24 : decode jdk_42_method_120_code 24 = .ok (.ireturn, 1) := by decide +kernel
theorem d_jdk_42_method_117_0 : decode jdk_42_method_117_code 0 = .ok (.aload_n 0, 1) := by decide +kernel
theorem d_jdk_42_method_117_1 : decode jdk_42_method_117_code 1 = .ok (.invokevirtual 876, 3) := by decide +kernel
theorem d_jdk_42_method_117_4 : decode jdk_42_method_117_code 4 = .ok (.aload_n 0, 1) := by decide +kernel
theorem d_jdk_42_method_117_5 : decode jdk_42_method_117_code 5 = .ok (.invokevirtual 505, 3) := by decide +kernel
theorem d_jdk_42_method_117_8 : decode jdk_42_method_117_code 8 = .ok (.if_icmp .ne 7, 3) := by decide +kernel
theorem d_jdk_42_method_117_15 : decode jdk_42_method_117_code 15 = .ok (.iconst 0, 1) := by decide +kernel
theorem d_jdk_42_method_117_16 : decode jdk_42_method_117_code 16 = .ok (.ireturn, 1) := by decide +kernel
theorem d_jdk_2500_method_1_0 : decode jdk_2500_method_1_code 0 = .ok (.aload_n 0, 1) := by decide +kernel
theorem d_jdk_2500_method_1_1 : decode jdk_2500_method_1_code 1 = .ok (.invokespecial 1, 3) := by decide +kernel
theorem d_jdk_2500_method_1_4 : decode jdk_2500_method_1_code 4 = .ok (.aload_n 1, 1) := by decide +kernel
theorem d_jdk_2500_method_1_5 : decode jdk_2500_method_1_code 5 = .ok (.ifnonnull 11, 3) := by decide +kernel
theorem d_jdk_2500_method_1_16 : decode jdk_2500_method_1_code 16 = .ok (.aload_n 0, 1) := by decide +kernel
theorem d_jdk_2500_method_1_17 : decode jdk_2500_method_1_code 17 = .ok (.aload_n 1, 1) := by decide +kernel
theorem d_jdk_2500_method_1_18 : decode jdk_2500_method_1_code 18 = .ok (.putfield 10, 3) := by decide +kernel
theorem d_jdk_2500_method_1_21 : decode jdk_2500_method_1_code 21 = .ok (.return_, 1) := by decide +kernel
theorem d_jdk_79_method_36_0 : decode jdk_79_method_36_code 0 = .ok (.aload_n 0, 1) := by decide +kernel
theorem d_jdk_79_method_36_1 : decode jdk_79_method_36_code 1 = .ok (.invokeinterface 220 1, 5) := by decide +kernel
theorem d_jdk_79_method_36_6 : decode jdk_79_method_36_code 6 = .ok (.ldc 223, 2) := by decide +kernel
theorem d_jdk_79_method_36_8 : decode jdk_79_method_36_code 8 = .ok (.if_acmp .ne 5, 3) := by decide +kernel
theorem d_jdk_79_method_36_13 : decode jdk_79_method_36_code 13 = .ok (.new 223, 3) := by decide +kernel
theorem d_jdk_79_method_36_16 : decode jdk_79_method_36_code 16 = .ok (.dup, 1) := by decide +kernel
theorem d_jdk_79_method_36_17 : decode jdk_79_method_36_code 17 = .ok (.aload_n 0, 1) := by decide +kernel
theorem d_jdk_79_method_36_18 : decode jdk_79_method_36_code 18 = .ok (.invokespecial 225, 3) := by decide +kernel
theorem d_jdk_79_method_36_21 : decode jdk_79_method_36_code 21 = .ok (.areturn, 1) := by decide +kernel
theorem d_jdk_79_method_36_11 : decode jdk_79_method_36_code 11 = .ok (.aload_n 0, 1) := by decide +kernel
theorem d_jdk_79_method_36_12 : decode jdk_79_method_36_code 12 = .ok (.areturn, 1) := by decide +kernel
theorem d_jdk_31_method_11_0 : decode jdk_31_method_11_code 0 = .ok (.aload_n 0, 1) := by decide +kernel
theorem d_jdk_31_method_11_1 : decode jdk_31_method_11_code 1 = .ok (.ifnonnull 12, 3) := by decide +kernel
theorem d_jdk_31_method_11_13 : decode jdk_31_method_11_code 13 = .ok (.aload_n 0, 1) := by decide +kernel
theorem d_jdk_31_method_11_14 : decode jdk_31_method_11_code 14 = .ok (.areturn, 1) := by decide +kernel
theorem d_prog_21_method_1_0 : decode prog_21_method_1_code 0 = .ok (.aload_n 0, 1) := by decide +kernel
theorem d_prog_21_method_1_1 : decode prog_21_method_1_code 1 = .ok (.invokespecial 1, 3) := by decide +kernel
theorem d_prog_21_method_1_4 : decode prog_21_method_1_code 4 = .ok (.aload_n 1, 1) := by decide +kernel
theorem d_prog_21_method_1_5 : decode prog_21_method_1_code 5 = .ok (.ldc 7, 2) := by decide +kernel
theorem d_prog_21_method_1_7 : decode prog_21_method_1_code 7 = .ok (.invokestatic 9, 3) := by decide +kernel
theorem d_prog_21_method_1_10 : decode prog_21_method_1_code 10 = .ok (.pop, 1) := by decide +kernel
theorem d_prog_21_method_1_11 : decode prog_21_method_1_code 11 = .ok (.aload_n 2, 1) := by decide +kernel
theorem d_prog_21_method_1_12 : decode prog_21_method_1_code 12 = .ok (.ldc 15, 2) := by decide +kernel
theorem d_prog_21_method_1_14 : decode prog_21_method_1_code 14 = .ok (.invokestatic 9, 3) := by decide +kernel
theorem d_prog_21_method_1_17 : decode prog_21_method_1_code 17 = .ok (.pop, 1) := by decide +kernel
theorem d_prog_21_method_1_18 : decode prog_21_method_1_code 18 = .ok (.aload_n 3, 1) := by decide +kernel
theorem d_prog_21_method_1_19 : decode prog_21_method_1_code 19 = .ok (.ldc 17, 2) := by decide +kernel
theorem d_prog_21_method_1_21 : decode prog_21_method_1_code 21 = .ok (.invokestatic 9, 3) := by decide +kernel
theorem d_prog_21_method_1_24 : decode prog_21_method_1_code 24 = .ok (.pop, 1) := by decide +kernel
theorem d_prog_21_method_1_25 : decode prog_21_method_1_code 25 = .ok (.aload_n 1, 1) := by decide +kernel
theorem d_prog_21_method_1_26 : decode prog_21_method_1_code 26 = .ok (.invokevirtual 19, 3) := by decide +kernel
theorem d_prog_21_method_1_29 : decode prog_21_method_1_code 29 = .ok (.ifCond .eq 13, 3) := by decide +kernel
theorem d_prog_21_method_1_42 : decode prog_21_method_1_code 42 = .ok (.new 32, 3) := by decide +kernel
theorem d_prog_21_method_1_45 : decode prog_21_method_1_code 45 = .ok (.dup, 1) := by decide +kernel
theorem d_prog_21_method_1_46 : decode prog_21_method_1_code 46 = .ok (.invokespecial 34, 3) := by decide +kernel
theorem d_prog_21_method_1_49 : decode prog_21_method_1_code 49 = .ok (.astore 4, 2) := by decide +kernel
theorem d_prog_21_method_1_51 : decode prog_21_method_1_code 51 = .ok (.aload_n 3, 1) := by decide +kernel
theorem d_prog_21_method_1_52 : decode prog_21_method_1_code 52 = .ok (.invokeinterface 35 1, 5) := by decide +kernel
theorem d_prog_21_method_1_57 : decode prog_21_method_1_code 57 = .ok (.invokeinterface 41 1, 5) := by decide +kernel
theorem d_prog_21_method_1_62 : decode prog_21_method_1_code 62 = .ok (.astore 5, 2) := by decide +kernel
theorem d_prog_21_method_1_64 : decode prog_21_method_1_code 64 = .ok (.aload 5, 2) := by decide +kernel
theorem d_prog_21_method_1_66 : decode prog_21_method_1_code 66 = .ok (.invokeinterface 47 1, 5) := by decide +kernel
theorem d_prog_21_method_1_71 : decode prog_21_method_1_code 71 = .ok (.ifCond .eq 76, 3) := by decide +kernel
theorem d_prog_21_method_1_147 : decode prog_21_method_1_code 147 = .ok (.aload_n 0, 1) := by decide +kernel
theorem d_prog_21_method_1_148 : decode prog_21_method_1_code 148 = .ok (.aload_n 1, 1) := by decide +kernel
theorem d_prog_21_method_1_149 : decode prog_21_method_1_code 149 = .ok (.putfield 83, 3) := by decide +kernel
theorem d_prog_21_method_1_152 : decode prog_21_method_1_code 152 = .ok (.aload_n 0, 1) := by decide +kernel
theorem d_prog_21_method_1_153 : decode prog_21_method_1_code 153 = .ok (.aload_n 2, 1) := by decide +kernel
theorem d_prog_21_method_1_154 : decode prog_21_method_1_code 154 = .ok (.putfield 86, 3) := by decide +kernel
theorem d_prog_21_method_1_157 : decode prog_21_method_1_code 157 = .ok (.aload_n 0, 1) := by decide +kernel
theorem d_prog_21_method_1_158 : decode prog_21_method_1_code 158 = .ok (.aload 4, 2) := by decide +kernel
theorem d_prog_21_method_1_160 : decode prog_21_method_1_code 160 = .ok (.invokestatic 89, 3) := by decide +kernel
theorem d_prog_21_method_1_163 : decode prog_21_method_1_code 163 = .ok (.putfield 95, 3) := by decide +kernel
theorem d_prog_21_method_1_166 : decode prog_21_method_1_code 166 = .ok (.return_, 1) := by decide +kernel
theorem d_prog_22_method_1_0 : decode prog_22_method_1_code 0 = .ok (.aload_n 0, 1) := by decide +kernel
theorem d_prog_22_method_1_1 : decode prog_22_method_1_code 1 = .ok (.invokespecial 1, 3) := by decide +kernel
theorem d_prog_22_method_1_4 : decode prog_22_method_1_code 4 = .ok (.aload_n 0, 1) := by decide +kernel
theorem d_prog_22_method_1_5 : decode prog_22_method_1_code 5 = .ok (.new 7, 3) := by decide +kernel
theorem d_prog_22_method_1_8 : decode prog_22_method_1_code 8 = .ok (.dup, 1) := by decide +kernel
theorem d_prog_22_method_1_9 : decode prog_22_method_1_code 9 = .ok (.invokespecial 9, 3) := by decide +kernel
theorem d_prog_22_method_1_12 : decode prog_22_method_1_code 12 = .ok (.putfield 10, 3) := by decide +kernel
theorem d_prog_22_method_1_15 : decode prog_22_method_1_code 15 = .ok (.aload_n 0, 1) := by decide +kernel
theorem d_prog_22_method_1_16 : decode prog_22_method_1_code 16 = .ok (.aload_n 1, 1) := by decide +kernel
theorem d_prog_22_method_1_17 : decode prog_22_method_1_code 17 = .ok (.putfield 16, 3) := by decide +kernel
theorem d_prog_22_method_1_20 : decode prog_22_method_1_code 20 = .ok (.return_, 1) := by decide +kernel
theorem d_prog_22_method_8_0 : decode prog_22_method_8_code 0 = .ok (.aload_n 0, 1) := by decide +kernel
theorem d_prog_22_method_8_1 : decode prog_22_method_8_code 1 = .ok (.iload_n 1, 1) := by decide +kernel
theorem d_prog_22_method_8_2 : decode prog_22_method_8_code 2 = .ok (.ifCond .eq 9, 3) := by decide +kernel
theorem d_prog_22_method_8_11 : decode prog_22_method_8_code 11 = .ok (.getstatic 52, 3) := by decide +kernel
theorem d_prog_22_method_8_14 : decode prog_22_method_8_code 14 = .ok (.putfield 55, 3) := by decide +kernel
theorem d_prog_22_method_8_17 : decode prog_22_method_8_code 17 = .ok (.aload_n 0, 1) := by decide +kernel
theorem d_prog_22_method_8_18 : decode prog_22_method_8_code 18 = .ok (.areturn, 1) := by decide +kernel
theorem d_prog_22_method_8_5 : decode prog_22_method_8_code 5 = .ok (.getstatic 46, 3) := by decide +kernel
theorem d_prog_22_method_8_8 : decode prog_22_method_8_code 8 = .ok (.goto 6, 3) := by decide +kernel
theorem d_prog_22_method_9_0 : decode prog_22_method_9_code 0 = .ok (.aload_n 0, 1) := by decide +kernel
theorem d_prog_22_method_9_1 : decode prog_22_method_9_code 1 = .ok (.getfield 55, 3) := by decide +kernel
theorem d_prog_22_method_9_4 : decode prog_22_method_9_code 4 = .ok (.ifnonnull 20, 3) := by decide +kernel
theorem d_prog_22_method_9_24 : decode prog_22_method_9_code 24 = .ok (.new 66, 3) := by decide +kernel
theorem d_prog_22_method_9_27 : decode prog_22_method_9_code 27 = .ok (.dup, 1) := by decide +kernel
theorem d_prog_22_method_9_28 : decode prog_22_method_9_code 28 = .ok (.aload_n 0, 1) := by decide +kernel
theorem d_prog_22_method_9_29 : decode prog_22_method_9_code 29 = .ok (.getfield 16, 3) := by decide +kernel
theorem d_prog_22_method_9_32 : decode prog_22_method_9_code 32 = .ok (.aload_n 0, 1) := by decide +kernel
theorem d_prog_22_method_9_33 : decode prog_22_method_9_code 33 = .ok (.getfield 55, 3) := by decide +kernel
theorem d_prog_22_method_9_36 : decode prog_22_method_9_code 36 = .ok (.aload_n 0, 1) := by decide +kernel
theorem d_prog_22_method_9_37 : decode prog_22_method_9_code 37 = .ok (.getfield 10, 3) := by decide +kernel
theorem d_prog_22_method_9_40 : decode prog_22_method_9_code 40 = .ok (.invokespecial 68, 3) := by decide +kernel
theorem d_prog_22_method_9_43 : decode prog_22_method_9_code 43 = .ok (.areturn, 1) := by decide +kernel
theorem d_prog_21_method_7_0 : decode prog_21_method_7_code 0 = .ok (.aload_n 0, 1) := by decide +kernel
theorem d_prog_21_method_7_1 : decode prog_21_method_7_code 1 = .ok (.getfield 86, 3) := by decide +kernel
theorem d_prog_21_method_7_4 : decode prog_21_method_7_code 4 = .ok (.areturn, 1) := by decide +kernel
theorem d_prog_21_method_6_0 : decode prog_21_method_6_code 0 = .ok (.aload_n 0, 1) := by decide +kernel
theorem d_prog_21_method_6_1 : decode prog_21_method_6_code 1 = .ok (.getfield 83, 3) := by decide +kernel
theorem d_prog_21_method_6_4 : decode prog_21_method_6_code 4 = .ok (.areturn, 1) := by decide +kernel
theorem d_jdk_42_method_66_0 : decode jdk_42_method_66_code 0 = .ok (.aload_n 0, 1) := by decide +kernel
theorem d_jdk_42_method_66_1 : decode jdk_42_method_66_code 1 = .ok (.aload_n 1, 1) := by decide +kernel
theorem d_jdk_42_method_66_2 : decode jdk_42_method_66_code 2 = .ok (.if_acmp .ne 5, 3) := by decide +kernel
theorem d_jdk_42_method_66_5 : decode jdk_42_method_66_code 5 = .ok (.iconst 1, 1) := by decide +kernel
theorem d_jdk_42_method_66_6 : decode jdk_42_method_66_code 6 = .ok (.ireturn, 1) := by decide +kernel
theorem pn_0 : plainName "java/util/AbstractMap" = true := by first | (simp [plainName, overriddenIn]; done) | decide +kernel
theorem pn_1 : plainName "java/util/AbstractCollection" = true := by first | (simp [plainName, overriddenIn]; done) | decide +kernel
theorem pn_2 : plainName "java/util/AbstractSet" = true := by first | (simp [plainName, overriddenIn]; done) | decide +kernel
theorem pn_3 : plainName "java/util/HashMap" = true := by first | (simp [plainName, overriddenIn]; done) | decide +kernel
theorem pn_4 : plainName "java/util/LinkedHashMap" = true := by first | (simp [plainName, overriddenIn]; done) | decide +kernel
theorem pn_5 : plainName "java/util/LinkedHashMap$LinkedEntrySet" = true := by first | (simp [plainName, overriddenIn]; done) | decide +kernel
theorem pn_6 : plainName "java/util/LinkedHashMap$LinkedHashIterator" = true := by first | (simp [plainName, overriddenIn]; done) | decide +kernel
theorem pn_7 : plainName "java/util/LinkedHashMap$LinkedEntryIterator" = true := by first | (simp [plainName, overriddenIn]; done) | decide +kernel
theorem pn_8 : plainName "java/lang/String" = true := by first | (simp [plainName, overriddenIn]; done) | decide +kernel
theorem pn_9 : plainName "java/lang/StringLatin1" = true := by first | (simp [plainName, overriddenIn]; done) | decide +kernel
theorem pn_10 : plainName "java/lang/CharacterDataLatin1" = true := by first | (simp [plainName, overriddenIn]; done) | decide +kernel
theorem pn_11 : plainName "java/util/Collections$UnmodifiableMap" = true := by first | (simp [plainName, overriddenIn]; done) | decide +kernel
theorem pn_12 : plainName "java/util/Collections" = true := by first | (simp [plainName, overriddenIn]; done) | decide +kernel
theorem pn_13 : plainName "java/util/Objects" = true := by first | (simp [plainName, overriddenIn]; done) | decide +kernel
theorem pn_14 : plainName "com/example/steady_pulse/steadypulse/HealthCheckResponse" = true := by first | (simp [plainName, overriddenIn]; done) | decide +kernel
theorem pn_15 : plainName "com/example/steady_pulse/steadypulse/HealthCheckResponse$Builder" = true := by first | (simp [plainName, overriddenIn]; done) | decide +kernel
theorem pn_16 : plainName "com/example/steady_pulse/steadypulse/BuilderStatusPinLaw" = true := by first | (simp [plainName, overriddenIn]; done) | decide +kernel
theorem pd_0 : parseMethodDescriptor "()V" = some ⟨[], none⟩ := by decide +kernel
theorem pd_1 : parseMethodDescriptor "(Ljava/util/LinkedHashMap;Z)V" = some ⟨[(.object "java/util/LinkedHashMap"), .boolean], none⟩ := by decide +kernel
theorem pd_2 : parseMethodDescriptor "()Ljava/util/SequencedSet;" = some ⟨[], some (.object "java/util/SequencedSet")⟩ := by decide +kernel
theorem pd_3 : parseMethodDescriptor "(I)I" = some ⟨[.int], some .int⟩ := by decide +kernel
theorem pd_4 : parseMethodDescriptor "([BI)C" = some ⟨[(.array .byte), .int], some .char⟩ := by decide +kernel
theorem pd_5 : parseMethodDescriptor "(I)Z" = some ⟨[.int], some .boolean⟩ := by decide +kernel
theorem pd_6 : parseMethodDescriptor "()Z" = some ⟨[], some .boolean⟩ := by decide +kernel
theorem pd_7 : parseMethodDescriptor "([B)I" = some ⟨[(.array .byte)], some .int⟩ := by decide +kernel
theorem pd_8 : parseMethodDescriptor "()I" = some ⟨[], some .int⟩ := by decide +kernel
theorem pd_9 : parseMethodDescriptor "()Ljava/lang/Class;" = some ⟨[], some (.object "java/lang/Class")⟩ := by decide +kernel
theorem pd_10 : parseMethodDescriptor "(Ljava/util/Map;)V" = some ⟨[(.object "java/util/Map")], none⟩ := by decide +kernel
theorem pd_11 : parseMethodDescriptor "(Ljava/lang/Object;Ljava/lang/String;)Ljava/lang/Object;" = some ⟨[(.object "java/lang/Object"), (.object "java/lang/String")], some (.object "java/lang/Object")⟩ := by decide +kernel
theorem pd_12 : parseMethodDescriptor "()Ljava/util/Set;" = some ⟨[], some (.object "java/util/Set")⟩ := by decide +kernel
theorem pd_13 : parseMethodDescriptor "()Ljava/util/Iterator;" = some ⟨[], some (.object "java/util/Iterator")⟩ := by decide +kernel
theorem pd_14 : parseMethodDescriptor "(Ljava/util/Map;)Ljava/util/Map;" = some ⟨[(.object "java/util/Map")], some (.object "java/util/Map")⟩ := by decide +kernel
theorem pd_15 : parseMethodDescriptor "(Ljava/lang/String;Lcom/example/steady_pulse/steadypulse/HealthCheckResponse$Status;Ljava/util/Map;)V" = some ⟨[(.object "java/lang/String"), (.object "com/example/steady_pulse/steadypulse/HealthCheckResponse$Status"), (.object "java/util/Map")], none⟩ := by decide +kernel
theorem pd_16 : parseMethodDescriptor "([C)V" = some ⟨[(.array .char)], none⟩ := by decide +kernel
theorem pd_17 : parseMethodDescriptor "(Ljava/lang/String;)V" = some ⟨[(.object "java/lang/String")], none⟩ := by decide +kernel
theorem pd_18 : parseMethodDescriptor "(Z)Lcom/example/steady_pulse/steadypulse/HealthCheckResponse$Builder;" = some ⟨[.boolean], some (.object "com/example/steady_pulse/steadypulse/HealthCheckResponse$Builder")⟩ := by decide +kernel
theorem pd_19 : parseMethodDescriptor "()Lcom/example/steady_pulse/steadypulse/HealthCheckResponse;" = some ⟨[], some (.object "com/example/steady_pulse/steadypulse/HealthCheckResponse")⟩ := by decide +kernel
theorem pd_20 : parseMethodDescriptor "()Lcom/example/steady_pulse/steadypulse/HealthCheckResponse$Status;" = some ⟨[], some (.object "com/example/steady_pulse/steadypulse/HealthCheckResponse$Status")⟩ := by decide +kernel
theorem pd_21 : parseMethodDescriptor "()Ljava/lang/String;" = some ⟨[], some (.object "java/lang/String")⟩ := by decide +kernel
theorem pd_22 : parseMethodDescriptor "(Ljava/lang/Object;)Z" = some ⟨[(.object "java/lang/Object")], some .boolean⟩ := by decide +kernel
theorem ef_own_am (m : MethodId) (x : Addr) : entryFrame m #[(.ref x)] 1 = mkF m 0 #[.val (.ref x)] [] := by first | (simp [entryFrame, mkF, argsToLocals, Value.category, maxLocals]; done) | rfl
theorem ef_own_ac (m : MethodId) (x : Addr) : entryFrame m #[(.ref x)] 1 = mkF m 0 #[.val (.ref x)] [] := by first | (simp [entryFrame, mkF, argsToLocals, Value.category, maxLocals]; done) | rfl
theorem ef_own_as (m : MethodId) (x : Addr) : entryFrame m #[(.ref x)] 1 = mkF m 0 #[.val (.ref x)] [] := by first | (simp [entryFrame, mkF, argsToLocals, Value.category, maxLocals]; done) | rfl
theorem ef_own_hm (m : MethodId) (x : Addr) : entryFrame m #[(.ref x)] 1 = mkF m 0 #[.val (.ref x)] [] := by first | (simp [entryFrame, mkF, argsToLocals, Value.category, maxLocals]; done) | rfl
theorem ef_own_lhm (m : MethodId) (x : Addr) : entryFrame m #[(.ref x)] 1 = mkF m 0 #[.val (.ref x)] [] := by first | (simp [entryFrame, mkF, argsToLocals, Value.category, maxLocals]; done) | rfl
theorem ef_own_esi (m : MethodId) (x : Addr) (q : Addr) : entryFrame m #[(.ref x), (.ref q), (.int (0 : Int32))] 3 = mkF m 0 #[.val (.ref x), .val (.ref q), .val (.int (0 : Int32))] [] := by first | (simp [entryFrame, mkF, argsToLocals, Value.category, maxLocals]; done) | rfl
theorem ef_own_seq (m : MethodId) (x : Addr) : entryFrame m #[(.ref x)] 3 = mkF m 0 #[.val (.ref x), .unset, .unset] [] := by first | (simp [entryFrame, mkF, argsToLocals, Value.category, maxLocals]; done) | rfl
theorem ef_own_ens (m : MethodId) (x : Addr) : entryFrame m #[(.ref x)] 1 = mkF m 0 #[.val (.ref x)] [] := by first | (simp [entryFrame, mkF, argsToLocals, Value.category, maxLocals]; done) | rfl
theorem ef_own_it0 (m : MethodId) (x : Addr) (q : Addr) : entryFrame m #[(.ref x), (.ref q), (.int (0 : Int32))] 3 = mkF m 0 #[.val (.ref x), .val (.ref q), .val (.int (0 : Int32))] [] := by first | (simp [entryFrame, mkF, argsToLocals, Value.category, maxLocals]; done) | rfl
theorem ef_own_it1 (m : MethodId) (x : Addr) (q : Addr) : entryFrame m #[(.ref x), (.ref q), (.int (0 : Int32))] 3 = mkF m 0 #[.val (.ref x), .val (.ref q), .val (.int (0 : Int32))] [] := by first | (simp [entryFrame, mkF, argsToLocals, Value.category, maxLocals]; done) | rfl
theorem ef_own_iter (m : MethodId) (s1 : Addr) : entryFrame m #[(.ref s1)] 1 = mkF m 0 #[.val (.ref s1)] [] := by first | (simp [entryFrame, mkF, argsToLocals, Value.category, maxLocals]; done) | rfl
theorem ef_own_hn (m : MethodId) (i : Addr) : entryFrame m #[(.ref i)] 1 = mkF m 0 #[.val (.ref i)] [] := by first | (simp [entryFrame, mkF, argsToLocals, Value.category, maxLocals]; done) | rfl
theorem ef_own_isL1 (m : MethodId) (x : Addr) : entryFrame m #[(.ref x)] 1 = mkF m 0 #[.val (.ref x)] [] := by first | (simp [entryFrame, mkF, argsToLocals, Value.category, maxLocals]; done) | rfl
theorem ef_own_gch (m : MethodId) (t : Addr) : entryFrame m #[(.ref t), (.int (0 : Int32))] 2 = mkF m 0 #[.val (.ref t), .val (.int (0 : Int32))] [] := by first | (simp [entryFrame, mkF, argsToLocals, Value.category, maxLocals]; done) | rfl
theorem ef_own_prp (m : MethodId) (ci : Addr) : entryFrame m #[(.ref ci), (.int (110 : Int32))] 4 = mkF m 0 #[.val (.ref ci), .val (.int (110 : Int32)), .unset, .unset] [] := by first | (simp [entryFrame, mkF, argsToLocals, Value.category, maxLocals]; done) | rfl
theorem ef_own_isw (m : MethodId) (ci : Addr) : entryFrame m #[(.ref ci), (.int (110 : Int32))] 3 = mkF m 0 #[.val (.ref ci), .val (.int (110 : Int32)), .unset] [] := by first | (simp [entryFrame, mkF, argsToLocals, Value.category, maxLocals]; done) | rfl
theorem ef_own_l1w (m : MethodId) (t : Addr) : entryFrame m #[(.ref t)] 4 = mkF m 0 #[.val (.ref t), .unset, .unset, .unset] [] := by first | (simp [entryFrame, mkF, argsToLocals, Value.category, maxLocals]; done) | rfl
theorem ef_own_inw (m : MethodId) (x : Addr) : entryFrame m #[(.ref x)] 1 = mkF m 0 #[.val (.ref x)] [] := by first | (simp [entryFrame, mkF, argsToLocals, Value.category, maxLocals]; done) | rfl
theorem ef_own_blank (m : MethodId) (x : Addr) : entryFrame m #[(.ref x)] 1 = mkF m 0 #[.val (.ref x)] [] := by first | (simp [entryFrame, mkF, argsToLocals, Value.category, maxLocals]; done) | rfl
theorem ef_own_umi (m : MethodId) (x : Addr) (q : Addr) : entryFrame m #[(.ref x), (.ref q)] 2 = mkF m 0 #[.val (.ref x), .val (.ref q)] [] := by first | (simp [entryFrame, mkF, argsToLocals, Value.category, maxLocals]; done) | rfl
theorem ef_own_unm (m : MethodId) (q : Addr) : entryFrame m #[(.ref q)] 1 = mkF m 0 #[.val (.ref q)] [] := by first | (simp [entryFrame, mkF, argsToLocals, Value.category, maxLocals]; done) | rfl
theorem ef_own_req (m : MethodId) (a : Addr) (b : Addr) : entryFrame m #[(.ref a), (.ref b)] 2 = mkF m 0 #[.val (.ref a), .val (.ref b)] [] := by first | (simp [entryFrame, mkF, argsToLocals, Value.category, maxLocals]; done) | rfl
theorem ef_own_hcr (m : MethodId) (x : Addr) (a : Addr) (u : Addr) (q : Addr) : entryFrame m #[(.ref x), (.ref a), (.ref u), (.ref q)] 9 = mkF m 0 #[.val (.ref x), .val (.ref a), .val (.ref u), .val (.ref q), .unset, .unset, .unset, .unset, .unset] [] := by first | (simp [entryFrame, mkF, argsToLocals, Value.category, maxLocals]; done) | rfl
theorem ef_own_bld (m : MethodId) (x : Addr) (a : Addr) : entryFrame m #[(.ref x), (.ref a)] 2 = mkF m 0 #[.val (.ref x), .val (.ref a)] [] := by first | (simp [entryFrame, mkF, argsToLocals, Value.category, maxLocals]; done) | rfl
theorem ef_own_sts (m : MethodId) (x : Addr) (z : Int32) : entryFrame m #[(.ref x), (.int z)] 2 = mkF m 0 #[.val (.ref x), .val (.int z)] [] := by first | (simp [entryFrame, mkF, argsToLocals, Value.category, maxLocals]; done) | rfl
theorem ef_own_build (m : MethodId) (x : Addr) : entryFrame m #[(.ref x)] 1 = mkF m 0 #[.val (.ref x)] [] := by first | (simp [entryFrame, mkF, argsToLocals, Value.category, maxLocals]; done) | rfl
theorem ef_own_gs (m : MethodId) (x : Addr) : entryFrame m #[(.ref x)] 1 = mkF m 0 #[.val (.ref x)] [] := by first | (simp [entryFrame, mkF, argsToLocals, Value.category, maxLocals]; done) | rfl
theorem ef_own_gn (m : MethodId) (x : Addr) : entryFrame m #[(.ref x)] 1 = mkF m 0 #[.val (.ref x)] [] := by first | (simp [entryFrame, mkF, argsToLocals, Value.category, maxLocals]; done) | rfl
theorem ef_own_eqs (m : MethodId) (x : Addr) : entryFrame m #[(.ref x), (.ref x)] 3 = mkF m 0 #[.val (.ref x), .val (.ref x), .unset] [] := by first | (simp [entryFrame, mkF, argsToLocals, Value.category, maxLocals]; done) | rfl
theorem ef_own_law (m : MethodId) (i0 : Int32) (i1 : Int32) : entryFrame m #[(.int i0), (.int i1)] maxLocals = mkF m 0 #[.val (.int i0), .val (.int i1), .unset, .unset, .unset, .unset, .unset, .unset, .unset, .unset, .unset, .unset] [] := by first | (simp [entryFrame, mkF, argsToLocals, Value.category, maxLocals]; done) | rfl
theorem own_wS {Z : State} {a0 : Array Value} (hw : ∀ d ∈ tables_1, d.before a0 Z = true) : ∀ a ∈ Bundle.stringAtoms, a.before a0 Z = true := fun d hd => hw d ((by decide +kernel : ∀ d ∈ Bundle.stringAtoms, d ∈ tables_1) d hd)
theorem own_ws {Z : State} {a0 : Array Value} (hw : ∀ d ∈ tables_1, d.before a0 Z = true) : ∀ d ∈ StrChars.Road.words, d.before a0 Z = true := fun d hd => hw d ((by decide +kernel : ∀ d ∈ StrChars.Road.words, d ∈ tables_1) d hd)
theorem own_wsLen {Z : State} {a0 : Array Value} (hw : ∀ d ∈ tables_1, d.before a0 Z = true) : ∀ d ∈ StrChars.Road.wordsLen, d.before a0 Z = true := fun d hd => hw d ((by decide +kernel : ∀ d ∈ StrChars.Road.wordsLen, d ∈ tables_1) d hd)
set_option maxRecDepth 65536 in
set_option maxHeartbeats 40000000 in
theorem own_am (l : Launch) (Z : State) (a0 : Array Value) (hw : ∀ d ∈ tables_1, d.before a0 Z = true) (h0 : Heap) (hO : Ext Z.heap h0) (x : Addr)  :
    CtrN l Z (⟨"java/util/AbstractMap", "<init>", "()V"⟩ : MethodName) jdk_71_method_1_code 1 none ({ frames := 1, cells := 0, slots := 0, locals := 12 } : Room) #[(.ref x)] h0 (fun v h' => Keep h0 h' [] ∧ v = none) := by
  refine CtrN.of (plainFor_of_name pn_0) hO ?_
  intro p e s m below meth cD_ T0 X0 hsh hby hml hret hlk hnm
  refine Goes.cast (ef_own_am m x) ?_
  show Goes _ _ _ _ T0 (mkF m 0 #[.val (.ref x)] [])
  refine Goes.go (fun _ kS_ => XS.aloadN X0.here X0.ex rfl (hb hby d_jdk_71_method_1_0) rfl rfl kS_) ?_
  show Goes _ _ _ _ T0 (mkF m 1 #[.val (.ref x)] [(.ref x)])
  refine Wk.initO X0 (w_55 hw) (w_12 hw) (w_13 hw) rfl (by rw [hml]; rfl) rfl (hb hby d_jdk_71_method_1_1) (by decide) (W := 0) (by show 2 * 0 + _ ≤ _; exact Nat.le_of_eq rfl) (by decide) ?_
  intro T1 X1
  show Goes _ _ _ _ T1 (mkF m 4 #[.val (.ref x)] [])
  refine Goes.outN X1 (fun _ => rfl) hlk (X1.rV hret (hb hby d_jdk_71_method_1_4)) ?_ (by decide) (by decide)
  exact ⟨Ext.oKeepOf X1.ext [], rfl⟩
set_option maxRecDepth 65536 in
set_option maxHeartbeats 40000000 in
theorem own_ac (l : Launch) (Z : State) (a0 : Array Value) (hw : ∀ d ∈ tables_1, d.before a0 Z = true) (h0 : Heap) (hO : Ext Z.heap h0) (x : Addr)  :
    CtrN l Z (⟨"java/util/AbstractCollection", "<init>", "()V"⟩ : MethodName) jdk_22_method_1_code 1 none ({ frames := 1, cells := 0, slots := 0, locals := 12 } : Room) #[(.ref x)] h0 (fun v h' => Keep h0 h' [] ∧ v = none) := by
  refine CtrN.of (plainFor_of_name pn_1) hO ?_
  intro p e s m below meth cD_ T0 X0 hsh hby hml hret hlk hnm
  refine Goes.cast (ef_own_ac m x) ?_
  show Goes _ _ _ _ T0 (mkF m 0 #[.val (.ref x)] [])
  refine Goes.go (fun _ kS_ => XS.aloadN X0.here X0.ex rfl (hb hby d_jdk_22_method_1_0) rfl rfl kS_) ?_
  show Goes _ _ _ _ T0 (mkF m 1 #[.val (.ref x)] [(.ref x)])
  refine Wk.initO X0 (w_183 hw) (w_12 hw) (w_13 hw) rfl (by rw [hml]; rfl) rfl (hb hby d_jdk_22_method_1_1) (by decide) (W := 0) (by show 2 * 0 + _ ≤ _; exact Nat.le_of_eq rfl) (by decide) ?_
  intro T2 X2
  show Goes _ _ _ _ T2 (mkF m 4 #[.val (.ref x)] [])
  refine Goes.outN X2 (fun _ => rfl) hlk (X2.rV hret (hb hby d_jdk_22_method_1_4)) ?_ (by decide) (by decide)
  exact ⟨Ext.oKeepOf X2.ext [], rfl⟩
set_option maxRecDepth 65536 in
set_option maxHeartbeats 40000000 in
theorem own_as (l : Launch) (Z : State) (a0 : Array Value) (hw : ∀ d ∈ tables_1, d.before a0 Z = true) (h0 : Heap) (hO : Ext Z.heap h0) (x : Addr)  :
    CtrN l Z (⟨"java/util/AbstractSet", "<init>", "()V"⟩ : MethodName) jdk_91_method_1_code 1 none ({ frames := 2, cells := 0, slots := 0, locals := 24 } : Room) #[(.ref x)] h0 (fun v h' => Keep h0 h' [] ∧ v = none) := by
  refine CtrN.of (plainFor_of_name pn_2) hO ?_
  intro p e s m below meth cD_ T0 X0 hsh hby hml hret hlk hnm
  refine Goes.cast (ef_own_as m x) ?_
  show Goes _ _ _ _ T0 (mkF m 0 #[.val (.ref x)] [])
  refine Goes.go (fun _ kS_ => XS.aloadN X0.here X0.ex rfl (hb hby d_jdk_91_method_1_0) rfl rfl kS_) ?_
  show Goes _ _ _ _ T0 (mkF m 1 #[.val (.ref x)] [(.ref x)])
  refine Wk.special (hm' := fun _ => h0) (y := (⟨"java/util/AbstractCollection", "<init>", "()V"⟩ : MethodName)) (W := 0) (kc := 0) (ks := 0) (argsL := []) (rest := []) (as' := #[(.ref x)]) (ws := []) X0 rfl (w_177 hw) (w_178 hw) (w_182 hw) (by decide) (CtrN.pays (own_ac l Z a0 hw h0 X0.old x) (w_182 hw) (w_181 hw) (by decide) (by decide)) (fun v h' L q => ⟨q.2, q.1.1⟩) all0 (fun _ => Mark.stay all0) rfl (by rw [hml]; rfl) (lenOf pd_0 rfl) rfl rfl (by show 2 * 0 + _ ≤ _; exact Nat.le_of_eq rfl) (hb hby d_jdk_91_method_1_1) (by decide) (by decide) ?_
  intro T4 h4 v4 L4 X4 q4 K4
  obtain ⟨⟨-, rfl⟩, -⟩ := q4
  show Goes _ _ _ _ T4 (mkF m 4 #[.val (.ref x)] [])
  refine Goes.outN X4 (fun _ => rfl) hlk (X4.rV hret (hb hby d_jdk_91_method_1_4)) ?_ (by decide) (by decide)
  exact ⟨Ext.oKeepOf X4.ext [], rfl⟩
set_option maxRecDepth 65536 in
set_option maxHeartbeats 40000000 in
theorem own_hm (l : Launch) (Z : State) (a0 : Array Value) (hw : ∀ d ∈ tables_1, d.before a0 Z = true) (h0 : Heap) (hO : Ext Z.heap h0) (x : Addr) (E_x : Exa Z h0 x "java/util/LinkedHashMap") (F_x_loadFactor : Fld Z h0 x "java/util/HashMap" "loadFactor" "F" (.float (0 : UInt32))) (F_x_putMode : Fld Z h0 x "java/util/LinkedHashMap" "putMode" "I" (.int (0 : Int32))) (F_x_accessOrder : Fld Z h0 x "java/util/LinkedHashMap" "accessOrder" "Z" (.int (0 : Int32))) (F_x_entrySet : Fld Z h0 x "java/util/HashMap" "entrySet" "Ljava/util/Set;" .null) (F_x_head : Fld Z h0 x "java/util/LinkedHashMap" "head" "Ljava/util/LinkedHashMap$Entry;" .null) (F_x_modCount : Fld Z h0 x "java/util/HashMap" "modCount" "I" (.int (0 : Int32))) (gz_x : Z.heap.size ≤ x) :
    CtrN l Z (⟨"java/util/HashMap", "<init>", "()V"⟩ : MethodName) jdk_69_method_7_code 1 none ({ frames := 2, cells := 0, slots := 0, locals := 24 } : Room) #[(.ref x)] h0 (fun v h' => Keep h0 h' [x] ∧ v = none ∧ Exa Z h' x "java/util/LinkedHashMap" ∧ Fld Z h' x "java/util/HashMap" "entrySet" "Ljava/util/Set;" .null ∧ Fld Z h' x "java/util/LinkedHashMap" "head" "Ljava/util/LinkedHashMap$Entry;" .null ∧ Fld Z h' x "java/util/HashMap" "modCount" "I" (.int (0 : Int32)) ∧ Fld Z h' x "java/util/LinkedHashMap" "putMode" "I" (.int (0 : Int32)) ∧ Fld Z h' x "java/util/LinkedHashMap" "accessOrder" "Z" (.int (0 : Int32))) := by
  refine CtrN.of (plainFor_of_name pn_3) hO ?_
  intro p e s m below meth cD_ T0 X0 hsh hby hml hret hlk hnm
  refine Goes.cast (ef_own_hm m x) ?_
  show Goes _ _ _ _ T0 (mkF m 0 #[.val (.ref x)] [])
  have KK : Keep h0 h0 [x] := Keep.refl _ _
  refine Goes.go (fun _ kS_ => XS.aloadN X0.here X0.ex rfl (hb hby d_jdk_69_method_7_0) rfl rfl kS_) ?_
  show Goes _ _ _ _ T0 (mkF m 1 #[.val (.ref x)] [(.ref x)])
  refine Wk.special (hm' := fun _ => h0) (y := (⟨"java/util/AbstractMap", "<init>", "()V"⟩ : MethodName)) (W := 0) (kc := 0) (ks := 0) (argsL := []) (rest := []) (as' := #[(.ref x)]) (ws := []) X0 rfl (w_49 hw) (w_50 hw) (w_54 hw) (by decide) (CtrN.pays (own_am l Z a0 hw h0 X0.old x) (w_54 hw) (w_53 hw) (by decide) (by decide)) (fun v h' L q => ⟨q.2, q.1.1⟩) all0 (fun _ => Mark.stay all0) rfl (by rw [hml]; rfl) (lenOf pd_0 rfl) rfl rfl (by show 2 * 0 + _ ≤ _; exact Nat.le_of_eq rfl) (hb hby d_jdk_69_method_7_1) (by decide) (by decide) ?_
  intro T7 h7 v7 L7 X7 q7 K7
  obtain ⟨⟨-, rfl⟩, -⟩ := q7
  replace E_x := E_x.ext K7.oExt
  replace F_x_loadFactor := F_x_loadFactor.ext K7.oExt
  replace F_x_putMode := F_x_putMode.ext K7.oExt
  replace F_x_accessOrder := F_x_accessOrder.ext K7.oExt
  replace F_x_entrySet := F_x_entrySet.ext K7.oExt
  replace F_x_head := F_x_head.ext K7.oExt
  replace F_x_modCount := F_x_modCount.ext K7.oExt
  replace KK := KK.ext K7.oExt
  show Goes _ _ _ _ T7 (mkF m 4 #[.val (.ref x)] [])
  refine Goes.go (fun _ kS_ => XS.aloadN X7.here X7.ex rfl (hb hby d_jdk_69_method_7_4) rfl rfl kS_) ?_
  show Goes _ _ _ _ T7 (mkF m 5 #[.val (.ref x)] [(.ref x)])
  refine Goes.go (X7.ldcF (w_56 hw) rfl (hb hby d_jdk_69_method_7_5)) ?_
  show Goes _ _ _ _ T7 (mkF m 7 #[.val (.ref x)] [(.float (1061158912 : UInt32)), (.ref x)])
  have Eo := E_x
  refine Wk.putF (hm' := fun h' => h') X7 (host := "") (Or.inl (w_57 hw)) Via.refl F_x_loadFactor E_x (Or.inr ⟨(w_58 hw), rfl, hnm⟩) (w_38 hw) (ty := .float) (by decide) rfl rfl gz_x (fun _ => Mark.anew (allS (Or.inr SafeA.nil) all0)) rfl rfl (hb hby d_jdk_69_method_7_7) ?_
  intro T8 h8 X8 W8
  have F8 := F_x_loadFactor.same W8
  replace E_x := E_x.wr W8
  replace F_x_putMode := F_x_putMode.other W8 (Or.inr (slot_ne (Or.inl (w_60 hw)) (Or.inr (w_58 hw)) (by decide) (t := .int) (t' := .float) (by decide) (by decide)))
  replace F_x_accessOrder := F_x_accessOrder.other W8 (Or.inr (slot_ne (Or.inr (w_62 hw)) (Or.inr (w_58 hw)) (by decide) (t := .boolean) (t' := .float) (by decide) (by decide)))
  replace F_x_entrySet := F_x_entrySet.other W8 (Or.inr (slot_ne (Or.inl (w_161 hw)) (Or.inr (w_58 hw)) (by decide) (t := (.object "java/util/Set")) (t' := .float) (by decide) (by decide)))
  replace F_x_head := F_x_head.other W8 (Or.inr (slot_ne (Or.inl (w_214 hw)) (Or.inr (w_58 hw)) (by decide) (t := (.object "java/util/LinkedHashMap$Entry")) (t' := .float) (by decide) (by decide)))
  replace F_x_modCount := F_x_modCount.other W8 (Or.inr (slot_ne (Or.inl (w_219 hw)) (Or.inr (w_58 hw)) (by decide) (t := .int) (t' := .float) (by decide) (by decide)))
  replace KK := KK.wr W8 (Or.inl (List.mem_of_getElem? (i := 0) rfl))
  clear F_x_loadFactor; have F_x_loadFactor := F8
  show Goes _ _ _ _ T8 (mkF m 10 #[.val (.ref x)] [])
  clear Eo
  refine Goes.outN X8 (fun _ => rfl) hlk (X8.rV hret (hb hby d_jdk_69_method_7_10)) ?_ (by decide) (by decide)
  exact ⟨KK, rfl, E_x, F_x_entrySet, F_x_head, F_x_modCount, F_x_putMode, F_x_accessOrder⟩
set_option maxRecDepth 65536 in
set_option maxHeartbeats 40000000 in
theorem own_lhm (l : Launch) (Z : State) (a0 : Array Value) (hw : ∀ d ∈ tables_1, d.before a0 Z = true) (h0 : Heap) (hO : Ext Z.heap h0) (x : Addr) (E_x : Exa Z h0 x "java/util/LinkedHashMap") (F_x_loadFactor : Fld Z h0 x "java/util/HashMap" "loadFactor" "F" (.float (0 : UInt32))) (F_x_putMode : Fld Z h0 x "java/util/LinkedHashMap" "putMode" "I" (.int (0 : Int32))) (F_x_accessOrder : Fld Z h0 x "java/util/LinkedHashMap" "accessOrder" "Z" (.int (0 : Int32))) (F_x_entrySet : Fld Z h0 x "java/util/HashMap" "entrySet" "Ljava/util/Set;" .null) (F_x_head : Fld Z h0 x "java/util/LinkedHashMap" "head" "Ljava/util/LinkedHashMap$Entry;" .null) (F_x_modCount : Fld Z h0 x "java/util/HashMap" "modCount" "I" (.int (0 : Int32))) (gz_x : Z.heap.size ≤ x) :
    CtrN l Z (⟨"java/util/LinkedHashMap", "<init>", "()V"⟩ : MethodName) jdk_94_method_16_code 1 none ({ frames := 3, cells := 0, slots := 0, locals := 36 } : Room) #[(.ref x)] h0 (fun v h' => Keep h0 h' [x] ∧ v = none ∧ Exa Z h' x "java/util/LinkedHashMap" ∧ Fld Z h' x "java/util/HashMap" "entrySet" "Ljava/util/Set;" .null ∧ Fld Z h' x "java/util/LinkedHashMap" "head" "Ljava/util/LinkedHashMap$Entry;" .null ∧ Fld Z h' x "java/util/HashMap" "modCount" "I" (.int (0 : Int32))) := by
  refine CtrN.of (plainFor_of_name pn_4) hO ?_
  intro p e s m below meth cD_ T0 X0 hsh hby hml hret hlk hnm
  refine Goes.cast (ef_own_lhm m x) ?_
  show Goes _ _ _ _ T0 (mkF m 0 #[.val (.ref x)] [])
  have KK : Keep h0 h0 [x] := Keep.refl _ _
  refine Goes.go (fun _ kS_ => XS.aloadN X0.here X0.ex rfl (hb hby d_jdk_94_method_16_0) rfl rfl kS_) ?_
  show Goes _ _ _ _ T0 (mkF m 1 #[.val (.ref x)] [(.ref x)])
  refine Wk.special (hm' := fun h' => h') (y := (⟨"java/util/HashMap", "<init>", "()V"⟩ : MethodName)) (W := 0) (kc := 0) (ks := 0) (argsL := []) (rest := []) (as' := #[(.ref x)]) (ws := [x]) X0 rfl (w_43 hw) (w_44 hw) (w_48 hw) (by decide) (CtrN.pays (own_hm l Z a0 hw h0 X0.old x E_x F_x_loadFactor F_x_putMode F_x_accessOrder F_x_entrySet F_x_head F_x_modCount gz_x) (w_48 hw) (w_47 hw) (by decide) (by decide)) (fun v h' L q => ⟨q.2, q.1.1⟩) (allS gz_x all0) (fun _ => Mark.anew (allS (Or.inr SafeA.nil) all0)) rfl (by rw [hml]; rfl) (lenOf pd_0 rfl) rfl rfl (by show 2 * 0 + _ ≤ _; exact Nat.le_of_eq rfl) (hb hby d_jdk_94_method_16_1) (by decide) (by decide) ?_
  intro T12 h12 v12 L12 X12 q12 K12
  obtain ⟨⟨-, rfl, E_x12, Fe12, Fh12, Fm12, Fp12, Fa12⟩, -⟩ := q12
  show Goes _ _ _ _ T12 (mkF m 4 #[.val (.ref x)] [])
  clear F_x_loadFactor F_x_putMode F_x_accessOrder F_x_entrySet F_x_head F_x_modCount
  have F_x_entrySet := Fe12; have F_x_head := Fh12; have F_x_modCount := Fm12; have F_x_putMode := Fp12; have F_x_accessOrder := Fa12
  replace E_x := E_x12
  replace KK := K12
  refine Goes.go (fun _ kS_ => XS.aloadN X12.here X12.ex rfl (hb hby d_jdk_94_method_16_4) rfl rfl (XS.iconst X12.here X12.ex rfl (hb hby d_jdk_94_method_16_5) kS_)) ?_
  show Goes _ _ _ _ T12 (mkF m 6 #[.val (.ref x)] [(.int (0 : Int32)), (.ref x)])
  have Eo := E_x
  refine Wk.putF (hm' := fun h' => h') X12 (host := "") (Or.inl (w_59 hw)) Via.refl F_x_putMode E_x (Or.inl (w_60 hw)) (w_38 hw) (ty := .int) (by decide) rfl rfl gz_x (fun _ => Mark.anew (allS (Or.inr SafeA.nil) all0)) rfl rfl (hb hby d_jdk_94_method_16_6) ?_
  intro T13 h13 X13 W13
  have F13 := F_x_putMode.same W13
  replace E_x := E_x.wr W13
  replace F_x_accessOrder := F_x_accessOrder.other W13 (Or.inr (slot_ne (Or.inr (w_62 hw)) (Or.inl (w_60 hw)) (by decide) (t := .boolean) (t' := .int) (by decide) (by decide)))
  replace F_x_entrySet := F_x_entrySet.other W13 (Or.inr (slot_ne (Or.inl (w_161 hw)) (Or.inl (w_60 hw)) (by decide) (t := (.object "java/util/Set")) (t' := .int) (by decide) (by decide)))
  replace F_x_head := F_x_head.other W13 (Or.inr (slot_ne (Or.inl (w_214 hw)) (Or.inl (w_60 hw)) (by decide) (t := (.object "java/util/LinkedHashMap$Entry")) (t' := .int) (by decide) (by decide)))
  replace F_x_modCount := F_x_modCount.other W13 (Or.inr (slot_ne (Or.inl (w_219 hw)) (Or.inl (w_60 hw)) (by decide) (t := .int) (t' := .int) (by decide) (by decide)))
  replace KK := KK.wr W13 (Or.inl (List.mem_of_getElem? (i := 0) rfl))
  clear F_x_putMode; have F_x_putMode := F13
  show Goes _ _ _ _ T13 (mkF m 9 #[.val (.ref x)] [])
  clear Eo
  refine Goes.go (fun _ kS_ => XS.aloadN X13.here X13.ex rfl (hb hby d_jdk_94_method_16_9) rfl rfl (XS.iconst X13.here X13.ex rfl (hb hby d_jdk_94_method_16_10) kS_)) ?_
  show Goes _ _ _ _ T13 (mkF m 11 #[.val (.ref x)] [(.int (0 : Int32)), (.ref x)])
  have Eo := E_x
  refine Wk.putFN (hm' := fun h' => h') X13 (w_61 hw) Via.refl F_x_accessOrder E_x (Or.inr ⟨(w_62 hw), rfl, hnm⟩) (w_38 hw) (ty := .boolean) (v' := (.int (nar .boolean (0 : Int32)))) (by decide) rfl (fits_nar_bool _) gz_x (fun _ => Mark.anew (allS (Or.inr SafeA.nil) all0)) rfl rfl (hb hby d_jdk_94_method_16_11) ?_
  intro T14 h14 X14 W14
  have F14 := F_x_accessOrder.same W14
  replace E_x := E_x.wr W14
  replace F_x_entrySet := F_x_entrySet.other W14 (Or.inr (slot_ne (Or.inl (w_161 hw)) (Or.inr (w_62 hw)) (by decide) (t := (.object "java/util/Set")) (t' := .boolean) (by decide) (by decide)))
  replace F_x_head := F_x_head.other W14 (Or.inr (slot_ne (Or.inl (w_214 hw)) (Or.inr (w_62 hw)) (by decide) (t := (.object "java/util/LinkedHashMap$Entry")) (t' := .boolean) (by decide) (by decide)))
  replace F_x_modCount := F_x_modCount.other W14 (Or.inr (slot_ne (Or.inl (w_219 hw)) (Or.inr (w_62 hw)) (by decide) (t := .int) (t' := .boolean) (by decide) (by decide)))
  replace KK := KK.wr W14 (Or.inl (List.mem_of_getElem? (i := 0) rfl))
  replace F_x_putMode := F_x_putMode.other W14 (Or.inr (slot_ne (Or.inl (w_60 hw)) (Or.inr (w_62 hw)) (by decide) (t := .int) (t' := .boolean) (by decide) (by decide)))
  clear F_x_accessOrder; have F_x_accessOrder := F14
  show Goes _ _ _ _ T14 (mkF m 14 #[.val (.ref x)] [])
  clear Eo
  refine Goes.outN X14 (fun _ => rfl) hlk (X14.rV hret (hb hby d_jdk_94_method_16_14)) ?_ (by decide) (by decide)
  exact ⟨KK, rfl, E_x, F_x_entrySet, F_x_head, F_x_modCount⟩
set_option maxRecDepth 65536 in
set_option maxHeartbeats 40000000 in
theorem own_esi (l : Launch) (Z : State) (a0 : Array Value) (hw : ∀ d ∈ tables_1, d.before a0 Z = true) (h0 : Heap) (hO : Ext Z.heap h0) (x : Addr) (q : Addr) (E_x : Exa Z h0 x "java/util/LinkedHashMap$LinkedEntrySet") (F_x_this_0 : Fld Z h0 x "java/util/LinkedHashMap$LinkedEntrySet" "this$0" "Ljava/util/LinkedHashMap;" .null) (F_x_reversed : Fld Z h0 x "java/util/LinkedHashMap$LinkedEntrySet" "reversed" "Z" (.int (0 : Int32))) (gz_x : Z.heap.size ≤ x) :
    CtrN l Z (⟨"java/util/LinkedHashMap$LinkedEntrySet", "<init>", "(Ljava/util/LinkedHashMap;Z)V"⟩ : MethodName) jdk_113_method_1_code 3 none ({ frames := 3, cells := 0, slots := 0, locals := 36 } : Room) #[(.ref x), (.ref q), (.int (0 : Int32))] h0 (fun v h' => Keep h0 h' [x] ∧ v = none ∧ Exa Z h' x "java/util/LinkedHashMap$LinkedEntrySet" ∧ Fld Z h' x "java/util/LinkedHashMap$LinkedEntrySet" "this$0" "Ljava/util/LinkedHashMap;" (.ref q) ∧ Fld Z h' x "java/util/LinkedHashMap$LinkedEntrySet" "reversed" "Z" (.int (0 : Int32))) := by
  refine CtrN.of (plainFor_of_name pn_5) hO ?_
  intro p e s m below meth cD_ T0 X0 hsh hby hml hret hlk hnm
  refine Goes.cast (ef_own_esi m x q) ?_
  show Goes _ _ _ _ T0 (mkF m 0 #[.val (.ref x), .val (.ref q), .val (.int (0 : Int32))] [])
  have KK : Keep h0 h0 [x] := Keep.refl _ _
  refine Goes.go (fun _ kS_ => XS.aloadN X0.here X0.ex rfl (hb hby d_jdk_113_method_1_0) rfl rfl (XS.aloadN X0.here X0.ex rfl (hb hby d_jdk_113_method_1_1) rfl rfl kS_)) ?_
  show Goes _ _ _ _ T0 (mkF m 2 #[.val (.ref x), .val (.ref q), .val (.int (0 : Int32))] [(.ref q), (.ref x)])
  have Eo := E_x
  refine Wk.putF (hm' := fun h' => h') X0 (host := "") (Or.inl (w_169 hw)) Via.refl F_x_this_0 E_x (Or.inr ⟨(w_170 hw), rfl, hnm⟩) (w_163 hw) (ty := (.object "java/util/LinkedHashMap")) (by decide) rfl rfl gz_x (fun _ => Mark.anew (allS (Or.inr SafeA.nil) all0)) rfl rfl (hb hby d_jdk_113_method_1_2) ?_
  intro T18 h18 X18 W18
  have F18 := F_x_this_0.same W18
  replace E_x := E_x.wr W18
  replace F_x_reversed := F_x_reversed.other W18 (Or.inr (slot_ne (Or.inr (w_185 hw)) (Or.inr (w_170 hw)) (by decide) (t := .boolean) (t' := (.object "java/util/LinkedHashMap")) (by decide) (by decide)))
  replace KK := KK.wr W18 (Or.inl (List.mem_of_getElem? (i := 0) rfl))
  clear F_x_this_0; have F_x_this_0 := F18
  show Goes _ _ _ _ T18 (mkF m 5 #[.val (.ref x), .val (.ref q), .val (.int (0 : Int32))] [])
  clear Eo
  refine Goes.go (fun _ kS_ => XS.aloadN X18.here X18.ex rfl (hb hby d_jdk_113_method_1_5) rfl rfl kS_) ?_
  show Goes _ _ _ _ T18 (mkF m 6 #[.val (.ref x), .val (.ref q), .val (.int (0 : Int32))] [(.ref x)])
  refine Wk.special (hm' := fun _ => h18) (y := (⟨"java/util/AbstractSet", "<init>", "()V"⟩ : MethodName)) (W := 0) (kc := 0) (ks := 0) (argsL := []) (rest := []) (as' := #[(.ref x)]) (ws := []) X18 rfl (w_171 hw) (w_172 hw) (w_176 hw) (by decide) (CtrN.pays (own_as l Z a0 hw h18 X18.old x) (w_176 hw) (w_175 hw) (by decide) (by decide)) (fun v h' L q => ⟨q.2, q.1.1⟩) all0 (fun _ => Mark.stay all0) rfl (by rw [hml]; rfl) (lenOf pd_0 rfl) rfl rfl (by show 2 * 0 + _ ≤ _; exact Nat.le_of_eq rfl) (hb hby d_jdk_113_method_1_6) (by decide) (by decide) ?_
  intro T19 h19 v19 L19 X19 q19 K19
  obtain ⟨⟨-, rfl⟩, -⟩ := q19
  replace E_x := E_x.ext K19.oExt
  replace F_x_reversed := F_x_reversed.ext K19.oExt
  replace KK := KK.ext K19.oExt
  replace F_x_this_0 := F_x_this_0.ext K19.oExt
  show Goes _ _ _ _ T19 (mkF m 9 #[.val (.ref x), .val (.ref q), .val (.int (0 : Int32))] [])
  refine Goes.go (fun _ kS_ => XS.aloadN X19.here X19.ex rfl (hb hby d_jdk_113_method_1_9) rfl rfl (XS.iloadN X19.here X19.ex rfl (hb hby d_jdk_113_method_1_10) rfl kS_)) ?_
  show Goes _ _ _ _ T19 (mkF m 11 #[.val (.ref x), .val (.ref q), .val (.int (0 : Int32))] [(.int (0 : Int32)), (.ref x)])
  have Eo := E_x
  refine Wk.putFN (hm' := fun h' => h') X19 (w_184 hw) Via.refl F_x_reversed E_x (Or.inr ⟨(w_185 hw), rfl, hnm⟩) (w_163 hw) (ty := .boolean) (v' := (.int (nar .boolean (0 : Int32)))) (by decide) rfl (fits_nar_bool _) gz_x (fun _ => Mark.anew (allS (Or.inr SafeA.nil) all0)) rfl rfl (hb hby d_jdk_113_method_1_11) ?_
  intro T20 h20 X20 W20
  have F20 := F_x_reversed.same W20
  replace E_x := E_x.wr W20
  replace KK := KK.wr W20 (Or.inl (List.mem_of_getElem? (i := 0) rfl))
  replace F_x_this_0 := F_x_this_0.other W20 (Or.inr (slot_ne (Or.inr (w_170 hw)) (Or.inr (w_185 hw)) (by decide) (t := (.object "java/util/LinkedHashMap")) (t' := .boolean) (by decide) (by decide)))
  clear F_x_reversed; have F_x_reversed := F20
  show Goes _ _ _ _ T20 (mkF m 14 #[.val (.ref x), .val (.ref q), .val (.int (0 : Int32))] [])
  clear Eo
  refine Goes.outN X20 (fun _ => rfl) hlk (X20.rV hret (hb hby d_jdk_113_method_1_14)) ?_ (by decide) (by decide)
  exact ⟨KK, rfl, E_x, F_x_this_0, F_x_reversed⟩
set_option maxRecDepth 65536 in
set_option maxHeartbeats 40000000 in
theorem own_seq (l : Launch) (Z : State) (a0 : Array Value) (hw : ∀ d ∈ tables_1, d.before a0 Z = true) (h0 : Heap) (hO : Ext Z.heap h0) (x : Addr) (E_x : Exa Z h0 x "java/util/LinkedHashMap") (F_x_entrySet : Fld Z h0 x "java/util/HashMap" "entrySet" "Ljava/util/Set;" .null) (F_x_head : Fld Z h0 x "java/util/LinkedHashMap" "head" "Ljava/util/LinkedHashMap$Entry;" .null) (F_x_modCount : Fld Z h0 x "java/util/HashMap" "modCount" "I" (.int (0 : Int32))) (gz_x : Z.heap.size ≤ x) :
    CtrN l Z (⟨"java/util/LinkedHashMap", "sequencedEntrySet", "()Ljava/util/SequencedSet;"⟩ : MethodName) jdk_94_method_33_code 3 (some (.object "java/util/SequencedSet")) ({ frames := 4, cells := 1, slots := 2, locals := 51 } : Room) #[(.ref x)] h0 (fun v h' => Keep h0 h' [x] ∧ ∃ s1, v = some (.ref s1) ∧ Exa Z h' s1 "java/util/LinkedHashMap$LinkedEntrySet" ∧ Fld Z h' s1 "java/util/LinkedHashMap$LinkedEntrySet" "this$0" "Ljava/util/LinkedHashMap;" (.ref x) ∧ Fld Z h' s1 "java/util/LinkedHashMap$LinkedEntrySet" "reversed" "Z" (.int (0 : Int32)) ∧ Exa Z h' x "java/util/LinkedHashMap" ∧ Fld Z h' x "java/util/LinkedHashMap" "head" "Ljava/util/LinkedHashMap$Entry;" .null ∧ Fld Z h' x "java/util/HashMap" "modCount" "I" (.int (0 : Int32)) ∧ h0.size ≤ s1) := by
  refine CtrN.of (plainFor_of_name pn_4) hO ?_
  intro p e s m below meth cD_ T0 X0 hsh hby hml hret hlk hnm
  refine Goes.cast (ef_own_seq m x) ?_
  show Goes _ _ _ _ T0 (mkF m 0 #[.val (.ref x), .unset, .unset] [])
  have KK : Keep h0 h0 [x] := Keep.refl _ _
  refine Goes.go (fun _ kS_ => XS.aloadN X0.here X0.ex rfl (hb hby d_jdk_94_method_33_0) rfl rfl kS_) ?_
  show Goes _ _ _ _ T0 (mkF m 1 #[.val (.ref x), .unset, .unset] [(.ref x)])
  refine Wk.getF X0 (host := "") (Or.inl (w_159 hw)) (Via.of (w_160 hw)) F_x_entrySet rfl rfl (hb hby d_jdk_94_method_33_1) ?_
  intro T25 X25
  show Goes _ _ _ _ T25 (mkF m 4 #[.val (.ref x), .unset, .unset] [.null])
  refine Goes.go (fun _ kS_ => XS.astoreN X25.here X25.ex rfl (hb hby d_jdk_94_method_33_4) rfl rfl (l' := #[.val (.ref x), .val .null, .unset]) rfl (XS.aloadN X25.here X25.ex rfl (hb hby d_jdk_94_method_33_5) rfl rfl (XS.ifnonnullNo X25.here X25.ex rfl (hb hby d_jdk_94_method_33_6) rfl kS_))) ?_
  show Goes _ _ _ _ T25 (mkF m 9 #[.val (.ref x), .val .null, .unset] [])
  refine Wk.new X25 (w_162 hw) (w_163 hw) (w_164 hw) rfl (hb hby d_jdk_94_method_33_9) (by decide) (by decide) ?_
  intro T26 h26 a26 g26 X26 E26 A26 D26
  have lt_x_a26 : x < a26 := by rw [g26]; exact E_x.lt
  replace E_x := E_x.ext E26
  replace F_x_entrySet := F_x_entrySet.ext E26
  replace F_x_head := F_x_head.ext E26
  replace F_x_modCount := F_x_modCount.ext E26
  replace KK := KK.ext E26
  have gz_a26 : Z.heap.size ≤ a26 := g26 ▸ X25.old.1
  have gm_a26 : h0.size ≤ a26 := g26 ▸ X25.ext.1
  have F_a26_this_0 : Fld Z h26 a26 "java/util/LinkedHashMap$LinkedEntrySet" "this$0" "Ljava/util/LinkedHashMap;" .null := D26 (Or.inr (w_170 hw)) (ty := (.object "java/util/LinkedHashMap")) (by decide)
  have F_a26_reversed : Fld Z h26 a26 "java/util/LinkedHashMap$LinkedEntrySet" "reversed" "Z" (.int (0 : Int32)) := D26 (Or.inr (w_185 hw)) (ty := .boolean) (by decide)
  clear D26
  show Goes _ _ _ _ T26 (mkF m 12 #[.val (.ref x), .val .null, .unset] [(.ref a26)])
  refine Goes.go (fun _ kS_ => XS.dup X26.here X26.ex rfl (hb hby d_jdk_94_method_33_12) rfl rfl (XS.aloadN X26.here X26.ex rfl (hb hby d_jdk_94_method_33_13) rfl rfl (XS.iconst X26.here X26.ex rfl (hb hby d_jdk_94_method_33_14) kS_))) ?_
  show Goes _ _ _ _ T26 (mkF m 15 #[.val (.ref x), .val .null, .unset] [(.int (0 : Int32)), (.ref x), (.ref a26), (.ref a26)])
  refine Wk.special (hm' := fun _ => h0) (y := (⟨"java/util/LinkedHashMap$LinkedEntrySet", "<init>", "(Ljava/util/LinkedHashMap;Z)V"⟩ : MethodName)) (W := 1) (kc := 0) (ks := 0) (argsL := [(.ref x), (.int (0 : Int32))]) (rest := [(.ref a26)]) (as' := #[(.ref a26), (.ref x), (.int (0 : Int32))]) (ws := [a26]) X26 rfl (w_165 hw) (w_166 hw) (w_168 hw) (by decide) (CtrN.pays (own_esi l Z a0 hw h26 X26.old a26 x A26 F_a26_this_0 F_a26_reversed gz_a26) (w_168 hw) (w_164 hw) (by decide) (by decide)) (fun v h' L q => ⟨q.2, q.1.1⟩) (allS gz_a26 all0) (fun _ => Mark.stay (allS gm_a26 all0)) rfl (by rw [hml]; rfl) (lenOf pd_1 rfl) rfl rfl (by show 2 * 0 + _ ≤ _; exact Nat.le_of_eq rfl) (hb hby d_jdk_94_method_33_15) (by decide) (by decide) ?_
  intro T27 h27 v27 L27 X27 q27 K27
  obtain ⟨⟨-, rfl, Es27, Ft27, Fr27⟩, -⟩ := q27
  replace E_x := E_x.keep K27
  replace F_x_entrySet := F_x_entrySet.keep K27 (ninS (Nat.ne_of_lt lt_x_a26) nin0)
  replace F_x_head := F_x_head.keep K27 (ninS (Nat.ne_of_lt lt_x_a26) nin0)
  replace F_x_modCount := F_x_modCount.keep K27 (ninS (Nat.ne_of_lt lt_x_a26) nin0)
  replace KK := KK.trans K27 (allS (Or.inr gm_a26) all0)
  show Goes _ _ _ _ T27 (mkF m 18 #[.val (.ref x), .val .null, .unset] [(.ref a26)])
  refine Goes.go (fun _ kS_ => XS.astoreN X27.here X27.ex rfl (hb hby d_jdk_94_method_33_18) rfl rfl (l' := #[.val (.ref x), .val .null, .val (.ref a26)]) rfl (XS.aloadN X27.here X27.ex rfl (hb hby d_jdk_94_method_33_19) rfl rfl (XS.aloadN X27.here X27.ex rfl (hb hby d_jdk_94_method_33_20) rfl rfl kS_))) ?_
  show Goes _ _ _ _ T27 (mkF m 21 #[.val (.ref x), .val .null, .val (.ref a26)] [(.ref a26), (.ref x)])
  have Eo := E_x
  refine Wk.putF (hm' := fun h' => h') X27 (host := "") (Or.inl (w_159 hw)) (Via.of (w_160 hw)) F_x_entrySet E_x (Or.inl (w_161 hw)) (w_38 hw) (ty := (.object "java/util/Set")) (by decide) rfl rfl gz_x (fun _ => Mark.anew (allS (Or.inr SafeA.nil) all0)) rfl rfl (hb hby d_jdk_94_method_33_21) ?_
  intro T28 h28 X28 W28
  have F28 := F_x_entrySet.same W28
  replace E_x := E_x.wr W28
  replace F_x_head := F_x_head.other W28 (Or.inr (slot_ne (Or.inl (w_214 hw)) (Or.inl (w_161 hw)) (by decide) (t := (.object "java/util/LinkedHashMap$Entry")) (t' := (.object "java/util/Set")) (by decide) (by decide)))
  replace F_x_modCount := F_x_modCount.other W28 (Or.inr (slot_ne (Or.inl (w_219 hw)) (Or.inl (w_161 hw)) (by decide) (t := .int) (t' := (.object "java/util/Set")) (by decide) (by decide)))
  replace KK := KK.wr W28 (Or.inl (List.mem_of_getElem? (i := 0) rfl))
  replace Es27 := Es27.wr W28
  replace Ft27 := Ft27.other W28 (Or.inl (Nat.ne_of_gt lt_x_a26))
  replace Fr27 := Fr27.other W28 (Or.inl (Nat.ne_of_gt lt_x_a26))
  clear F_x_entrySet; have F_x_entrySet := F28
  show Goes _ _ _ _ T28 (mkF m 24 #[.val (.ref x), .val .null, .val (.ref a26)] [])
  clear Eo
  refine Goes.go (fun _ kS_ => XS.aloadN X28.here X28.ex rfl (hb hby d_jdk_94_method_33_24) rfl rfl kS_) ?_
  show Goes _ _ _ _ T28 (mkF m 25 #[.val (.ref x), .val .null, .val (.ref a26)] [(.ref a26)])
  refine Goes.outN X28 (fun q => by rw [hret] at q; cases q) hlk (X28.rA hret rfl rfl (hb hby d_jdk_94_method_33_25)) ?_ (by decide) (by decide)
  exact ⟨KK, a26, rfl, Es27, Ft27, Fr27, E_x, F_x_head, F_x_modCount, gm_a26⟩
set_option maxRecDepth 65536 in
set_option maxHeartbeats 40000000 in
theorem own_ens (l : Launch) (Z : State) (a0 : Array Value) (hw : ∀ d ∈ tables_1, d.before a0 Z = true) (h0 : Heap) (hO : Ext Z.heap h0) (x : Addr) (E_x : Exa Z h0 x "java/util/LinkedHashMap") (F_x_entrySet : Fld Z h0 x "java/util/HashMap" "entrySet" "Ljava/util/Set;" .null) (F_x_head : Fld Z h0 x "java/util/LinkedHashMap" "head" "Ljava/util/LinkedHashMap$Entry;" .null) (F_x_modCount : Fld Z h0 x "java/util/HashMap" "modCount" "I" (.int (0 : Int32))) (gz_x : Z.heap.size ≤ x) :
    CtrN l Z (⟨"java/util/LinkedHashMap", "entrySet", "()Ljava/util/Set;"⟩ : MethodName) jdk_94_method_32_code 1 (some (.object "java/util/Set")) ({ frames := 5, cells := 1, slots := 2, locals := 65 } : Room) #[(.ref x)] h0 (fun v h' => Keep h0 h' [x] ∧ ∃ s1, v = some (.ref s1) ∧ Exa Z h' s1 "java/util/LinkedHashMap$LinkedEntrySet" ∧ Fld Z h' s1 "java/util/LinkedHashMap$LinkedEntrySet" "this$0" "Ljava/util/LinkedHashMap;" (.ref x) ∧ Fld Z h' s1 "java/util/LinkedHashMap$LinkedEntrySet" "reversed" "Z" (.int (0 : Int32)) ∧ Exa Z h' x "java/util/LinkedHashMap" ∧ Fld Z h' x "java/util/LinkedHashMap" "head" "Ljava/util/LinkedHashMap$Entry;" .null ∧ Fld Z h' x "java/util/HashMap" "modCount" "I" (.int (0 : Int32)) ∧ h0.size ≤ s1) := by
  refine CtrN.of (plainFor_of_name pn_4) hO ?_
  intro p e s m below meth cD_ T0 X0 hsh hby hml hret hlk hnm
  refine Goes.cast (ef_own_ens m x) ?_
  show Goes _ _ _ _ T0 (mkF m 0 #[.val (.ref x)] [])
  refine Goes.go (fun _ kS_ => XS.aloadN X0.here X0.ex rfl (hb hby d_jdk_94_method_32_0) rfl rfl kS_) ?_
  show Goes _ _ _ _ T0 (mkF m 1 #[.val (.ref x)] [(.ref x)])
  refine Wk.virtual (hm' := fun h' => h') (C := "java/util/LinkedHashMap") (y := (⟨"java/util/LinkedHashMap", "sequencedEntrySet", "()Ljava/util/SequencedSet;"⟩ : MethodName)) (z := (⟨"java/util/LinkedHashMap", "sequencedEntrySet", "()Ljava/util/SequencedSet;"⟩ : MethodName)) (W := 0) (kc := 1) (ks := 2) (argsL := []) (rest := []) (as' := #[(.ref x)]) (ws := [x]) X0 (w_154 hw) (w_155 hw) (w_157 hw) (w_156 hw) (by decide) E_x (nf_sel (w_157 hw)) (CtrN.pays (own_seq l Z a0 hw h0 X0.old x E_x F_x_entrySet F_x_head F_x_modCount gz_x) (w_158 hw) (w_39 hw) (by decide) (by decide)) (fun v h' L q => ⟨q.2, q.1.1⟩) (allS gz_x all0) (fun _ => Mark.anew (allS (Or.inr SafeA.nil) all0)) rfl (by rw [hml]; rfl) (lenOf pd_2 rfl) rfl rfl (by show 2 * 0 + _ ≤ _; exact Nat.le_of_eq rfl) (hb hby d_jdk_94_method_32_1) (by decide) (by decide) ?_
  intro T30 h30 v30 L30 X30 q30 K30
  obtain ⟨⟨-, s130, rfl, a130, a230, a330, a430, a530, a630, a730⟩, -⟩ := q30
  show Goes _ _ _ _ T30 (mkF m 4 #[.val (.ref x)] [(.ref s130)])
  refine Goes.outN X30 (fun q => by rw [hret] at q; cases q) hlk (X30.rA hret rfl rfl (hb hby d_jdk_94_method_32_4)) ?_ (by decide) (by decide)
  exact ⟨K30, s130, rfl, a130, a230, a330, a430, a530, a630, a730⟩
set_option maxRecDepth 65536 in
set_option maxHeartbeats 40000000 in
theorem own_it0 (l : Launch) (Z : State) (a0 : Array Value) (hw : ∀ d ∈ tables_1, d.before a0 Z = true) (h0 : Heap) (hO : Ext Z.heap h0) (x : Addr) (q : Addr) (E_x : Exa Z h0 x "java/util/LinkedHashMap$LinkedEntryIterator") (F_x_this_0 : Fld Z h0 x "java/util/LinkedHashMap$LinkedHashIterator" "this$0" "Ljava/util/LinkedHashMap;" .null) (F_x_reversed : Fld Z h0 x "java/util/LinkedHashMap$LinkedHashIterator" "reversed" "Z" (.int (0 : Int32))) (F_x_next : Fld Z h0 x "java/util/LinkedHashMap$LinkedHashIterator" "next" "Ljava/util/LinkedHashMap$Entry;" .null) (F_x_expectedModCount : Fld Z h0 x "java/util/LinkedHashMap$LinkedHashIterator" "expectedModCount" "I" (.int (0 : Int32))) (F_x_current : Fld Z h0 x "java/util/LinkedHashMap$LinkedHashIterator" "current" "Ljava/util/LinkedHashMap$Entry;" .null) (gz_x : Z.heap.size ≤ x) (F_q_head : Fld Z h0 q "java/util/LinkedHashMap" "head" "Ljava/util/LinkedHashMap$Entry;" .null) (F_q_modCount : Fld Z h0 q "java/util/HashMap" "modCount" "I" (.int (0 : Int32))) (nq : q ≠ x) :
    CtrN l Z (⟨"java/util/LinkedHashMap$LinkedHashIterator", "<init>", "(Ljava/util/LinkedHashMap;Z)V"⟩ : MethodName) jdk_2616_method_1_code 3 none ({ frames := 1, cells := 0, slots := 0, locals := 12 } : Room) #[(.ref x), (.ref q), (.int (0 : Int32))] h0 (fun v h' => Keep h0 h' [x] ∧ v = none ∧ Exa Z h' x "java/util/LinkedHashMap$LinkedEntryIterator" ∧ Fld Z h' x "java/util/LinkedHashMap$LinkedHashIterator" "next" "Ljava/util/LinkedHashMap$Entry;" .null) := by
  refine CtrN.of (plainFor_of_name pn_6) hO ?_
  intro p e s m below meth cD_ T0 X0 hsh hby hml hret hlk hnm
  refine Goes.cast (ef_own_it0 m x q) ?_
  show Goes _ _ _ _ T0 (mkF m 0 #[.val (.ref x), .val (.ref q), .val (.int (0 : Int32))] [])
  have KK : Keep h0 h0 [x] := Keep.refl _ _
  refine Goes.go (fun _ kS_ => XS.aloadN X0.here X0.ex rfl (hb hby d_jdk_2616_method_1_0) rfl rfl (XS.aloadN X0.here X0.ex rfl (hb hby d_jdk_2616_method_1_1) rfl rfl kS_)) ?_
  show Goes _ _ _ _ T0 (mkF m 2 #[.val (.ref x), .val (.ref q), .val (.int (0 : Int32))] [(.ref q), (.ref x)])
  have Eo := E_x
  refine Wk.putF (hm' := fun h' => h') X0 (host := "") (Or.inl (w_208 hw)) Via.refl F_x_this_0 E_x (Or.inr ⟨(w_209 hw), rfl, hnm⟩) (w_196 hw) (ty := (.object "java/util/LinkedHashMap")) (by decide) rfl rfl gz_x (fun _ => Mark.anew (allS (Or.inr SafeA.nil) all0)) rfl rfl (hb hby d_jdk_2616_method_1_2) ?_
  intro T39 h39 X39 W39
  have F39 := F_x_this_0.same W39
  replace E_x := E_x.wr W39
  replace F_x_reversed := F_x_reversed.other W39 (Or.inr (slot_ne (Or.inl (w_212 hw)) (Or.inr (w_209 hw)) (by decide) (t := .boolean) (t' := (.object "java/util/LinkedHashMap")) (by decide) (by decide)))
  replace F_x_next := F_x_next.other W39 (Or.inr (slot_ne (Or.inl (w_216 hw)) (Or.inr (w_209 hw)) (by decide) (t := (.object "java/util/LinkedHashMap$Entry")) (t' := (.object "java/util/LinkedHashMap")) (by decide) (by decide)))
  replace F_x_expectedModCount := F_x_expectedModCount.other W39 (Or.inr (slot_ne (Or.inl (w_221 hw)) (Or.inr (w_209 hw)) (by decide) (t := .int) (t' := (.object "java/util/LinkedHashMap")) (by decide) (by decide)))
  replace F_x_current := F_x_current.other W39 (Or.inr (slot_ne (Or.inl (w_223 hw)) (Or.inr (w_209 hw)) (by decide) (t := (.object "java/util/LinkedHashMap$Entry")) (t' := (.object "java/util/LinkedHashMap")) (by decide) (by decide)))
  replace F_q_head := F_q_head.other W39 (Or.inl nq)
  replace F_q_modCount := F_q_modCount.other W39 (Or.inl nq)
  replace KK := KK.wr W39 (Or.inl (List.mem_of_getElem? (i := 0) rfl))
  clear F_x_this_0; have F_x_this_0 := F39
  show Goes _ _ _ _ T39 (mkF m 5 #[.val (.ref x), .val (.ref q), .val (.int (0 : Int32))] [])
  clear Eo
  refine Goes.go (fun _ kS_ => XS.aloadN X39.here X39.ex rfl (hb hby d_jdk_2616_method_1_5) rfl rfl kS_) ?_
  show Goes _ _ _ _ T39 (mkF m 6 #[.val (.ref x), .val (.ref q), .val (.int (0 : Int32))] [(.ref x)])
  refine Wk.initO X39 (w_210 hw) (w_12 hw) (w_13 hw) rfl (by rw [hml]; rfl) rfl (hb hby d_jdk_2616_method_1_6) (by decide) (W := 0) (by show 2 * 0 + _ ≤ _; exact Nat.le_of_eq rfl) (by decide) ?_
  intro T40 X40
  show Goes _ _ _ _ T40 (mkF m 9 #[.val (.ref x), .val (.ref q), .val (.int (0 : Int32))] [])
  refine Goes.go (fun _ kS_ => XS.aloadN X40.here X40.ex rfl (hb hby d_jdk_2616_method_1_9) rfl rfl (XS.iloadN X40.here X40.ex rfl (hb hby d_jdk_2616_method_1_10) rfl kS_)) ?_
  show Goes _ _ _ _ T40 (mkF m 11 #[.val (.ref x), .val (.ref q), .val (.int (0 : Int32))] [(.int (0 : Int32)), (.ref x)])
  have Eo := E_x
  refine Wk.putFN (hm' := fun h' => h') X40 (w_211 hw) Via.refl F_x_reversed E_x (Or.inl (w_212 hw)) (w_196 hw) (ty := .boolean) (v' := (.int (nar .boolean (0 : Int32)))) (by decide) rfl (fits_nar_bool _) gz_x (fun _ => Mark.anew (allS (Or.inr SafeA.nil) all0)) rfl rfl (hb hby d_jdk_2616_method_1_11) ?_
  intro T41 h41 X41 W41
  have F41 := F_x_reversed.same W41
  replace E_x := E_x.wr W41
  replace F_x_next := F_x_next.other W41 (Or.inr (slot_ne (Or.inl (w_216 hw)) (Or.inl (w_212 hw)) (by decide) (t := (.object "java/util/LinkedHashMap$Entry")) (t' := .boolean) (by decide) (by decide)))
  replace F_x_expectedModCount := F_x_expectedModCount.other W41 (Or.inr (slot_ne (Or.inl (w_221 hw)) (Or.inl (w_212 hw)) (by decide) (t := .int) (t' := .boolean) (by decide) (by decide)))
  replace F_x_current := F_x_current.other W41 (Or.inr (slot_ne (Or.inl (w_223 hw)) (Or.inl (w_212 hw)) (by decide) (t := (.object "java/util/LinkedHashMap$Entry")) (t' := .boolean) (by decide) (by decide)))
  replace F_q_head := F_q_head.other W41 (Or.inl nq)
  replace F_q_modCount := F_q_modCount.other W41 (Or.inl nq)
  replace KK := KK.wr W41 (Or.inl (List.mem_of_getElem? (i := 0) rfl))
  replace F_x_this_0 := F_x_this_0.other W41 (Or.inr (slot_ne (Or.inr (w_209 hw)) (Or.inl (w_212 hw)) (by decide) (t := (.object "java/util/LinkedHashMap")) (t' := .boolean) (by decide) (by decide)))
  clear F_x_reversed; have F_x_reversed := F41
  show Goes _ _ _ _ T41 (mkF m 14 #[.val (.ref x), .val (.ref q), .val (.int (0 : Int32))] [])
  clear Eo
  refine Goes.go (fun _ kS_ => XS.aloadN X41.here X41.ex rfl (hb hby d_jdk_2616_method_1_14) rfl rfl (XS.iloadN X41.here X41.ex rfl (hb hby d_jdk_2616_method_1_15) rfl (XS.ifYes X41.here X41.ex rfl (pc0 := 16) (pc' := 26) rfl (hb hby d_jdk_2616_method_1_16) rfl ((if0 _ _).trans (cd_t (cd := .eq) (x := (0 : Int32)) (y := (0 : Int32)) (by decide))) (by decide) (by decide) (XS.aloadN X41.here X41.ex rfl (hb hby d_jdk_2616_method_1_26) rfl rfl kS_)))) ?_
  show Goes _ _ _ _ T41 (mkF m 27 #[.val (.ref x), .val (.ref q), .val (.int (0 : Int32))] [(.ref q), (.ref x)])
  refine Wk.getF X41 (host := "") (Or.inl (w_213 hw)) Via.refl F_q_head rfl rfl (hb hby d_jdk_2616_method_1_27) ?_
  intro T42 X42
  show Goes _ _ _ _ T42 (mkF m 30 #[.val (.ref x), .val (.ref q), .val (.int (0 : Int32))] [.null, (.ref x)])
  have Eo := E_x
  refine Wk.putF (hm' := fun h' => h') X42 (host := "") (Or.inl (w_215 hw)) Via.refl F_x_next E_x (Or.inl (w_216 hw)) (w_196 hw) (ty := (.object "java/util/LinkedHashMap$Entry")) (by decide) rfl rfl gz_x (fun _ => Mark.anew (allS (Or.inr SafeA.nil) all0)) rfl rfl (hb hby d_jdk_2616_method_1_30) ?_
  intro T43 h43 X43 W43
  have F43 := F_x_next.same W43
  replace E_x := E_x.wr W43
  replace F_x_expectedModCount := F_x_expectedModCount.other W43 (Or.inr (slot_ne (Or.inl (w_221 hw)) (Or.inl (w_216 hw)) (by decide) (t := .int) (t' := (.object "java/util/LinkedHashMap$Entry")) (by decide) (by decide)))
  replace F_x_current := F_x_current.other W43 (Or.inr (slot_ne (Or.inl (w_223 hw)) (Or.inl (w_216 hw)) (by decide) (t := (.object "java/util/LinkedHashMap$Entry")) (t' := (.object "java/util/LinkedHashMap$Entry")) (by decide) (by decide)))
  replace F_q_head := F_q_head.other W43 (Or.inl nq)
  replace F_q_modCount := F_q_modCount.other W43 (Or.inl nq)
  replace KK := KK.wr W43 (Or.inl (List.mem_of_getElem? (i := 0) rfl))
  replace F_x_this_0 := F_x_this_0.other W43 (Or.inr (slot_ne (Or.inr (w_209 hw)) (Or.inl (w_216 hw)) (by decide) (t := (.object "java/util/LinkedHashMap")) (t' := (.object "java/util/LinkedHashMap$Entry")) (by decide) (by decide)))
  replace F_x_reversed := F_x_reversed.other W43 (Or.inr (slot_ne (Or.inl (w_212 hw)) (Or.inl (w_216 hw)) (by decide) (t := .boolean) (t' := (.object "java/util/LinkedHashMap$Entry")) (by decide) (by decide)))
  clear F_x_next; have F_x_next := F43
  show Goes _ _ _ _ T43 (mkF m 33 #[.val (.ref x), .val (.ref q), .val (.int (0 : Int32))] [])
  clear Eo
  refine Goes.go (fun _ kS_ => XS.aloadN X43.here X43.ex rfl (hb hby d_jdk_2616_method_1_33) rfl rfl (XS.aloadN X43.here X43.ex rfl (hb hby d_jdk_2616_method_1_34) rfl rfl kS_)) ?_
  show Goes _ _ _ _ T43 (mkF m 35 #[.val (.ref x), .val (.ref q), .val (.int (0 : Int32))] [(.ref q), (.ref x)])
  refine Wk.getF X43 (host := "") (Or.inl (w_217 hw)) (Via.of (w_218 hw)) F_q_modCount rfl rfl (hb hby d_jdk_2616_method_1_35) ?_
  intro T44 X44
  show Goes _ _ _ _ T44 (mkF m 38 #[.val (.ref x), .val (.ref q), .val (.int (0 : Int32))] [(.int (0 : Int32)), (.ref x)])
  have Eo := E_x
  refine Wk.putF (hm' := fun h' => h') X44 (host := "") (Or.inl (w_220 hw)) Via.refl F_x_expectedModCount E_x (Or.inl (w_221 hw)) (w_196 hw) (ty := .int) (by decide) rfl rfl gz_x (fun _ => Mark.anew (allS (Or.inr SafeA.nil) all0)) rfl rfl (hb hby d_jdk_2616_method_1_38) ?_
  intro T45 h45 X45 W45
  have F45 := F_x_expectedModCount.same W45
  replace E_x := E_x.wr W45
  replace F_x_current := F_x_current.other W45 (Or.inr (slot_ne (Or.inl (w_223 hw)) (Or.inl (w_221 hw)) (by decide) (t := (.object "java/util/LinkedHashMap$Entry")) (t' := .int) (by decide) (by decide)))
  replace F_q_head := F_q_head.other W45 (Or.inl nq)
  replace F_q_modCount := F_q_modCount.other W45 (Or.inl nq)
  replace KK := KK.wr W45 (Or.inl (List.mem_of_getElem? (i := 0) rfl))
  replace F_x_this_0 := F_x_this_0.other W45 (Or.inr (slot_ne (Or.inr (w_209 hw)) (Or.inl (w_221 hw)) (by decide) (t := (.object "java/util/LinkedHashMap")) (t' := .int) (by decide) (by decide)))
  replace F_x_reversed := F_x_reversed.other W45 (Or.inr (slot_ne (Or.inl (w_212 hw)) (Or.inl (w_221 hw)) (by decide) (t := .boolean) (t' := .int) (by decide) (by decide)))
  replace F_x_next := F_x_next.other W45 (Or.inr (slot_ne (Or.inl (w_216 hw)) (Or.inl (w_221 hw)) (by decide) (t := (.object "java/util/LinkedHashMap$Entry")) (t' := .int) (by decide) (by decide)))
  clear F_x_expectedModCount; have F_x_expectedModCount := F45
  show Goes _ _ _ _ T45 (mkF m 41 #[.val (.ref x), .val (.ref q), .val (.int (0 : Int32))] [])
  clear Eo
  refine Goes.go (fun _ kS_ => XS.aloadN X45.here X45.ex rfl (hb hby d_jdk_2616_method_1_41) rfl rfl (XS.aconstNull X45.here X45.ex rfl (hb hby d_jdk_2616_method_1_42) kS_)) ?_
  show Goes _ _ _ _ T45 (mkF m 43 #[.val (.ref x), .val (.ref q), .val (.int (0 : Int32))] [.null, (.ref x)])
  have Eo := E_x
  refine Wk.putF (hm' := fun h' => h') X45 (host := "") (Or.inl (w_222 hw)) Via.refl F_x_current E_x (Or.inl (w_223 hw)) (w_196 hw) (ty := (.object "java/util/LinkedHashMap$Entry")) (by decide) rfl rfl gz_x (fun _ => Mark.anew (allS (Or.inr SafeA.nil) all0)) rfl rfl (hb hby d_jdk_2616_method_1_43) ?_
  intro T46 h46 X46 W46
  have F46 := F_x_current.same W46
  replace E_x := E_x.wr W46
  replace F_q_head := F_q_head.other W46 (Or.inl nq)
  replace F_q_modCount := F_q_modCount.other W46 (Or.inl nq)
  replace KK := KK.wr W46 (Or.inl (List.mem_of_getElem? (i := 0) rfl))
  replace F_x_this_0 := F_x_this_0.other W46 (Or.inr (slot_ne (Or.inr (w_209 hw)) (Or.inl (w_223 hw)) (by decide) (t := (.object "java/util/LinkedHashMap")) (t' := (.object "java/util/LinkedHashMap$Entry")) (by decide) (by decide)))
  replace F_x_reversed := F_x_reversed.other W46 (Or.inr (slot_ne (Or.inl (w_212 hw)) (Or.inl (w_223 hw)) (by decide) (t := .boolean) (t' := (.object "java/util/LinkedHashMap$Entry")) (by decide) (by decide)))
  replace F_x_next := F_x_next.other W46 (Or.inr (slot_ne (Or.inl (w_216 hw)) (Or.inl (w_223 hw)) (by decide) (t := (.object "java/util/LinkedHashMap$Entry")) (t' := (.object "java/util/LinkedHashMap$Entry")) (by decide) (by decide)))
  replace F_x_expectedModCount := F_x_expectedModCount.other W46 (Or.inr (slot_ne (Or.inl (w_221 hw)) (Or.inl (w_223 hw)) (by decide) (t := .int) (t' := (.object "java/util/LinkedHashMap$Entry")) (by decide) (by decide)))
  clear F_x_current; have F_x_current := F46
  show Goes _ _ _ _ T46 (mkF m 46 #[.val (.ref x), .val (.ref q), .val (.int (0 : Int32))] [])
  clear Eo
  refine Goes.outN X46 (fun _ => rfl) hlk (X46.rV hret (hb hby d_jdk_2616_method_1_46)) ?_ (by decide) (by decide)
  exact ⟨KK, rfl, E_x, F_x_next⟩
set_option maxRecDepth 65536 in
set_option maxHeartbeats 40000000 in
theorem own_it1 (l : Launch) (Z : State) (a0 : Array Value) (hw : ∀ d ∈ tables_1, d.before a0 Z = true) (h0 : Heap) (hO : Ext Z.heap h0) (x : Addr) (q : Addr) (E_x : Exa Z h0 x "java/util/LinkedHashMap$LinkedEntryIterator") (F_x_this_0 : Fld Z h0 x "java/util/LinkedHashMap$LinkedHashIterator" "this$0" "Ljava/util/LinkedHashMap;" .null) (F_x_reversed : Fld Z h0 x "java/util/LinkedHashMap$LinkedHashIterator" "reversed" "Z" (.int (0 : Int32))) (F_x_next : Fld Z h0 x "java/util/LinkedHashMap$LinkedHashIterator" "next" "Ljava/util/LinkedHashMap$Entry;" .null) (F_x_expectedModCount : Fld Z h0 x "java/util/LinkedHashMap$LinkedHashIterator" "expectedModCount" "I" (.int (0 : Int32))) (F_x_current : Fld Z h0 x "java/util/LinkedHashMap$LinkedHashIterator" "current" "Ljava/util/LinkedHashMap$Entry;" .null) (gz_x : Z.heap.size ≤ x) (F_q_head : Fld Z h0 q "java/util/LinkedHashMap" "head" "Ljava/util/LinkedHashMap$Entry;" .null) (F_q_modCount : Fld Z h0 q "java/util/HashMap" "modCount" "I" (.int (0 : Int32))) (nq : q ≠ x) :
    CtrN l Z (⟨"java/util/LinkedHashMap$LinkedEntryIterator", "<init>", "(Ljava/util/LinkedHashMap;Z)V"⟩ : MethodName) jdk_2615_method_1_code 3 none ({ frames := 2, cells := 0, slots := 0, locals := 26 } : Room) #[(.ref x), (.ref q), (.int (0 : Int32))] h0 (fun v h' => Keep h0 h' [x] ∧ v = none ∧ Exa Z h' x "java/util/LinkedHashMap$LinkedEntryIterator" ∧ Fld Z h' x "java/util/LinkedHashMap$LinkedHashIterator" "next" "Ljava/util/LinkedHashMap$Entry;" .null) := by
  refine CtrN.of (plainFor_of_name pn_7) hO ?_
  intro p e s m below meth cD_ T0 X0 hsh hby hml hret hlk hnm
  refine Goes.cast (ef_own_it1 m x q) ?_
  show Goes _ _ _ _ T0 (mkF m 0 #[.val (.ref x), .val (.ref q), .val (.int (0 : Int32))] [])
  refine Goes.go (fun _ kS_ => XS.aloadN X0.here X0.ex rfl (hb hby d_jdk_2615_method_1_0) rfl rfl (XS.aloadN X0.here X0.ex rfl (hb hby d_jdk_2615_method_1_1) rfl rfl (XS.iloadN X0.here X0.ex rfl (hb hby d_jdk_2615_method_1_2) rfl kS_))) ?_
  show Goes _ _ _ _ T0 (mkF m 3 #[.val (.ref x), .val (.ref q), .val (.int (0 : Int32))] [(.int (0 : Int32)), (.ref q), (.ref x)])
  refine Wk.special (hm' := fun h' => h') (y := (⟨"java/util/LinkedHashMap$LinkedHashIterator", "<init>", "(Ljava/util/LinkedHashMap;Z)V"⟩ : MethodName)) (W := 0) (kc := 0) (ks := 0) (argsL := [(.ref q), (.int (0 : Int32))]) (rest := []) (as' := #[(.ref x), (.ref q), (.int (0 : Int32))]) (ws := [x]) X0 rfl (w_202 hw) (w_203 hw) (w_207 hw) (by decide) (CtrN.pays (own_it0 l Z a0 hw h0 X0.old x q E_x F_x_this_0 F_x_reversed F_x_next F_x_expectedModCount F_x_current gz_x F_q_head F_q_modCount nq) (w_207 hw) (w_206 hw) (by decide) (by decide)) (fun v h' L q => ⟨q.2, q.1.1⟩) (allS gz_x all0) (fun _ => Mark.anew (allS (Or.inr SafeA.nil) all0)) rfl (by rw [hml]; rfl) (lenOf pd_1 rfl) rfl rfl (by show 2 * 0 + _ ≤ _; exact Nat.le_of_eq rfl) (hb hby d_jdk_2615_method_1_3) (by decide) (by decide) ?_
  intro T48 h48 v48 L48 X48 q48 K48
  obtain ⟨⟨-, rfl, a148, a248⟩, -⟩ := q48
  show Goes _ _ _ _ T48 (mkF m 6 #[.val (.ref x), .val (.ref q), .val (.int (0 : Int32))] [])
  refine Goes.outN X48 (fun _ => rfl) hlk (X48.rV hret (hb hby d_jdk_2615_method_1_6)) ?_ (by decide) (by decide)
  exact ⟨K48, rfl, a148, a248⟩
set_option maxRecDepth 65536 in
set_option maxHeartbeats 40000000 in
theorem own_iter (l : Launch) (Z : State) (a0 : Array Value) (hw : ∀ d ∈ tables_1, d.before a0 Z = true) (h0 : Heap) (hO : Ext Z.heap h0) (s1 : Addr) (q : Addr) (Ft : Fld Z h0 s1 "java/util/LinkedHashMap$LinkedEntrySet" "this$0" "Ljava/util/LinkedHashMap;" (.ref q)) (Fr : Fld Z h0 s1 "java/util/LinkedHashMap$LinkedEntrySet" "reversed" "Z" (.int (0 : Int32))) (F_q_head : Fld Z h0 q "java/util/LinkedHashMap" "head" "Ljava/util/LinkedHashMap$Entry;" .null) (F_q_modCount : Fld Z h0 q "java/util/HashMap" "modCount" "I" (.int (0 : Int32))) :
    CtrN l Z (⟨"java/util/LinkedHashMap$LinkedEntrySet", "iterator", "()Ljava/util/Iterator;"⟩ : MethodName) jdk_113_method_4_code 1 (some (.object "java/util/Iterator")) ({ frames := 3, cells := 1, slots := 5, locals := 41 } : Room) #[(.ref s1)] h0 (fun v h' => Keep h0 h' [] ∧ ∃ i, v = some (.ref i) ∧ Exa Z h' i "java/util/LinkedHashMap$LinkedEntryIterator" ∧ Fld Z h' i "java/util/LinkedHashMap$LinkedHashIterator" "next" "Ljava/util/LinkedHashMap$Entry;" .null) := by
  refine CtrN.of (plainFor_of_name pn_5) hO ?_
  intro p e s m below meth cD_ T0 X0 hsh hby hml hret hlk hnm
  refine Goes.cast (ef_own_iter m s1) ?_
  show Goes _ _ _ _ T0 (mkF m 0 #[.val (.ref s1)] [])
  refine Wk.new X0 (w_195 hw) (w_196 hw) (w_197 hw) rfl (hb hby d_jdk_113_method_4_0) (by decide) (by decide) ?_
  intro T53 h53 a53 g53 X53 E53 A53 D53
  have lt_s1_a53 : s1 < a53 := by rw [g53]; exact Ft.lt
  have lt_q_a53 : q < a53 := by rw [g53]; exact F_q_head.lt
  replace Ft := Ft.ext E53
  replace Fr := Fr.ext E53
  replace F_q_head := F_q_head.ext E53
  replace F_q_modCount := F_q_modCount.ext E53
  have gz_a53 : Z.heap.size ≤ a53 := g53 ▸ X0.old.1
  have gm_a53 : h0.size ≤ a53 := g53 ▸ X0.ext.1
  have F_a53_this_0 : Fld Z h53 a53 "java/util/LinkedHashMap$LinkedHashIterator" "this$0" "Ljava/util/LinkedHashMap;" .null := D53 (Or.inr (w_209 hw)) (ty := (.object "java/util/LinkedHashMap")) (by decide)
  have F_a53_reversed : Fld Z h53 a53 "java/util/LinkedHashMap$LinkedHashIterator" "reversed" "Z" (.int (0 : Int32)) := D53 (Or.inl (w_212 hw)) (ty := .boolean) (by decide)
  have F_a53_next : Fld Z h53 a53 "java/util/LinkedHashMap$LinkedHashIterator" "next" "Ljava/util/LinkedHashMap$Entry;" .null := D53 (Or.inl (w_216 hw)) (ty := (.object "java/util/LinkedHashMap$Entry")) (by decide)
  have F_a53_expectedModCount : Fld Z h53 a53 "java/util/LinkedHashMap$LinkedHashIterator" "expectedModCount" "I" (.int (0 : Int32)) := D53 (Or.inl (w_221 hw)) (ty := .int) (by decide)
  have F_a53_current : Fld Z h53 a53 "java/util/LinkedHashMap$LinkedHashIterator" "current" "Ljava/util/LinkedHashMap$Entry;" .null := D53 (Or.inl (w_223 hw)) (ty := (.object "java/util/LinkedHashMap$Entry")) (by decide)
  clear D53
  show Goes _ _ _ _ T53 (mkF m 3 #[.val (.ref s1)] [(.ref a53)])
  refine Goes.go (fun _ kS_ => XS.dup X53.here X53.ex rfl (hb hby d_jdk_113_method_4_3) rfl rfl (XS.aloadN X53.here X53.ex rfl (hb hby d_jdk_113_method_4_4) rfl rfl kS_)) ?_
  show Goes _ _ _ _ T53 (mkF m 5 #[.val (.ref s1)] [(.ref s1), (.ref a53), (.ref a53)])
  refine Wk.getF X53 (host := "") (Or.inl (w_169 hw)) Via.refl Ft rfl rfl (hb hby d_jdk_113_method_4_5) ?_
  intro T54 X54
  show Goes _ _ _ _ T54 (mkF m 8 #[.val (.ref s1)] [(.ref q), (.ref a53), (.ref a53)])
  refine Goes.go (fun _ kS_ => XS.aloadN X54.here X54.ex rfl (hb hby d_jdk_113_method_4_8) rfl rfl kS_) ?_
  show Goes _ _ _ _ T54 (mkF m 9 #[.val (.ref s1)] [(.ref s1), (.ref q), (.ref a53), (.ref a53)])
  refine Wk.getF X54 (host := "") (Or.inl (w_184 hw)) Via.refl Fr rfl rfl (hb hby d_jdk_113_method_4_9) ?_
  intro T55 X55
  show Goes _ _ _ _ T55 (mkF m 12 #[.val (.ref s1)] [(.int (0 : Int32)), (.ref q), (.ref a53), (.ref a53)])
  refine Wk.special (hm' := fun _ => h0) (y := (⟨"java/util/LinkedHashMap$LinkedEntryIterator", "<init>", "(Ljava/util/LinkedHashMap;Z)V"⟩ : MethodName)) (W := 1) (kc := 0) (ks := 0) (argsL := [(.ref q), (.int (0 : Int32))]) (rest := [(.ref a53)]) (as' := #[(.ref a53), (.ref q), (.int (0 : Int32))]) (ws := [a53]) X55 rfl (w_198 hw) (w_199 hw) (w_201 hw) (by decide) (CtrN.pays (own_it1 l Z a0 hw h53 X55.old a53 q A53 F_a53_this_0 F_a53_reversed F_a53_next F_a53_expectedModCount F_a53_current gz_a53 F_q_head F_q_modCount (Nat.ne_of_lt lt_q_a53)) (w_201 hw) (w_197 hw) (by decide) (by decide)) (fun v h' L q => ⟨q.2, q.1.1⟩) (allS gz_a53 all0) (fun _ => Mark.stay (allS gm_a53 all0)) rfl (by rw [hml]; rfl) (lenOf pd_1 rfl) rfl rfl (by show 2 * 0 + _ ≤ _; exact Nat.le_of_eq rfl) (hb hby d_jdk_113_method_4_12) (by decide) (by decide) ?_
  intro T56 h56 v56 L56 X56 q56 K56
  obtain ⟨⟨-, rfl, a156, a256⟩, -⟩ := q56
  show Goes _ _ _ _ T56 (mkF m 15 #[.val (.ref s1)] [(.ref a53)])
  refine Goes.outN X56 (fun q => by rw [hret] at q; cases q) hlk (X56.rA hret rfl rfl (hb hby d_jdk_113_method_4_15)) ?_ (by decide) (by decide)
  exact ⟨Ext.oKeepOf X56.ext [], a53, rfl, a156, a256⟩
set_option maxRecDepth 65536 in
set_option maxHeartbeats 40000000 in
theorem own_hn (l : Launch) (Z : State) (a0 : Array Value) (hw : ∀ d ∈ tables_1, d.before a0 Z = true) (h0 : Heap) (hO : Ext Z.heap h0) (i : Addr) (Fn : Fld Z h0 i "java/util/LinkedHashMap$LinkedHashIterator" "next" "Ljava/util/LinkedHashMap$Entry;" .null) :
    CtrN l Z (⟨"java/util/LinkedHashMap$LinkedHashIterator", "hasNext", "()Z"⟩ : MethodName) jdk_2616_method_2_code 1 (some .boolean) ({ frames := 0, cells := 0, slots := 0, locals := 0 } : Room) #[(.ref i)] h0 (fun v h' => Keep h0 h' [] ∧ v = some (.int (0 : Int32))) := by
  refine CtrN.of (plainFor_of_name pn_6) hO ?_
  intro p e s m below meth cD_ T0 X0 hsh hby hml hret hlk hnm
  refine Goes.cast (ef_own_hn m i) ?_
  show Goes _ _ _ _ T0 (mkF m 0 #[.val (.ref i)] [])
  refine Goes.go (fun _ kS_ => XS.aloadN X0.here X0.ex rfl (hb hby d_jdk_2616_method_2_0) rfl rfl kS_) ?_
  show Goes _ _ _ _ T0 (mkF m 1 #[.val (.ref i)] [(.ref i)])
  refine Wk.getF X0 (host := "") (Or.inl (w_215 hw)) Via.refl Fn rfl rfl (hb hby d_jdk_2616_method_2_1) ?_
  intro T58 X58
  show Goes _ _ _ _ T58 (mkF m 4 #[.val (.ref i)] [.null])
  refine Goes.go (fun _ kS_ => XS.ifnullYes X58.here X58.ex rfl (pc0 := 4) (pc' := 11) rfl (hb hby d_jdk_2616_method_2_4) rfl (by decide) (by decide) (XS.iconst X58.here X58.ex rfl (hb hby d_jdk_2616_method_2_11) kS_)) ?_
  show Goes _ _ _ _ T58 (mkF m 12 #[.val (.ref i)] [(.int (0 : Int32))])
  refine Goes.outN X58 (fun q => by rw [hret] at q; cases q) hlk (X58.rB hret (by simp) (hb hby d_jdk_2616_method_2_12)) ?_ (by decide) (by decide)
  exact ⟨Ext.oKeepOf X58.ext [], rfl⟩
set_option maxRecDepth 65536 in
set_option maxHeartbeats 40000000 in
theorem own_isL1 (l : Launch) (Z : State) (a0 : Array Value) (hw : ∀ d ∈ tables_1, d.before a0 Z = true) (h0 : Heap) (hO : Ext Z.heap h0) (x : Addr) (G1 : Int32) (O2 : Sta Z Z.heap "java/lang/String" "COMPACT_STRINGS" "Z" (.int G1)) (P5 : ¬ (G1 = (0 : Int32))) (C_x : Fld Z h0 x "java/lang/String" "coder" "B" (.int (0 : Int32))) :
    CtrN l Z (⟨"java/lang/String", "isLatin1", "()Z"⟩ : MethodName) jdk_42_method_154_code 1 (some .boolean) ({ frames := 0, cells := 0, slots := 0, locals := 0 } : Room) #[(.ref x)] h0 (fun v h' => Keep h0 h' [] ∧ v = some (.int (1 : Int32))) := by
  refine CtrN.of (plainFor_of_name pn_8) hO ?_
  intro p e s m below meth cD_ T0 X0 hsh hby hml hret hlk hnm
  refine Goes.cast (ef_own_isL1 m x) ?_
  show Goes _ _ _ _ T0 (mkF m 0 #[.val (.ref x)] [])
  refine Wk.getS X0 (host := "") (Or.inl (w_14 hw)) Via.refl O2 rfl (hb hby d_jdk_42_method_154_0) ?_
  intro T61 X61
  show Goes _ _ _ _ T61 (mkF m 3 #[.val (.ref x)] [(.int G1)])
  refine Goes.go (fun _ kS_ => XS.ifNo X61.here X61.ex rfl (hb hby d_jdk_42_method_154_3) rfl ((if0 _ _).trans (cd_f (cd := .eq) (x := G1) (y := (0 : Int32)) (P5))) kS_) ?_
  show Goes _ _ _ _ T61 (mkF m 6 #[.val (.ref x)] [])
  refine Goes.go (fun _ kS_ => XS.aloadN X61.here X61.ex rfl (hb hby d_jdk_42_method_154_6) rfl rfl kS_) ?_
  show Goes _ _ _ _ T61 (mkF m 7 #[.val (.ref x)] [(.ref x)])
  refine Wk.getF X61 (host := "") (Or.inl (w_26 hw)) Via.refl C_x rfl rfl (hb hby d_jdk_42_method_154_7) ?_
  intro T62 X62
  show Goes _ _ _ _ T62 (mkF m 10 #[.val (.ref x)] [(.int (0 : Int32))])
  refine Goes.go (fun _ kS_ => XS.ifNo X62.here X62.ex rfl (hb hby d_jdk_42_method_154_10) rfl ((if0 _ _).trans (cd_f (cd := .ne) (x := (0 : Int32)) (y := (0 : Int32)) (by decide))) (XS.iconst X62.here X62.ex rfl (hb hby d_jdk_42_method_154_13) (XS.goto X62.here X62.ex rfl (pc0 := 14) (pc' := 18) rfl (hb hby d_jdk_42_method_154_14) (by decide) (by decide) kS_))) ?_
  show Goes _ _ _ _ T62 (mkF m 18 #[.val (.ref x)] [(.int (1 : Int32))])
  refine Goes.outN X62 (fun q => by rw [hret] at q; cases q) hlk (X62.rB hret (by simp) (hb hby d_jdk_42_method_154_18)) ?_ (by decide) (by decide)
  exact ⟨Ext.oKeepOf X62.ext [], rfl⟩
set_option maxRecDepth 65536 in
set_option maxHeartbeats 40000000 in
theorem own_gch (l : Launch) (Z : State) (a0 : Array Value) (hw : ∀ d ∈ tables_1, d.before a0 Z = true) (h0 : Heap) (hO : Ext Z.heap h0) (t : Addr) (kb : ClassId) (c1 : Int32) (V_t : Arv Z h0 t kb .byte (2 : Int32) [(.int ((110 : Int32).toInt8.toInt32)), (.int (c1.toInt8.toInt32))] (.int (0 : Int32))) :
    CtrN l Z (⟨"java/lang/StringLatin1", "getChar", "([BI)C"⟩ : MethodName) jdk_43_method_44_code 2 (some .char) ({ frames := 0, cells := 0, slots := 0, locals := 0 } : Room) #[(.ref t), (.int (0 : Int32))] h0 (fun v h' => Keep h0 h' [] ∧ v = some (.int (110 : Int32))) := by
  refine CtrN.of (plainFor_of_name pn_9) hO ?_
  intro p e s m below meth cD_ T0 X0 hsh hby hml hret hlk hnm
  refine Goes.cast (ef_own_gch m t) ?_
  show Goes _ _ _ _ T0 (mkF m 0 #[.val (.ref t), .val (.int (0 : Int32))] [])
  refine Goes.go (fun _ kS_ => XS.aloadN X0.here X0.ex rfl (hb hby d_jdk_43_method_44_0) rfl rfl (XS.iloadN X0.here X0.ex rfl (hb hby d_jdk_43_method_44_1) rfl kS_)) ?_
  show Goes _ _ _ _ T0 (mkF m 2 #[.val (.ref t), .val (.int (0 : Int32))] [(.int (0 : Int32)), (.ref t)])
  refine Goes.go (X0.baload V_t ⟨by decide, by decide⟩ (v := .int (110 : Int32)) rfl rfl rfl (hb hby d_jdk_43_method_44_2)) ?_
  show Goes _ _ _ _ T0 (mkF m 3 #[.val (.ref t), .val (.int (0 : Int32))] [(.int (110 : Int32))])
  refine Goes.go (fun _ kS_ => XS.sipush X0.here X0.ex rfl (hb hby d_jdk_43_method_44_3) (XS.iand X0.here X0.ex rfl (hb hby d_jdk_43_method_44_6) rfl kS_)) ?_
  show Goes _ _ _ _ T0 (mkF m 7 #[.val (.ref t), .val (.int (0 : Int32))] [(.int ((110 : Int32) &&& (255 : Int32)))])
  refine Goes.cast (congrArg (fun zq_ => (mkF m 7 #[.val (.ref t), .val (.int (0 : Int32))] [(.int zq_)])) (show (((110 : Int32) &&& (255 : Int32)) : Int32) = (110 : Int32) from by decide)) ?_
  show Goes _ _ _ _ T0 (mkF m 7 #[.val (.ref t), .val (.int (0 : Int32))] [(.int (110 : Int32))])
  refine Goes.go (fun _ kS_ => XS.i2c X0.here X0.ex rfl (hb hby d_jdk_43_method_44_7) rfl kS_) ?_
  show Goes _ _ _ _ T0 (mkF m 8 #[.val (.ref t), .val (.int (0 : Int32))] [(.int ((110 : Int32).toUInt32.toUInt16.toUInt32.toInt32))])
  refine Goes.cast (congrArg (fun zq_ => (mkF m 8 #[.val (.ref t), .val (.int (0 : Int32))] [(.int zq_)])) (show (((110 : Int32).toUInt32.toUInt16.toUInt32.toInt32) : Int32) = (110 : Int32) from by decide)) ?_
  show Goes _ _ _ _ T0 (mkF m 8 #[.val (.ref t), .val (.int (0 : Int32))] [(.int (110 : Int32))])
  refine Goes.outN X0 (fun q => by rw [hret] at q; cases q) hlk (X0.rB hret (by simp) (hb hby d_jdk_43_method_44_8)) ?_ (by decide) (by decide)
  exact ⟨Ext.oKeepOf X0.ext [], rfl⟩
set_option maxRecDepth 65536 in
set_option maxHeartbeats 40000000 in
theorem own_prp (l : Launch) (Z : State) (a0 : Array Value) (hw : ∀ d ∈ tables_1, d.before a0 Z = true) (h0 : Heap) (hO : Ext Z.heap h0) (ci : Addr) (aA : Addr) (clA : Cell) (OI : Sta Z Z.heap "java/lang/CharacterDataLatin1" "instance" "Ljava/lang/CharacterDataLatin1;" (.ref ci)) (EI : Exa Z Z.heap ci "java/lang/CharacterDataLatin1") (OQ : Sta Z Z.heap "java/lang/CharacterDataLatin1" "A" "[I" (.ref aA)) (AA : Arr Z Z.heap aA clA .int) (hA : clA.slots[110]? = some (.int (8486882 : Int32))) (hA2 : 110 < clA.slots.size) :
    CtrN l Z (⟨"java/lang/CharacterDataLatin1", "getProperties", "(I)I"⟩ : MethodName) jdk_116_method_1_code 4 (some .int) ({ frames := 0, cells := 0, slots := 0, locals := 0 } : Room) #[(.ref ci), (.int (110 : Int32))] h0 (fun v h' => Keep h0 h' [] ∧ v = some (.int (8486882 : Int32))) := by
  refine CtrN.of (plainFor_of_name pn_10) hO ?_
  intro p e s m below meth cD_ T0 X0 hsh hby hml hret hlk hnm
  refine Goes.cast (ef_own_prp m ci) ?_
  show Goes _ _ _ _ T0 (mkF m 0 #[.val (.ref ci), .val (.int (110 : Int32)), .unset, .unset] [])
  refine Goes.go (fun _ kS_ => XS.iloadN X0.here X0.ex rfl (hb hby d_jdk_116_method_1_0) rfl (XS.i2c X0.here X0.ex rfl (hb hby d_jdk_116_method_1_1) rfl kS_)) ?_
  show Goes _ _ _ _ T0 (mkF m 2 #[.val (.ref ci), .val (.int (110 : Int32)), .unset, .unset] [(.int ((110 : Int32).toUInt32.toUInt16.toUInt32.toInt32))])
  refine Goes.cast (congrArg (fun zq_ => (mkF m 2 #[.val (.ref ci), .val (.int (110 : Int32)), .unset, .unset] [(.int zq_)])) (show (((110 : Int32).toUInt32.toUInt16.toUInt32.toInt32) : Int32) = (110 : Int32) from by decide)) ?_
  show Goes _ _ _ _ T0 (mkF m 2 #[.val (.ref ci), .val (.int (110 : Int32)), .unset, .unset] [(.int (110 : Int32))])
  refine Goes.go (fun _ kS_ => XS.istoreN X0.here X0.ex rfl (hb hby d_jdk_116_method_1_2) rfl (l' := #[.val (.ref ci), .val (.int (110 : Int32)), .val (.int (110 : Int32)), .unset]) rfl kS_) ?_
  show Goes _ _ _ _ T0 (mkF m 3 #[.val (.ref ci), .val (.int (110 : Int32)), .val (.int (110 : Int32)), .unset] [])
  refine Wk.getS X0 (host := "") (Or.inl (w_132 hw)) Via.refl OQ rfl (hb hby d_jdk_116_method_1_3) ?_
  intro T64 X64
  show Goes _ _ _ _ T64 (mkF m 6 #[.val (.ref ci), .val (.int (110 : Int32)), .val (.int (110 : Int32)), .unset] [(.ref aA)])
  refine Goes.go (fun _ kS_ => XS.iloadN X64.here X64.ex rfl (hb hby d_jdk_116_method_1_6) rfl kS_) ?_
  show Goes _ _ _ _ T64 (mkF m 7 #[.val (.ref ci), .val (.int (110 : Int32)), .val (.int (110 : Int32)), .unset] [(.int (110 : Int32)), (.ref aA)])
  refine Goes.go (X64.iaload (Arr.ext X64.old AA) (j := 110) (fun q => q.elim (by decide) (Nat.not_le_of_lt hA2)) (v := .int (8486882 : Int32)) hA rfl rfl (hb hby d_jdk_116_method_1_7)) ?_
  show Goes _ _ _ _ T64 (mkF m 8 #[.val (.ref ci), .val (.int (110 : Int32)), .val (.int (110 : Int32)), .unset] [(.int (8486882 : Int32))])
  refine Goes.go (fun _ kS_ => XS.istoreN X64.here X64.ex rfl (hb hby d_jdk_116_method_1_8) rfl (l' := #[.val (.ref ci), .val (.int (110 : Int32)), .val (.int (110 : Int32)), .val (.int (8486882 : Int32))]) rfl (XS.iloadN X64.here X64.ex rfl (hb hby d_jdk_116_method_1_9) rfl kS_)) ?_
  show Goes _ _ _ _ T64 (mkF m 10 #[.val (.ref ci), .val (.int (110 : Int32)), .val (.int (110 : Int32)), .val (.int (8486882 : Int32))] [(.int (8486882 : Int32))])
  refine Goes.outN X64 (fun q => by rw [hret] at q; cases q) hlk (X64.rI hret (hb hby d_jdk_116_method_1_10)) ?_ (by decide) (by decide)
  exact ⟨Ext.oKeepOf X64.ext [], rfl⟩
set_option maxRecDepth 65536 in
set_option maxHeartbeats 40000000 in
theorem own_isw (l : Launch) (Z : State) (a0 : Array Value) (hw : ∀ d ∈ tables_1, d.before a0 Z = true) (h0 : Heap) (hO : Ext Z.heap h0) (ci : Addr) (aA : Addr) (clA : Cell) (OI : Sta Z Z.heap "java/lang/CharacterDataLatin1" "instance" "Ljava/lang/CharacterDataLatin1;" (.ref ci)) (EI : Exa Z Z.heap ci "java/lang/CharacterDataLatin1") (OQ : Sta Z Z.heap "java/lang/CharacterDataLatin1" "A" "[I" (.ref aA)) (AA : Arr Z Z.heap aA clA .int) (hA : clA.slots[110]? = some (.int (8486882 : Int32))) (hA2 : 110 < clA.slots.size) :
    CtrN l Z (⟨"java/lang/CharacterDataLatin1", "isWhitespace", "(I)Z"⟩ : MethodName) jdk_116_method_26_code 3 (some .boolean) ({ frames := 1, cells := 0, slots := 0, locals := 15 } : Room) #[(.ref ci), (.int (110 : Int32))] h0 (fun v h' => Keep h0 h' [] ∧ v = some (.int (0 : Int32))) := by
  refine CtrN.of (plainFor_of_name pn_10) hO ?_
  intro p e s m below meth cD_ T0 X0 hsh hby hml hret hlk hnm
  refine Goes.cast (ef_own_isw m ci) ?_
  show Goes _ _ _ _ T0 (mkF m 0 #[.val (.ref ci), .val (.int (110 : Int32)), .unset] [])
  refine Goes.go (fun _ kS_ => XS.aloadN X0.here X0.ex rfl (hb hby d_jdk_116_method_26_0) rfl rfl (XS.iloadN X0.here X0.ex rfl (hb hby d_jdk_116_method_26_1) rfl kS_)) ?_
  show Goes _ _ _ _ T0 (mkF m 2 #[.val (.ref ci), .val (.int (110 : Int32)), .unset] [(.int (110 : Int32)), (.ref ci)])
  refine Wk.virtual (hm' := fun _ => h0) (C := "java/lang/CharacterDataLatin1") (y := (⟨"java/lang/CharacterDataLatin1", "getProperties", "(I)I"⟩ : MethodName)) (z := (⟨"java/lang/CharacterDataLatin1", "getProperties", "(I)I"⟩ : MethodName)) (W := 0) (kc := 0) (ks := 0) (argsL := [(.int (110 : Int32))]) (rest := []) (as' := #[(.ref ci), (.int (110 : Int32))]) (ws := []) X0 (w_127 hw) (w_128 hw) (w_130 hw) (w_129 hw) (by decide) (EI.ext X0.old) (nf_sel (w_130 hw)) (CtrN.pays (own_prp l Z a0 hw h0 X0.old ci aA clA OI EI OQ AA hA hA2) (w_131 hw) (w_121 hw) (by decide) (by decide)) (fun v h' L q => ⟨q.2, q.1.1⟩) all0 (fun _ => Mark.stay all0) rfl (by rw [hml]; rfl) (lenOf pd_3 rfl) rfl rfl (by show 2 * 0 + _ ≤ _; exact Nat.le_of_eq rfl) (hb hby d_jdk_116_method_26_2) (by decide) (by decide) ?_
  intro T66 h66 v66 L66 X66 q66 K66
  obtain ⟨⟨-, rfl⟩, -⟩ := q66
  show Goes _ _ _ _ T66 (mkF m 5 #[.val (.ref ci), .val (.int (110 : Int32)), .unset] [(.int (8486882 : Int32))])
  refine Goes.go (fun _ kS_ => XS.istoreN X66.here X66.ex rfl (hb hby d_jdk_116_method_26_5) rfl (l' := #[.val (.ref ci), .val (.int (110 : Int32)), .val (.int (8486882 : Int32))]) rfl (XS.iloadN X66.here X66.ex rfl (hb hby d_jdk_116_method_26_6) rfl (XS.sipush X66.here X66.ex rfl (hb hby d_jdk_116_method_26_7) (XS.iand X66.here X66.ex rfl (hb hby d_jdk_116_method_26_10) rfl kS_)))) ?_
  show Goes _ _ _ _ T66 (mkF m 11 #[.val (.ref ci), .val (.int (110 : Int32)), .val (.int (8486882 : Int32))] [(.int ((8486882 : Int32) &&& (28672 : Int32)))])
  refine Goes.cast (congrArg (fun zq_ => (mkF m 11 #[.val (.ref ci), .val (.int (110 : Int32)), .val (.int (8486882 : Int32))] [(.int zq_)])) (show (((8486882 : Int32) &&& (28672 : Int32)) : Int32) = (28672 : Int32) from by decide)) ?_
  show Goes _ _ _ _ T66 (mkF m 11 #[.val (.ref ci), .val (.int (110 : Int32)), .val (.int (8486882 : Int32))] [(.int (28672 : Int32))])
  refine Goes.go (fun _ kS_ => XS.sipush X66.here X66.ex rfl (hb hby d_jdk_116_method_26_11) (XS.icmpYes X66.here X66.ex rfl (pc0 := 14) (pc' := 21) rfl (hb hby d_jdk_116_method_26_14) rfl (cd_t (cd := .ne) (x := (28672 : Int32)) (y := (16384 : Int32)) (by decide)) (by decide) (by decide) (XS.iconst X66.here X66.ex rfl (hb hby d_jdk_116_method_26_21) kS_))) ?_
  show Goes _ _ _ _ T66 (mkF m 22 #[.val (.ref ci), .val (.int (110 : Int32)), .val (.int (8486882 : Int32))] [(.int (0 : Int32))])
  refine Goes.outN X66 (fun q => by rw [hret] at q; cases q) hlk (X66.rB hret (by simp) (hb hby d_jdk_116_method_26_22)) ?_ (by decide) (by decide)
  exact ⟨Ext.oKeepOf X66.ext [], rfl⟩
set_option maxRecDepth 65536 in
set_option maxHeartbeats 40000000 in
theorem own_l1w (l : Launch) (Z : State) (a0 : Array Value) (hw : ∀ d ∈ tables_1, d.before a0 Z = true) (h0 : Heap) (hO : Ext Z.heap h0) (t : Addr) (kb : ClassId) (c1 : Int32) (ci : Addr) (aA : Addr) (clA : Cell) (V_t : Arv Z h0 t kb .byte (2 : Int32) [(.int ((110 : Int32).toInt8.toInt32)), (.int (c1.toInt8.toInt32))] (.int (0 : Int32))) (OI : Sta Z Z.heap "java/lang/CharacterDataLatin1" "instance" "Ljava/lang/CharacterDataLatin1;" (.ref ci)) (EI : Exa Z Z.heap ci "java/lang/CharacterDataLatin1") (OQ : Sta Z Z.heap "java/lang/CharacterDataLatin1" "A" "[I" (.ref aA)) (AA : Arr Z Z.heap aA clA .int) (hA : clA.slots[110]? = some (.int (8486882 : Int32))) (hA2 : 110 < clA.slots.size) :
    CtrN l Z (⟨"java/lang/StringLatin1", "indexOfNonWhitespace", "([B)I"⟩ : MethodName) jdk_43_method_37_code 4 (some .int) ({ frames := 2, cells := 0, slots := 0, locals := 29 } : Room) #[(.ref t)] h0 (fun v h' => Keep h0 h' [] ∧ v = some (.int (0 : Int32))) := by
  refine CtrN.of (plainFor_of_name pn_9) hO ?_
  intro p e s m below meth cD_ T0 X0 hsh hby hml hret hlk hnm
  refine Goes.cast (ef_own_l1w m t) ?_
  show Goes _ _ _ _ T0 (mkF m 0 #[.val (.ref t), .unset, .unset, .unset] [])
  refine Goes.go (fun _ kS_ => XS.aloadN X0.here X0.ex rfl (hb hby d_jdk_43_method_37_0) rfl rfl kS_) ?_
  show Goes _ _ _ _ T0 (mkF m 1 #[.val (.ref t), .unset, .unset, .unset] [(.ref t)])
  refine Goes.go (X0.alen V_t rfl rfl (hb hby d_jdk_43_method_37_1)) ?_
  show Goes _ _ _ _ T0 (mkF m 2 #[.val (.ref t), .unset, .unset, .unset] [(.int (2 : Int32))])
  refine Goes.go (fun _ kS_ => XS.istoreN X0.here X0.ex rfl (hb hby d_jdk_43_method_37_2) rfl (l' := #[.val (.ref t), .val (.int (2 : Int32)), .unset, .unset]) rfl (XS.iconst X0.here X0.ex rfl (hb hby d_jdk_43_method_37_3) (XS.istoreN X0.here X0.ex rfl (hb hby d_jdk_43_method_37_4) rfl (l' := #[.val (.ref t), .val (.int (2 : Int32)), .val (.int (0 : Int32)), .unset]) rfl (XS.iloadN X0.here X0.ex rfl (hb hby d_jdk_43_method_37_5) rfl (XS.iloadN X0.here X0.ex rfl (hb hby d_jdk_43_method_37_6) rfl (XS.icmpNo X0.here X0.ex rfl (hb hby d_jdk_43_method_37_7) rfl (cd_f (cd := .ge) (x := (0 : Int32)) (y := (2 : Int32)) (by decide)) kS_)))))) ?_
  show Goes _ _ _ _ T0 (mkF m 10 #[.val (.ref t), .val (.int (2 : Int32)), .val (.int (0 : Int32)), .unset] [])
  refine Goes.go (fun _ kS_ => XS.aloadN X0.here X0.ex rfl (hb hby d_jdk_43_method_37_10) rfl rfl (XS.iloadN X0.here X0.ex rfl (hb hby d_jdk_43_method_37_11) rfl kS_)) ?_
  show Goes _ _ _ _ T0 (mkF m 12 #[.val (.ref t), .val (.int (2 : Int32)), .val (.int (0 : Int32)), .unset] [(.int (0 : Int32)), (.ref t)])
  refine Wk.static (hm' := fun _ => h0) (y := (⟨"java/lang/StringLatin1", "getChar", "([BI)C"⟩ : MethodName)) (W := 0) (kc := 0) (ks := 0) (argsL := [(.ref t), (.int (0 : Int32))]) (rest := []) (as' := #[(.ref t), (.int (0 : Int32))]) (ws := []) X0 (w_117 hw) (w_118 hw) (w_115 hw) (w_119 hw) (by decide) (CtrN.pays (own_gch l Z a0 hw h0 X0.old t kb c1 V_t) (w_119 hw) (w_115 hw) (by decide) (by decide)) (fun v h' L q => ⟨q.2, q.1.1⟩) all0 (fun _ => Mark.stay all0) rfl (by rw [hml]; rfl) (lenOf pd_4 rfl) rfl rfl (by show 2 * 0 + _ ≤ _; exact Nat.le_of_eq rfl) (hb hby d_jdk_43_method_37_12) (by decide) (by decide) ?_
  intro T70 h70 v70 L70 X70 q70 K70
  obtain ⟨⟨-, rfl⟩, -⟩ := q70
  replace V_t := V_t.ext K70.oExt
  show Goes _ _ _ _ T70 (mkF m 15 #[.val (.ref t), .val (.int (2 : Int32)), .val (.int (0 : Int32)), .unset] [(.int (110 : Int32))])
  refine Goes.go (fun _ kS_ => XS.istoreN X70.here X70.ex rfl (hb hby d_jdk_43_method_37_15) rfl (l' := #[.val (.ref t), .val (.int (2 : Int32)), .val (.int (0 : Int32)), .val (.int (110 : Int32))]) rfl (XS.iloadN X70.here X70.ex rfl (hb hby d_jdk_43_method_37_16) rfl (XS.bipush X70.here X70.ex rfl (hb hby d_jdk_43_method_37_17) (XS.icmpNo X70.here X70.ex rfl (hb hby d_jdk_43_method_37_19) rfl (cd_f (cd := .eq) (x := (110 : Int32)) (y := (32 : Int32)) (by decide)) (XS.iloadN X70.here X70.ex rfl (hb hby d_jdk_43_method_37_22) rfl (XS.bipush X70.here X70.ex rfl (hb hby d_jdk_43_method_37_23) kS_)))))) ?_
  show Goes _ _ _ _ T70 (mkF m 25 #[.val (.ref t), .val (.int (2 : Int32)), .val (.int (0 : Int32)), .val (.int (110 : Int32))] [(.int (9 : Int32)), (.int (110 : Int32))])
  refine Goes.go (fun _ kS_ => XS.icmpNo X70.here X70.ex rfl (hb hby d_jdk_43_method_37_25) rfl (cd_f (cd := .eq) (x := (110 : Int32)) (y := (9 : Int32)) (by decide)) kS_) ?_
  show Goes _ _ _ _ T70 (mkF m 28 #[.val (.ref t), .val (.int (2 : Int32)), .val (.int (0 : Int32)), .val (.int (110 : Int32))] [])
  refine Wk.getS X70 (host := "") (Or.inl (w_120 hw)) Via.refl OI rfl (hb hby d_jdk_43_method_37_28) ?_
  intro T71 X71
  show Goes _ _ _ _ T71 (mkF m 31 #[.val (.ref t), .val (.int (2 : Int32)), .val (.int (0 : Int32)), .val (.int (110 : Int32))] [(.ref ci)])
  refine Goes.go (fun _ kS_ => XS.iloadN X71.here X71.ex rfl (hb hby d_jdk_43_method_37_31) rfl kS_) ?_
  show Goes _ _ _ _ T71 (mkF m 32 #[.val (.ref t), .val (.int (2 : Int32)), .val (.int (0 : Int32)), .val (.int (110 : Int32))] [(.int (110 : Int32)), (.ref ci)])
  refine Wk.virtual (hm' := fun _ => h0) (C := "java/lang/CharacterDataLatin1") (y := (⟨"java/lang/CharacterDataLatin1", "isWhitespace", "(I)Z"⟩ : MethodName)) (z := (⟨"java/lang/CharacterDataLatin1", "isWhitespace", "(I)Z"⟩ : MethodName)) (W := 0) (kc := 0) (ks := 0) (argsL := [(.int (110 : Int32))]) (rest := []) (as' := #[(.ref ci), (.int (110 : Int32))]) (ws := []) X71 (w_122 hw) (w_123 hw) (w_125 hw) (w_124 hw) (by decide) (EI.ext X71.old) (nf_sel (w_125 hw)) (CtrN.pays (own_isw l Z a0 hw h70 X71.old ci aA clA OI EI OQ AA hA hA2) (w_126 hw) (w_121 hw) (by decide) (by decide)) (fun v h' L q => ⟨q.2, q.1.1⟩) all0 (fun _ => Mark.stay all0) rfl (by rw [hml]; rfl) (lenOf pd_5 rfl) rfl rfl (by show 2 * 0 + _ ≤ _; exact Nat.le_of_eq rfl) (hb hby d_jdk_43_method_37_32) (by decide) (by decide) ?_
  intro T72 h72 v72 L72 X72 q72 K72
  obtain ⟨⟨-, rfl⟩, -⟩ := q72
  replace V_t := V_t.ext K72.oExt
  show Goes _ _ _ _ T72 (mkF m 35 #[.val (.ref t), .val (.int (2 : Int32)), .val (.int (0 : Int32)), .val (.int (110 : Int32))] [(.int (0 : Int32))])
  refine Goes.go (fun _ kS_ => XS.ifNo X72.here X72.ex rfl (hb hby d_jdk_43_method_37_35) rfl ((if0 _ _).trans (cd_f (cd := .ne) (x := (0 : Int32)) (y := (0 : Int32)) (by decide))) (XS.goto X72.here X72.ex rfl (pc0 := 38) (pc' := 47) rfl (hb hby d_jdk_43_method_37_38) (by decide) (by decide) (XS.iloadN X72.here X72.ex rfl (hb hby d_jdk_43_method_37_47) rfl kS_))) ?_
  show Goes _ _ _ _ T72 (mkF m 48 #[.val (.ref t), .val (.int (2 : Int32)), .val (.int (0 : Int32)), .val (.int (110 : Int32))] [(.int (0 : Int32))])
  refine Goes.outN X72 (fun q => by rw [hret] at q; cases q) hlk (X72.rI hret (hb hby d_jdk_43_method_37_48)) ?_ (by decide) (by decide)
  exact ⟨Ext.oKeepOf X72.ext [], rfl⟩
set_option maxRecDepth 65536 in
set_option maxHeartbeats 40000000 in
theorem own_inw (l : Launch) (Z : State) (a0 : Array Value) (hw : ∀ d ∈ tables_1, d.before a0 Z = true) (h0 : Heap) (hO : Ext Z.heap h0) (x : Addr) (c1 : Int32) (G1 : Int32) (ci : Addr) (aA : Addr) (clA : Cell) (O2 : Sta Z Z.heap "java/lang/String" "COMPACT_STRINGS" "Z" (.int G1)) (P5 : ¬ (G1 = (0 : Int32))) (OI : Sta Z Z.heap "java/lang/CharacterDataLatin1" "instance" "Ljava/lang/CharacterDataLatin1;" (.ref ci)) (EI : Exa Z Z.heap ci "java/lang/CharacterDataLatin1") (OQ : Sta Z Z.heap "java/lang/CharacterDataLatin1" "A" "[I" (.ref aA)) (AA : Arr Z Z.heap aA clA .int) (hA : clA.slots[110]? = some (.int (8486882 : Int32))) (hA2 : 110 < clA.slots.size) (S_x : LStr Z h0 x [(110 : Int32), c1]) :
    CtrN l Z (⟨"java/lang/String", "indexOfNonWhitespace", "()I"⟩ : MethodName) jdk_42_method_120_code 1 (some .int) ({ frames := 3, cells := 0, slots := 0, locals := 44 } : Room) #[(.ref x)] h0 (fun v h' => Keep h0 h' [] ∧ v = some (.int (0 : Int32))) := by
  refine CtrN.of (plainFor_of_name pn_8) hO ?_
  intro p e s m below meth cD_ T0 X0 hsh hby hml hret hlk hnm
  refine Goes.cast (ef_own_inw m x) ?_
  show Goes _ _ _ _ T0 (mkF m 0 #[.val (.ref x)] [])
  obtain ⟨Es77, Cs77, ⟨t77, kb77, Vs77, Ks77⟩, hp77, hl77⟩ := id S_x
  refine Goes.go (fun _ kS_ => XS.aloadN X0.here X0.ex rfl (hb hby d_jdk_42_method_120_0) rfl rfl kS_) ?_
  show Goes _ _ _ _ T0 (mkF m 1 #[.val (.ref x)] [(.ref x)])
  refine Wk.virtual (hm' := fun _ => h0) (C := "java/lang/String") (y := (⟨"java/lang/String", "isLatin1", "()Z"⟩ : MethodName)) (z := (⟨"java/lang/String", "isLatin1", "()Z"⟩ : MethodName)) (W := 0) (kc := 0) (ks := 0) (argsL := []) (rest := []) (as' := #[(.ref x)]) (ws := []) X0 (w_108 hw) (w_109 hw) (w_111 hw) (w_110 hw) (by decide) Es77 (nf_sel (w_111 hw)) (CtrN.pays (own_isL1 l Z a0 hw h0 X0.old x G1 O2 P5 Cs77) (w_112 hw) (w_3 hw) (by decide) (by decide)) (fun v h' L q => ⟨q.2, q.1.1⟩) all0 (fun _ => Mark.stay all0) rfl (by rw [hml]; rfl) (lenOf pd_6 rfl) rfl rfl (by show 2 * 0 + _ ≤ _; exact Nat.le_of_eq rfl) (hb hby d_jdk_42_method_120_1) (by decide) (by decide) ?_
  intro T78 h78 v78 L78 X78 q78 K78
  obtain ⟨⟨-, rfl⟩, -⟩ := q78
  replace Es77 := Es77.ext K78.oExt
  replace Cs77 := Cs77.ext K78.oExt
  replace Vs77 := Vs77.ext K78.oExt
  replace Ks77 := Ks77.ext K78.oExt
  show Goes _ _ _ _ T78 (mkF m 4 #[.val (.ref x)] [(.int (1 : Int32))])
  refine Goes.go (fun _ kS_ => XS.ifNo X78.here X78.ex rfl (hb hby d_jdk_42_method_120_4) rfl ((if0 _ _).trans (cd_f (cd := .eq) (x := (1 : Int32)) (y := (0 : Int32)) (by decide))) (XS.aloadN X78.here X78.ex rfl (hb hby d_jdk_42_method_120_7) rfl rfl kS_)) ?_
  show Goes _ _ _ _ T78 (mkF m 8 #[.val (.ref x)] [(.ref x)])
  refine Wk.getF X78 (host := "") (Or.inl (w_28 hw)) Via.refl Vs77 rfl rfl (hb hby d_jdk_42_method_120_8) ?_
  intro T79 X79
  show Goes _ _ _ _ T79 (mkF m 11 #[.val (.ref x)] [(.ref t77)])
  refine Wk.static (hm' := fun _ => h0) (y := (⟨"java/lang/StringLatin1", "indexOfNonWhitespace", "([B)I"⟩ : MethodName)) (W := 0) (kc := 0) (ks := 0) (argsL := [(.ref t77)]) (rest := []) (as' := #[(.ref t77)]) (ws := []) X79 (w_113 hw) (w_114 hw) (w_115 hw) (w_116 hw) (by decide) (CtrN.pays (own_l1w l Z a0 hw h78 X79.old t77 kb77 c1 ci aA clA Ks77 OI EI OQ AA hA hA2) (w_116 hw) (w_115 hw) (by decide) (by decide)) (fun v h' L q => ⟨q.2, q.1.1⟩) all0 (fun _ => Mark.stay all0) rfl (by rw [hml]; rfl) (lenOf pd_7 rfl) rfl rfl (by show 2 * 0 + _ ≤ _; exact Nat.le_of_eq rfl) (hb hby d_jdk_42_method_120_11) (by decide) (by decide) ?_
  intro T80 h80 v80 L80 X80 q80 K80
  obtain ⟨⟨-, rfl⟩, -⟩ := q80
  replace Es77 := Es77.ext K80.oExt
  replace Cs77 := Cs77.ext K80.oExt
  replace Vs77 := Vs77.ext K80.oExt
  replace Ks77 := Ks77.ext K80.oExt
  show Goes _ _ _ _ T80 (mkF m 14 #[.val (.ref x)] [(.int (0 : Int32))])
  refine Goes.go (fun _ kS_ => XS.goto X80.here X80.ex rfl (pc0 := 14) (pc' := 24) rfl (hb hby d_jdk_42_method_120_14) (by decide) (by decide) kS_) ?_
  show Goes _ _ _ _ T80 (mkF m 24 #[.val (.ref x)] [(.int (0 : Int32))])
  refine Goes.outN X80 (fun q => by rw [hret] at q; cases q) hlk (X80.rI hret (hb hby d_jdk_42_method_120_24)) ?_ (by decide) (by decide)
  exact ⟨Ext.oKeepOf X80.ext [], rfl⟩
set_option maxRecDepth 65536 in
set_option maxHeartbeats 40000000 in
theorem own_blank (l : Launch) (Z : State) (a0 : Array Value) (hw : ∀ d ∈ tables_1, d.before a0 Z = true) (h0 : Heap) (hO : Ext Z.heap h0) (x : Addr) (c1 : Int32) (G1 : Int32) (ci : Addr) (aA : Addr) (clA : Cell) (O2 : Sta Z Z.heap "java/lang/String" "COMPACT_STRINGS" "Z" (.int G1)) (P5 : ¬ (G1 = (0 : Int32))) (OI : Sta Z Z.heap "java/lang/CharacterDataLatin1" "instance" "Ljava/lang/CharacterDataLatin1;" (.ref ci)) (EI : Exa Z Z.heap ci "java/lang/CharacterDataLatin1") (OQ : Sta Z Z.heap "java/lang/CharacterDataLatin1" "A" "[I" (.ref aA)) (AA : Arr Z Z.heap aA clA .int) (hA : clA.slots[110]? = some (.int (8486882 : Int32))) (hA2 : 110 < clA.slots.size) (S_x : LStr Z h0 x [(110 : Int32), c1]) :
    CtrN l Z (⟨"java/lang/String", "isBlank", "()Z"⟩ : MethodName) jdk_42_method_117_code 1 (some .boolean) ({ frames := 4, cells := 0, slots := 0, locals := 56 } : Room) #[(.ref x)] h0 (fun v h' => Keep h0 h' [] ∧ v = some (.int (0 : Int32))) := by
  refine CtrN.of (plainFor_of_name pn_8) hO ?_
  intro p e s m below meth cD_ T0 X0 hsh hby hml hret hlk hnm
  refine Goes.cast (ef_own_blank m x) ?_
  show Goes _ _ _ _ T0 (mkF m 0 #[.val (.ref x)] [])
  refine Goes.go (fun _ kS_ => XS.aloadN X0.here X0.ex rfl (hb hby d_jdk_42_method_117_0) rfl rfl kS_) ?_
  show Goes _ _ _ _ T0 (mkF m 1 #[.val (.ref x)] [(.ref x)])
  refine Wk.priv (hm' := fun _ => h0) (C := "java/lang/String") (y := (⟨"java/lang/String", "indexOfNonWhitespace", "()I"⟩ : MethodName)) (W := 0) (kc := 0) (ks := 0) (argsL := []) (rest := []) (as' := #[(.ref x)]) (ws := []) X0 (w_103 hw) (w_104 hw) (w_106 hw) (w_105 hw) (w_107 hw) (by decide) S_x.1 (CtrN.pays (own_inw l Z a0 hw h0 X0.old x c1 G1 ci aA clA O2 P5 OI EI OQ AA hA hA2 S_x) (w_107 hw) (w_3 hw) (by decide) (by decide)) (fun v h' L q => ⟨q.2, q.1.1⟩) all0 (fun _ => Mark.stay all0) rfl (by rw [hml]; rfl) (lenOf pd_8 rfl) rfl rfl (by show 2 * 0 + _ ≤ _; exact Nat.le_of_eq rfl) (hb hby d_jdk_42_method_117_1) (by decide) (by decide) ?_
  intro T83 h83 v83 L83 X83 q83 K83
  obtain ⟨⟨-, rfl⟩, -⟩ := q83
  replace S_x := S_x.ext K83.oExt
  show Goes _ _ _ _ T83 (mkF m 4 #[.val (.ref x)] [(.int (0 : Int32))])
  refine Goes.go (fun _ kS_ => XS.aloadN X83.here X83.ex rfl (hb hby d_jdk_42_method_117_4) rfl rfl kS_) ?_
  show Goes _ _ _ _ T83 (mkF m 5 #[.val (.ref x)] [(.ref x), (.int (0 : Int32))])
  refine Wk.virtual (hm' := fun _ => h0) (C := "java/lang/String") (y := (⟨"java/lang/String", "length", "()I"⟩ : MethodName)) (z := (⟨"java/lang/String", "length", "()I"⟩ : MethodName)) (W := 1) (kc := 0) (ks := 0) (argsL := []) (rest := [(.int (0 : Int32))]) (as' := #[(.ref x)]) (ws := []) X83 (w_133 hw) (w_134 hw) (w_136 hw) (w_135 hw) (by decide) S_x.1 (nf_sel (w_136 hw)) (own_lenP (own_wsLen hw) (kI := 4) (w_2 hw) S_x O2 P5 X83.old (by decide) (by decide)) (fun v h' L q => ⟨by rw [q.2.1]; exact Fr.nil _, by rw [q.2.2]; exact Keep.refl _ _⟩) all0 (fun _ => Mark.stay all0) rfl (by rw [hml]; rfl) (lenOf pd_8 rfl) rfl rfl (by show 2 * 0 + _ ≤ _; exact Nat.le_of_eq rfl) (hb hby d_jdk_42_method_117_5) (by decide) (by decide) ?_
  intro T84 h84 v84 L84 X84 q84 K84
  obtain ⟨rfl, -, -⟩ := q84
  replace S_x := S_x.ext K84.oExt
  show Goes _ _ _ _ T84 (mkF m 8 #[.val (.ref x)] [(.int (2 : Int32)), (.int (0 : Int32))])
  refine Goes.go (fun _ kS_ => XS.icmpYes X84.here X84.ex rfl (pc0 := 8) (pc' := 15) rfl (hb hby d_jdk_42_method_117_8) rfl (cd_t (cd := .ne) (x := (0 : Int32)) (y := (2 : Int32)) (by decide)) (by decide) (by decide) (XS.iconst X84.here X84.ex rfl (hb hby d_jdk_42_method_117_15) kS_)) ?_
  show Goes _ _ _ _ T84 (mkF m 16 #[.val (.ref x)] [(.int (0 : Int32))])
  refine Goes.outN X84 (fun q => by rw [hret] at q; cases q) hlk (X84.rB hret (by simp) (hb hby d_jdk_42_method_117_16)) ?_ (by decide) (by decide)
  exact ⟨Ext.oKeepOf X84.ext [], rfl⟩
set_option maxRecDepth 65536 in
set_option maxHeartbeats 40000000 in
theorem own_umi (l : Launch) (Z : State) (a0 : Array Value) (hw : ∀ d ∈ tables_1, d.before a0 Z = true) (h0 : Heap) (hO : Ext Z.heap h0) (x : Addr) (q : Addr) (E_x : Exa Z h0 x "java/util/Collections$UnmodifiableMap") (F_x_m : Fld Z h0 x "java/util/Collections$UnmodifiableMap" "m" "Ljava/util/Map;" .null) (gz_x : Z.heap.size ≤ x) :
    CtrN l Z (⟨"java/util/Collections$UnmodifiableMap", "<init>", "(Ljava/util/Map;)V"⟩ : MethodName) jdk_2500_method_1_code 2 none ({ frames := 1, cells := 0, slots := 0, locals := 12 } : Room) #[(.ref x), (.ref q)] h0 (fun v h' => Keep h0 h' [x] ∧ v = none) := by
  refine CtrN.of (plainFor_of_name pn_11) hO ?_
  intro p e s m below meth cD_ T0 X0 hsh hby hml hret hlk hnm
  refine Goes.cast (ef_own_umi m x q) ?_
  show Goes _ _ _ _ T0 (mkF m 0 #[.val (.ref x), .val (.ref q)] [])
  have KK : Keep h0 h0 [x] := Keep.refl _ _
  refine Goes.go (fun _ kS_ => XS.aloadN X0.here X0.ex rfl (hb hby d_jdk_2500_method_1_0) rfl rfl kS_) ?_
  show Goes _ _ _ _ T0 (mkF m 1 #[.val (.ref x), .val (.ref q)] [(.ref x)])
  refine Wk.initO X0 (w_257 hw) (w_12 hw) (w_13 hw) rfl (by rw [hml]; rfl) rfl (hb hby d_jdk_2500_method_1_1) (by decide) (W := 0) (by show 2 * 0 + _ ≤ _; exact Nat.le_of_eq rfl) (by decide) ?_
  intro T87 X87
  show Goes _ _ _ _ T87 (mkF m 4 #[.val (.ref x), .val (.ref q)] [])
  refine Goes.go (fun _ kS_ => XS.aloadN X87.here X87.ex rfl (hb hby d_jdk_2500_method_1_4) rfl rfl (XS.ifnonnullYes X87.here X87.ex rfl (pc0 := 5) (pc' := 16) rfl (hb hby d_jdk_2500_method_1_5) rfl (by decide) (by decide) (XS.aloadN X87.here X87.ex rfl (hb hby d_jdk_2500_method_1_16) rfl rfl (XS.aloadN X87.here X87.ex rfl (hb hby d_jdk_2500_method_1_17) rfl rfl kS_)))) ?_
  show Goes _ _ _ _ T87 (mkF m 18 #[.val (.ref x), .val (.ref q)] [(.ref q), (.ref x)])
  have Eo := E_x
  refine Wk.putF (hm' := fun h' => h') X87 (host := "") (Or.inl (w_258 hw)) Via.refl F_x_m E_x (Or.inr ⟨(w_259 hw), rfl, hnm⟩) (w_252 hw) (ty := (.object "java/util/Map")) (by decide) rfl rfl gz_x (fun _ => Mark.anew (allS (Or.inr SafeA.nil) all0)) rfl rfl (hb hby d_jdk_2500_method_1_18) ?_
  intro T88 h88 X88 W88
  have F88 := F_x_m.same W88
  replace E_x := E_x.wr W88
  replace KK := KK.wr W88 (Or.inl (List.mem_of_getElem? (i := 0) rfl))
  clear F_x_m; have F_x_m := F88
  show Goes _ _ _ _ T88 (mkF m 21 #[.val (.ref x), .val (.ref q)] [])
  clear Eo
  refine Goes.outN X88 (fun _ => rfl) hlk (X88.rV hret (hb hby d_jdk_2500_method_1_21)) ?_ (by decide) (by decide)
  exact ⟨KK, rfl⟩
set_option maxRecDepth 65536 in
set_option maxHeartbeats 40000000 in
theorem own_unm (l : Launch) (Z : State) (a0 : Array Value) (hw : ∀ d ∈ tables_1, d.before a0 Z = true) (h0 : Heap) (hO : Ext Z.heap h0) (q : Addr) (c1m : Addr) (c2m : Addr) (E_q : Exa Z h0 q "java/util/LinkedHashMap") (M1 : MirC Z "java/util/LinkedHashMap" c1m) (M2 : MirC Z "java/util/Collections$UnmodifiableMap" c2m) :
    CtrN l Z (⟨"java/util/Collections", "unmodifiableMap", "(Ljava/util/Map;)Ljava/util/Map;"⟩ : MethodName) jdk_79_method_36_code 1 (some (.object "java/util/Map")) ({ frames := 2, cells := 1, slots := 4, locals := 26 } : Room) #[(.ref q)] h0 (fun v h' => Keep h0 h' [] ∧ ∃ u, v = some (.ref u)) := by
  refine CtrN.of (plainFor_of_name pn_12) hO ?_
  intro p e s m below meth cD_ T0 X0 hsh hby hml hret hlk hnm
  refine Goes.cast (ef_own_unm m q) ?_
  show Goes _ _ _ _ T0 (mkF m 0 #[.val (.ref q)] [])
  refine Goes.go (fun _ kS_ => XS.aloadN X0.here X0.ex rfl (hb hby d_jdk_79_method_36_0) rfl rfl kS_) ?_
  show Goes _ _ _ _ T0 (mkF m 1 #[.val (.ref q)] [(.ref q)])
  refine Wk.getClass (C := "java/util/LinkedHashMap") (J := "java/lang/Object") (y := (⟨"java/util/Map", "getClass", "()Ljava/lang/Class;"⟩ : MethodName)) (W := 0) X0 (w_241 hw) (w_242 hw) (w_246 hw) (w_243 hw) (by decide) (w_244 hw) (w_245 hw) (w_246 hw) (w_247 hw) (w_152 hw) (w_248 hw) (by decide) E_q M1 (by decide) (by decide) rfl (by rw [hml]; rfl) (lenOf pd_9 rfl) rfl (by show 2 * 0 + _ ≤ _; exact Nat.le_of_eq rfl) (hb hby d_jdk_79_method_36_1) ?_
  intro T93 X93
  show Goes _ _ _ _ T93 (mkF m 6 #[.val (.ref q)] [(.ref c1m)])
  refine Wk.ldcM X93 (w_250 hw) M2 rfl (hb hby d_jdk_79_method_36_6) ?_
  intro T94 X94
  show Goes _ _ _ _ T94 (mkF m 8 #[.val (.ref q)] [(.ref c2m), (.ref c1m)])
  refine Goes.acmp (pc' := 13) X94.here X94.ex (hb hby d_jdk_79_method_36_8) rfl rfl (by decide) (by decide) (fun hc8 => ?_) (fun hc8 => ?_)
  · have hc8 : ¬ c1m = c2m := by simpa [Jvm.Free.XT.acmp] using hc8
    show Goes _ _ _ _ T94 (mkF m 13 #[.val (.ref q)] [])
    refine Wk.new X94 (w_250 hw) (w_252 hw) (w_253 hw) rfl (hb hby d_jdk_79_method_36_13) (by decide) (by decide) ?_
    intro T95 h95 a95 g95 X95 E95 A95 D95
    have gz_a95 : Z.heap.size ≤ a95 := g95 ▸ X94.old.1
    have gm_a95 : h0.size ≤ a95 := g95 ▸ X94.ext.1
    have F_a95_m : Fld Z h95 a95 "java/util/Collections$UnmodifiableMap" "m" "Ljava/util/Map;" .null := D95 (Or.inr (w_259 hw)) (ty := (.object "java/util/Map")) (by decide)
    clear D95
    show Goes _ _ _ _ T95 (mkF m 16 #[.val (.ref q)] [(.ref a95)])
    refine Goes.go (fun _ kS_ => XS.dup X95.here X95.ex rfl (hb hby d_jdk_79_method_36_16) rfl rfl (XS.aloadN X95.here X95.ex rfl (hb hby d_jdk_79_method_36_17) rfl rfl kS_)) ?_
    show Goes _ _ _ _ T95 (mkF m 18 #[.val (.ref q)] [(.ref q), (.ref a95), (.ref a95)])
    refine Wk.special (hm' := fun _ => h0) (y := (⟨"java/util/Collections$UnmodifiableMap", "<init>", "(Ljava/util/Map;)V"⟩ : MethodName)) (W := 1) (kc := 0) (ks := 0) (argsL := [(.ref q)]) (rest := [(.ref a95)]) (as' := #[(.ref a95), (.ref q)]) (ws := [a95]) X95 rfl (w_254 hw) (w_255 hw) (w_256 hw) (by decide) (CtrN.pays (own_umi l Z a0 hw h95 X95.old a95 q A95 F_a95_m gz_a95) (w_256 hw) (w_253 hw) (by decide) (by decide)) (fun v h' L q => ⟨q.2, q.1.1⟩) (allS gz_a95 all0) (fun _ => Mark.stay (allS gm_a95 all0)) rfl (by rw [hml]; rfl) (lenOf pd_10 rfl) rfl rfl (by show 2 * 0 + _ ≤ _; exact Nat.le_of_eq rfl) (hb hby d_jdk_79_method_36_18) (by decide) (by decide) ?_
    intro T96 h96 v96 L96 X96 q96 K96
    obtain ⟨⟨-, rfl⟩, -⟩ := q96
    show Goes _ _ _ _ T96 (mkF m 21 #[.val (.ref q)] [(.ref a95)])
    refine Goes.outN X96 (fun q => by rw [hret] at q; cases q) hlk (X96.rA hret rfl rfl (hb hby d_jdk_79_method_36_21)) ?_ (by decide) (by decide)
    exact ⟨Ext.oKeepOf X96.ext [], a95, rfl⟩
  · have hc8 : c1m = c2m := by simpa [Jvm.Free.XT.acmp] using hc8
    show Goes _ _ _ _ T94 (mkF m 11 #[.val (.ref q)] [])
    refine Goes.go (fun _ kS_ => XS.aloadN X94.here X94.ex rfl (hb hby d_jdk_79_method_36_11) rfl rfl kS_) ?_
    show Goes _ _ _ _ T94 (mkF m 12 #[.val (.ref q)] [(.ref q)])
    refine Goes.outN X94 (fun q => by rw [hret] at q; cases q) hlk (X94.rA hret rfl rfl (hb hby d_jdk_79_method_36_12)) ?_ (by decide) (by decide)
    exact ⟨Ext.oKeepOf X94.ext [], q, rfl⟩
set_option maxRecDepth 65536 in
set_option maxHeartbeats 40000000 in
theorem own_req (l : Launch) (Z : State) (a0 : Array Value) (hw : ∀ d ∈ tables_1, d.before a0 Z = true) (h0 : Heap) (hO : Ext Z.heap h0) (a : Addr) (b : Addr)  :
    CtrN l Z (⟨"java/util/Objects", "requireNonNull", "(Ljava/lang/Object;Ljava/lang/String;)Ljava/lang/Object;"⟩ : MethodName) jdk_31_method_11_code 2 (some (.object "java/lang/Object")) ({ frames := 0, cells := 0, slots := 0, locals := 0 } : Room) #[(.ref a), (.ref b)] h0 (fun v h' => Keep h0 h' [] ∧ v = some (.ref a)) := by
  refine CtrN.of (plainFor_of_name pn_13) hO ?_
  intro p e s m below meth cD_ T0 X0 hsh hby hml hret hlk hnm
  refine Goes.cast (ef_own_req m a b) ?_
  show Goes _ _ _ _ T0 (mkF m 0 #[.val (.ref a), .val (.ref b)] [])
  refine Goes.go (fun _ kS_ => XS.aloadN X0.here X0.ex rfl (hb hby d_jdk_31_method_11_0) rfl rfl (XS.ifnonnullYes X0.here X0.ex rfl (pc0 := 1) (pc' := 13) rfl (hb hby d_jdk_31_method_11_1) rfl (by decide) (by decide) (XS.aloadN X0.here X0.ex rfl (hb hby d_jdk_31_method_11_13) rfl rfl kS_))) ?_
  show Goes _ _ _ _ T0 (mkF m 14 #[.val (.ref a), .val (.ref b)] [(.ref a)])
  refine Goes.outN X0 (fun q => by rw [hret] at q; cases q) hlk (X0.rA hret rfl rfl (hb hby d_jdk_31_method_11_14)) ?_ (by decide) (by decide)
  exact ⟨Ext.oKeepOf X0.ext [], rfl⟩
set_option maxRecDepth 65536 in
set_option maxHeartbeats 40000000 in
theorem own_hcr (l : Launch) (Z : State) (a0 : Array Value) (hw : ∀ d ∈ tables_1, d.before a0 Z = true) (hEL : EW Z a0 []) (h0 : Heap) (hO : Ext Z.heap h0) (x : Addr) (a : Addr) (u : Addr) (q : Addr) (c1 : Int32) (G1 : Int32) (ci : Addr) (aA : Addr) (clA : Cell) (c1m : Addr) (c2m : Addr) (O2 : Sta Z Z.heap "java/lang/String" "COMPACT_STRINGS" "Z" (.int G1)) (P5 : ¬ (G1 = (0 : Int32))) (OI : Sta Z Z.heap "java/lang/CharacterDataLatin1" "instance" "Ljava/lang/CharacterDataLatin1;" (.ref ci)) (EI : Exa Z Z.heap ci "java/lang/CharacterDataLatin1") (OQ : Sta Z Z.heap "java/lang/CharacterDataLatin1" "A" "[I" (.ref aA)) (AA : Arr Z Z.heap aA clA .int) (hA : clA.slots[110]? = some (.int (8486882 : Int32))) (hA2 : 110 < clA.slots.size) (M1 : MirC Z "java/util/LinkedHashMap" c1m) (M2 : MirC Z "java/util/Collections$UnmodifiableMap" c2m) (E_x : Exa Z h0 x "com/example/steady_pulse/steadypulse/HealthCheckResponse") (F_x_name : Fld Z h0 x "com/example/steady_pulse/steadypulse/HealthCheckResponse" "name" "Ljava/lang/String;" .null) (F_x_status : Fld Z h0 x "com/example/steady_pulse/steadypulse/HealthCheckResponse" "status" "Lcom/example/steady_pulse/steadypulse/HealthCheckResponse$Status;" .null) (F_x_data : Fld Z h0 x "com/example/steady_pulse/steadypulse/HealthCheckResponse" "data" "Ljava/util/Map;" .null) (gz_x : Z.heap.size ≤ x) (S_a : LStr Z h0 a [(110 : Int32), c1]) (E_q : Exa Z h0 q "java/util/LinkedHashMap") (F_q_entrySet : Fld Z h0 q "java/util/HashMap" "entrySet" "Ljava/util/Set;" .null) (F_q_head : Fld Z h0 q "java/util/LinkedHashMap" "head" "Ljava/util/LinkedHashMap$Entry;" .null) (F_q_modCount : Fld Z h0 q "java/util/HashMap" "modCount" "I" (.int (0 : Int32))) (gz_q : Z.heap.size ≤ q) :
    CtrS l Z [] (⟨"com/example/steady_pulse/steadypulse/HealthCheckResponse", "<init>", "(Ljava/lang/String;Lcom/example/steady_pulse/steadypulse/HealthCheckResponse$Status;Ljava/util/Map;)V"⟩ : MethodName) prog_21_method_1_code 9 none ({ frames := 6, cells := 10, slots := 91, locals := 77 } : Room) #[(.ref x), (.ref a), (.ref u), (.ref q)] h0 (fun v h' => Keep h0 h' [x, q] ∧ v = none ∧ Exa Z h' x "com/example/steady_pulse/steadypulse/HealthCheckResponse" ∧ Fld Z h' x "com/example/steady_pulse/steadypulse/HealthCheckResponse" "status" "Lcom/example/steady_pulse/steadypulse/HealthCheckResponse$Status;" (.ref u) ∧ Fld Z h' x "com/example/steady_pulse/steadypulse/HealthCheckResponse" "name" "Ljava/lang/String;" (.ref a)) := by
  refine CtrS.of (plainFor_of_name pn_14) hO ?_
  intro p e s m below meth cD_ T0 X0 hsh hby hml hret hlk hnm
  refine Goes.cast (ef_own_hcr m x a u q) ?_
  show Goes _ _ _ _ T0 (mkF m 0 #[.val (.ref x), .val (.ref a), .val (.ref u), .val (.ref q), .unset, .unset, .unset, .unset, .unset] [])
  have KK : Keep h0 h0 [x, q] := Keep.refl _ _
  refine Goes.go (fun _ kS_ => XS.aloadN X0.here X0.ex rfl (hb hby d_prog_21_method_1_0) rfl rfl kS_) ?_
  show Goes _ _ _ _ T0 (mkF m 1 #[.val (.ref x), .val (.ref a), .val (.ref u), .val (.ref q), .unset, .unset, .unset, .unset, .unset] [(.ref x)])
  refine Wk.initO X0 (w_88 hw) (w_12 hw) (w_13 hw) rfl (by rw [hml]; rfl) rfl (hb hby d_prog_21_method_1_1) (by decide) (W := 0) (by show 2 * 0 + _ ≤ _; exact Nat.le_of_eq rfl) (by decide) ?_
  intro T114 X114
  show Goes _ _ _ _ T114 (mkF m 4 #[.val (.ref x), .val (.ref a), .val (.ref u), .val (.ref q), .unset, .unset, .unset, .unset, .unset] [])
  refine Goes.go (fun _ kS_ => XS.aloadN X114.here X114.ex rfl (hb hby d_prog_21_method_1_4) rfl rfl kS_) ?_
  show Goes _ _ _ _ T114 (mkF m 5 #[.val (.ref x), .val (.ref a), .val (.ref u), .val (.ref q), .unset, .unset, .unset, .unset, .unset] [(.ref a)])
  refine Wk.ldcO X114 (w_89 hw) (own_wS hw) hEL rfl (hb hby d_prog_21_method_1_5) (n := 16) (by decide) (by decide) (by decide) (by decide) ?_
  intro T115 h115 a115 X115 E115
  replace E_x := E_x.ext E115
  replace F_x_name := F_x_name.ext E115
  replace F_x_status := F_x_status.ext E115
  replace F_x_data := F_x_data.ext E115
  replace E_q := E_q.ext E115
  replace F_q_entrySet := F_q_entrySet.ext E115
  replace F_q_head := F_q_head.ext E115
  replace F_q_modCount := F_q_modCount.ext E115
  replace S_a := S_a.ext E115
  replace KK := KK.ext E115
  show Goes _ _ _ _ T115 (mkF m 7 #[.val (.ref x), .val (.ref a), .val (.ref u), .val (.ref q), .unset, .unset, .unset, .unset, .unset] [(.ref a115), (.ref a)])
  refine Wk.static (hm' := fun _ => h115) (y := (⟨"java/util/Objects", "requireNonNull", "(Ljava/lang/Object;Ljava/lang/String;)Ljava/lang/Object;"⟩ : MethodName)) (W := 0) (kc := 0) (ks := 0) (argsL := [(.ref a), (.ref a115)]) (rest := []) (as' := #[(.ref a), (.ref a115)]) (ws := []) X115 (w_92 hw) (w_93 hw) (w_94 hw) (w_95 hw) (by decide) (CtrN.pays (own_req l Z a0 hw h115 X115.old a a115) (w_95 hw) (w_94 hw) (by decide) (by decide)) (fun v h' L q => ⟨q.2, q.1.1⟩) all0 (fun _ => Mark.stay all0) rfl (by rw [hml]; rfl) (lenOf pd_11 rfl) rfl rfl (by show 2 * 0 + _ ≤ _; exact Nat.le_of_eq rfl) (hb hby d_prog_21_method_1_7) (by decide) (by decide) ?_
  intro T116 h116 v116 L116 X116 q116 K116
  obtain ⟨⟨-, rfl⟩, -⟩ := q116
  replace E_x := E_x.ext K116.oExt
  replace F_x_name := F_x_name.ext K116.oExt
  replace F_x_status := F_x_status.ext K116.oExt
  replace F_x_data := F_x_data.ext K116.oExt
  replace E_q := E_q.ext K116.oExt
  replace F_q_entrySet := F_q_entrySet.ext K116.oExt
  replace F_q_head := F_q_head.ext K116.oExt
  replace F_q_modCount := F_q_modCount.ext K116.oExt
  replace S_a := S_a.ext K116.oExt
  replace KK := KK.ext K116.oExt
  show Goes _ _ _ _ T116 (mkF m 10 #[.val (.ref x), .val (.ref a), .val (.ref u), .val (.ref q), .unset, .unset, .unset, .unset, .unset] [(.ref a)])
  refine Goes.go (fun _ kS_ => XS.pop X116.here X116.ex rfl (hb hby d_prog_21_method_1_10) rfl rfl (XS.aloadN X116.here X116.ex rfl (hb hby d_prog_21_method_1_11) rfl rfl kS_)) ?_
  show Goes _ _ _ _ T116 (mkF m 12 #[.val (.ref x), .val (.ref a), .val (.ref u), .val (.ref q), .unset, .unset, .unset, .unset, .unset] [(.ref u)])
  refine Wk.ldcO X116 (w_96 hw) (own_wS hw) hEL rfl (hb hby d_prog_21_method_1_12) (n := 24) (by decide) (by decide) (by decide) (by decide) ?_
  intro T117 h117 a117 X117 E117
  replace E_x := E_x.ext E117
  replace F_x_name := F_x_name.ext E117
  replace F_x_status := F_x_status.ext E117
  replace F_x_data := F_x_data.ext E117
  replace E_q := E_q.ext E117
  replace F_q_entrySet := F_q_entrySet.ext E117
  replace F_q_head := F_q_head.ext E117
  replace F_q_modCount := F_q_modCount.ext E117
  replace S_a := S_a.ext E117
  replace KK := KK.ext E117
  show Goes _ _ _ _ T117 (mkF m 14 #[.val (.ref x), .val (.ref a), .val (.ref u), .val (.ref q), .unset, .unset, .unset, .unset, .unset] [(.ref a117), (.ref u)])
  refine Wk.static (hm' := fun _ => h117) (y := (⟨"java/util/Objects", "requireNonNull", "(Ljava/lang/Object;Ljava/lang/String;)Ljava/lang/Object;"⟩ : MethodName)) (W := 0) (kc := 0) (ks := 0) (argsL := [(.ref u), (.ref a117)]) (rest := []) (as' := #[(.ref u), (.ref a117)]) (ws := []) X117 (w_92 hw) (w_93 hw) (w_94 hw) (w_95 hw) (by decide) (CtrN.pays (own_req l Z a0 hw h117 X117.old u a117) (w_95 hw) (w_94 hw) (by decide) (by decide)) (fun v h' L q => ⟨q.2, q.1.1⟩) all0 (fun _ => Mark.stay all0) rfl (by rw [hml]; rfl) (lenOf pd_11 rfl) rfl rfl (by show 2 * 0 + _ ≤ _; exact Nat.le_of_eq rfl) (hb hby d_prog_21_method_1_14) (by decide) (by decide) ?_
  intro T118 h118 v118 L118 X118 q118 K118
  obtain ⟨⟨-, rfl⟩, -⟩ := q118
  replace E_x := E_x.ext K118.oExt
  replace F_x_name := F_x_name.ext K118.oExt
  replace F_x_status := F_x_status.ext K118.oExt
  replace F_x_data := F_x_data.ext K118.oExt
  replace E_q := E_q.ext K118.oExt
  replace F_q_entrySet := F_q_entrySet.ext K118.oExt
  replace F_q_head := F_q_head.ext K118.oExt
  replace F_q_modCount := F_q_modCount.ext K118.oExt
  replace S_a := S_a.ext K118.oExt
  replace KK := KK.ext K118.oExt
  show Goes _ _ _ _ T118 (mkF m 17 #[.val (.ref x), .val (.ref a), .val (.ref u), .val (.ref q), .unset, .unset, .unset, .unset, .unset] [(.ref u)])
  refine Goes.go (fun _ kS_ => XS.pop X118.here X118.ex rfl (hb hby d_prog_21_method_1_17) rfl rfl (XS.aloadN X118.here X118.ex rfl (hb hby d_prog_21_method_1_18) rfl rfl kS_)) ?_
  show Goes _ _ _ _ T118 (mkF m 19 #[.val (.ref x), .val (.ref a), .val (.ref u), .val (.ref q), .unset, .unset, .unset, .unset, .unset] [(.ref q)])
  refine Wk.ldcO X118 (w_97 hw) (own_wS hw) hEL rfl (hb hby d_prog_21_method_1_19) (n := 16) (by decide) (by decide) (by decide) (by decide) ?_
  intro T119 h119 a119 X119 E119
  replace E_x := E_x.ext E119
  replace F_x_name := F_x_name.ext E119
  replace F_x_status := F_x_status.ext E119
  replace F_x_data := F_x_data.ext E119
  replace E_q := E_q.ext E119
  replace F_q_entrySet := F_q_entrySet.ext E119
  replace F_q_head := F_q_head.ext E119
  replace F_q_modCount := F_q_modCount.ext E119
  replace S_a := S_a.ext E119
  replace KK := KK.ext E119
  show Goes _ _ _ _ T119 (mkF m 21 #[.val (.ref x), .val (.ref a), .val (.ref u), .val (.ref q), .unset, .unset, .unset, .unset, .unset] [(.ref a119), (.ref q)])
  refine Wk.static (hm' := fun _ => h119) (y := (⟨"java/util/Objects", "requireNonNull", "(Ljava/lang/Object;Ljava/lang/String;)Ljava/lang/Object;"⟩ : MethodName)) (W := 0) (kc := 0) (ks := 0) (argsL := [(.ref q), (.ref a119)]) (rest := []) (as' := #[(.ref q), (.ref a119)]) (ws := []) X119 (w_92 hw) (w_93 hw) (w_94 hw) (w_95 hw) (by decide) (CtrN.pays (own_req l Z a0 hw h119 X119.old q a119) (w_95 hw) (w_94 hw) (by decide) (by decide)) (fun v h' L q => ⟨q.2, q.1.1⟩) all0 (fun _ => Mark.stay all0) rfl (by rw [hml]; rfl) (lenOf pd_11 rfl) rfl rfl (by show 2 * 0 + _ ≤ _; exact Nat.le_of_eq rfl) (hb hby d_prog_21_method_1_21) (by decide) (by decide) ?_
  intro T120 h120 v120 L120 X120 q120 K120
  obtain ⟨⟨-, rfl⟩, -⟩ := q120
  replace E_x := E_x.ext K120.oExt
  replace F_x_name := F_x_name.ext K120.oExt
  replace F_x_status := F_x_status.ext K120.oExt
  replace F_x_data := F_x_data.ext K120.oExt
  replace E_q := E_q.ext K120.oExt
  replace F_q_entrySet := F_q_entrySet.ext K120.oExt
  replace F_q_head := F_q_head.ext K120.oExt
  replace F_q_modCount := F_q_modCount.ext K120.oExt
  replace S_a := S_a.ext K120.oExt
  replace KK := KK.ext K120.oExt
  show Goes _ _ _ _ T120 (mkF m 24 #[.val (.ref x), .val (.ref a), .val (.ref u), .val (.ref q), .unset, .unset, .unset, .unset, .unset] [(.ref q)])
  refine Goes.go (fun _ kS_ => XS.pop X120.here X120.ex rfl (hb hby d_prog_21_method_1_24) rfl rfl (XS.aloadN X120.here X120.ex rfl (hb hby d_prog_21_method_1_25) rfl rfl kS_)) ?_
  show Goes _ _ _ _ T120 (mkF m 26 #[.val (.ref x), .val (.ref a), .val (.ref u), .val (.ref q), .unset, .unset, .unset, .unset, .unset] [(.ref a)])
  refine Wk.virtual (hm' := fun _ => h119) (C := "java/lang/String") (y := (⟨"java/lang/String", "isBlank", "()Z"⟩ : MethodName)) (z := (⟨"java/lang/String", "isBlank", "()Z"⟩ : MethodName)) (W := 0) (kc := 0) (ks := 0) (argsL := []) (rest := []) (as' := #[(.ref a)]) (ws := []) X120 (w_98 hw) (w_99 hw) (w_101 hw) (w_100 hw) (by decide) S_a.1 (nf_sel (w_101 hw)) (CtrN.pays (own_blank l Z a0 hw h120 X120.old a c1 G1 ci aA clA O2 P5 OI EI OQ AA hA hA2 S_a) (w_102 hw) (w_3 hw) (by decide) (by decide)) (fun v h' L q => ⟨q.2, q.1.1⟩) all0 (fun _ => Mark.stay all0) rfl (by rw [hml]; rfl) (lenOf pd_6 rfl) rfl rfl (by show 2 * 0 + _ ≤ _; exact Nat.le_of_eq rfl) (hb hby d_prog_21_method_1_26) (by decide) (by decide) ?_
  intro T121 h121 v121 L121 X121 q121 K121
  obtain ⟨⟨-, rfl⟩, -⟩ := q121
  replace E_x := E_x.ext K121.oExt
  replace F_x_name := F_x_name.ext K121.oExt
  replace F_x_status := F_x_status.ext K121.oExt
  replace F_x_data := F_x_data.ext K121.oExt
  replace E_q := E_q.ext K121.oExt
  replace F_q_entrySet := F_q_entrySet.ext K121.oExt
  replace F_q_head := F_q_head.ext K121.oExt
  replace F_q_modCount := F_q_modCount.ext K121.oExt
  replace S_a := S_a.ext K121.oExt
  replace KK := KK.ext K121.oExt
  show Goes _ _ _ _ T121 (mkF m 29 #[.val (.ref x), .val (.ref a), .val (.ref u), .val (.ref q), .unset, .unset, .unset, .unset, .unset] [(.int (0 : Int32))])
  refine Goes.go (fun _ kS_ => XS.ifYes X121.here X121.ex rfl (pc0 := 29) (pc' := 42) rfl (hb hby d_prog_21_method_1_29) rfl ((if0 _ _).trans (cd_t (cd := .eq) (x := (0 : Int32)) (y := (0 : Int32)) (by decide))) (by decide) (by decide) kS_) ?_
  show Goes _ _ _ _ T121 (mkF m 42 #[.val (.ref x), .val (.ref a), .val (.ref u), .val (.ref q), .unset, .unset, .unset, .unset, .unset] [])
  have nxq : x ≠ q := Exa.ne E_x E_q (by decide)
  have kz : h0.size ≤ h121.size := KK.1
  refine Wk.new X121 (w_143 hw) (w_38 hw) (w_39 hw) rfl (hb hby d_prog_21_method_1_42) (by decide) (by decide) ?_
  intro T122 h122 a122 g122 X122 E122 A122 D122
  have lt_x_a122 : x < a122 := by rw [g122]; exact E_x.lt
  have lt_q_a122 : q < a122 := by rw [g122]; exact E_q.lt
  replace E_x := E_x.ext E122
  replace F_x_name := F_x_name.ext E122
  replace F_x_status := F_x_status.ext E122
  replace F_x_data := F_x_data.ext E122
  replace E_q := E_q.ext E122
  replace F_q_entrySet := F_q_entrySet.ext E122
  replace F_q_head := F_q_head.ext E122
  replace F_q_modCount := F_q_modCount.ext E122
  replace KK := KK.ext E122
  have gz_a122 : Z.heap.size ≤ a122 := g122 ▸ X121.old.1
  have gm_a122 : h119.size ≤ a122 := g122 ▸ X121.ext.1
  have F_a122_loadFactor : Fld Z h122 a122 "java/util/HashMap" "loadFactor" "F" (.float (0 : UInt32)) := D122 (Or.inr (w_58 hw)) (ty := .float) (by decide)
  have F_a122_putMode : Fld Z h122 a122 "java/util/LinkedHashMap" "putMode" "I" (.int (0 : Int32)) := D122 (Or.inl (w_60 hw)) (ty := .int) (by decide)
  have F_a122_accessOrder : Fld Z h122 a122 "java/util/LinkedHashMap" "accessOrder" "Z" (.int (0 : Int32)) := D122 (Or.inr (w_62 hw)) (ty := .boolean) (by decide)
  have F_a122_entrySet : Fld Z h122 a122 "java/util/HashMap" "entrySet" "Ljava/util/Set;" .null := D122 (Or.inl (w_161 hw)) (ty := (.object "java/util/Set")) (by decide)
  have F_a122_head : Fld Z h122 a122 "java/util/LinkedHashMap" "head" "Ljava/util/LinkedHashMap$Entry;" .null := D122 (Or.inl (w_214 hw)) (ty := (.object "java/util/LinkedHashMap$Entry")) (by decide)
  have F_a122_modCount : Fld Z h122 a122 "java/util/HashMap" "modCount" "I" (.int (0 : Int32)) := D122 (Or.inl (w_219 hw)) (ty := .int) (by decide)
  clear D122
  show Goes _ _ _ _ T122 (mkF m 45 #[.val (.ref x), .val (.ref a), .val (.ref u), .val (.ref q), .unset, .unset, .unset, .unset, .unset] [(.ref a122)])
  have gk_a122 : h0.size ≤ a122 := Nat.le_trans kz (g122 ▸ Nat.le_refl _)
  refine Goes.go (fun _ kS_ => XS.dup X122.here X122.ex rfl (hb hby d_prog_21_method_1_45) rfl rfl kS_) ?_
  show Goes _ _ _ _ T122 (mkF m 46 #[.val (.ref x), .val (.ref a), .val (.ref u), .val (.ref q), .unset, .unset, .unset, .unset, .unset] [(.ref a122), (.ref a122)])
  refine Wk.special (hm' := fun _ => h119) (y := (⟨"java/util/LinkedHashMap", "<init>", "()V"⟩ : MethodName)) (W := 1) (kc := 0) (ks := 0) (argsL := []) (rest := [(.ref a122)]) (as' := #[(.ref a122)]) (ws := [a122]) X122 rfl (w_144 hw) (w_41 hw) (w_42 hw) (by decide) (CtrN.pays (own_lhm l Z a0 hw h122 X122.old a122 A122 F_a122_loadFactor F_a122_putMode F_a122_accessOrder F_a122_entrySet F_a122_head F_a122_modCount gz_a122) (w_42 hw) (w_39 hw) (by decide) (by decide)) (fun v h' L q => ⟨q.2, q.1.1⟩) (allS gz_a122 all0) (fun _ => Mark.stay (allS gm_a122 all0)) rfl (by rw [hml]; rfl) (lenOf pd_0 rfl) rfl rfl (by show 2 * 0 + _ ≤ _; exact Nat.le_of_eq rfl) (hb hby d_prog_21_method_1_46) (by decide) (by decide) ?_
  intro T123 h123 v123 L123 X123 q123 K123
  obtain ⟨⟨-, rfl, E_a122, Fe_a122, Fh_a122, Fm_a122⟩, -⟩ := q123
  replace E_x := E_x.keep K123
  replace F_x_name := F_x_name.keep K123 (ninS (Nat.ne_of_lt lt_x_a122) nin0)
  replace F_x_status := F_x_status.keep K123 (ninS (Nat.ne_of_lt lt_x_a122) nin0)
  replace F_x_data := F_x_data.keep K123 (ninS (Nat.ne_of_lt lt_x_a122) nin0)
  replace E_q := E_q.keep K123
  replace F_q_entrySet := F_q_entrySet.keep K123 (ninS (Nat.ne_of_lt lt_q_a122) nin0)
  replace F_q_head := F_q_head.keep K123 (ninS (Nat.ne_of_lt lt_q_a122) nin0)
  replace F_q_modCount := F_q_modCount.keep K123 (ninS (Nat.ne_of_lt lt_q_a122) nin0)
  replace KK := KK.trans K123 (allS (Or.inr gk_a122) all0)
  show Goes _ _ _ _ T123 (mkF m 49 #[.val (.ref x), .val (.ref a), .val (.ref u), .val (.ref q), .unset, .unset, .unset, .unset, .unset] [(.ref a122)])
  clear F_a122_entrySet F_a122_head F_a122_modCount
  have F_a122_entrySet := Fe_a122; have F_a122_head := Fh_a122; have F_a122_modCount := Fm_a122
  refine Goes.go (fun _ kS_ => XS.astore X123.here X123.ex rfl (hb hby d_prog_21_method_1_49) rfl rfl (l' := #[.val (.ref x), .val (.ref a), .val (.ref u), .val (.ref q), .val (.ref a122), .unset, .unset, .unset, .unset]) rfl (XS.aloadN X123.here X123.ex rfl (hb hby d_prog_21_method_1_51) rfl rfl kS_)) ?_
  show Goes _ _ _ _ T123 (mkF m 52 #[.val (.ref x), .val (.ref a), .val (.ref u), .val (.ref q), .val (.ref a122), .unset, .unset, .unset, .unset] [(.ref q)])
  refine Wk.iface (hm' := fun h' => h') (C := "java/util/LinkedHashMap") (y := (⟨"java/util/Map", "entrySet", "()Ljava/util/Set;"⟩ : MethodName)) (z := (⟨"java/util/LinkedHashMap", "entrySet", "()Ljava/util/Set;"⟩ : MethodName)) (W := 0) (kc := 1) (ks := 2) (argsL := []) (rest := []) (as' := #[(.ref q)]) (ws := [q]) X123 (w_145 hw) (w_146 hw) (w_147 hw) (w_148 hw) (w_149 hw) (w_150 hw) (w_151 hw) (w_152 hw) (by decide) E_q (CtrN.pays (own_ens l Z a0 hw h123 X123.old q E_q F_q_entrySet F_q_head F_q_modCount gz_q) (w_153 hw) (w_39 hw) (by decide) (by decide)) (fun v h' L q => ⟨q.2, q.1.1⟩) (allS gz_q all0) (fun _ => Mark.anew (allS (Or.inr SafeA.nil) all0)) rfl (by rw [hml]; rfl) (lenOf pd_12 rfl) rfl rfl (by show 2 * 0 + _ ≤ _; exact Nat.le_of_eq rfl) (hb hby d_prog_21_method_1_52) (by decide) (by decide) ?_
  intro T124 h124 v124 L124 X124 q124 K124
  obtain ⟨⟨-, s1124, rfl, Es124, Ft124, Fr124, E_q124, Fh124, Fm124, gs124⟩, -⟩ := q124
  replace E_x := E_x.keep K124
  replace F_x_name := F_x_name.keep K124 (ninS nxq nin0)
  replace F_x_status := F_x_status.keep K124 (ninS nxq nin0)
  replace F_x_data := F_x_data.keep K124 (ninS nxq nin0)
  replace KK := KK.trans K124 (allS (Or.inl (List.mem_of_getElem? (i := 1) rfl)) all0)
  replace E_a122 := E_a122.keep K124
  replace F_a122_entrySet := F_a122_entrySet.keep K124 (ninS (Nat.ne_of_gt lt_q_a122) nin0)
  replace F_a122_head := F_a122_head.keep K124 (ninS (Nat.ne_of_gt lt_q_a122) nin0)
  replace F_a122_modCount := F_a122_modCount.keep K124 (ninS (Nat.ne_of_gt lt_q_a122) nin0)
  show Goes _ _ _ _ T124 (mkF m 57 #[.val (.ref x), .val (.ref a), .val (.ref u), .val (.ref q), .val (.ref a122), .unset, .unset, .unset, .unset] [(.ref s1124)])
  refine Wk.iface (hm' := fun _ => h124) (C := "java/util/LinkedHashMap$LinkedEntrySet") (y := (⟨"java/util/Set", "iterator", "()Ljava/util/Iterator;"⟩ : MethodName)) (z := (⟨"java/util/LinkedHashMap$LinkedEntrySet", "iterator", "()Ljava/util/Iterator;"⟩ : MethodName)) (W := 0) (kc := 1) (ks := 5) (argsL := []) (rest := []) (as' := #[(.ref s1124)]) (ws := []) X124 (w_186 hw) (w_187 hw) (w_188 hw) (w_189 hw) (w_190 hw) (w_191 hw) (w_192 hw) (w_193 hw) (by decide) Es124 (CtrN.pays (own_iter l Z a0 hw h124 X124.old s1124 q Ft124 Fr124 Fh124 Fm124) (w_194 hw) (w_164 hw) (by decide) (by decide)) (fun v h' L q => ⟨q.2, q.1.1⟩) all0 (fun _ => Mark.stay all0) rfl (by rw [hml]; rfl) (lenOf pd_13 rfl) rfl rfl (by show 2 * 0 + _ ≤ _; exact Nat.le_of_eq rfl) (hb hby d_prog_21_method_1_57) (by decide) (by decide) ?_
  intro T125 h125 v125 L125 X125 q125 K125
  obtain ⟨⟨-, i125, rfl, Ei125, Fi125⟩, -⟩ := q125
  replace E_x := E_x.ext K125.oExt
  replace F_x_name := F_x_name.ext K125.oExt
  replace F_x_status := F_x_status.ext K125.oExt
  replace F_x_data := F_x_data.ext K125.oExt
  replace KK := KK.ext K125.oExt
  replace E_a122 := E_a122.ext K125.oExt
  replace F_a122_entrySet := F_a122_entrySet.ext K125.oExt
  replace F_a122_head := F_a122_head.ext K125.oExt
  replace F_a122_modCount := F_a122_modCount.ext K125.oExt
  replace Es124 := Es124.ext K125.oExt
  replace Ft124 := Ft124.ext K125.oExt
  replace Fr124 := Fr124.ext K125.oExt
  replace Fh124 := Fh124.ext K125.oExt
  replace Fm124 := Fm124.ext K125.oExt
  show Goes _ _ _ _ T125 (mkF m 62 #[.val (.ref x), .val (.ref a), .val (.ref u), .val (.ref q), .val (.ref a122), .unset, .unset, .unset, .unset] [(.ref i125)])
  refine Goes.go (fun _ kS_ => XS.astore X125.here X125.ex rfl (hb hby d_prog_21_method_1_62) rfl rfl (l' := #[.val (.ref x), .val (.ref a), .val (.ref u), .val (.ref q), .val (.ref a122), .val (.ref i125), .unset, .unset, .unset]) rfl (XS.aload X125.here X125.ex rfl (hb hby d_prog_21_method_1_64) rfl rfl kS_)) ?_
  show Goes _ _ _ _ T125 (mkF m 66 #[.val (.ref x), .val (.ref a), .val (.ref u), .val (.ref q), .val (.ref a122), .val (.ref i125), .unset, .unset, .unset] [(.ref i125)])
  refine Wk.iface (hm' := fun _ => h124) (C := "java/util/LinkedHashMap$LinkedEntryIterator") (y := (⟨"java/util/Iterator", "hasNext", "()Z"⟩ : MethodName)) (z := (⟨"java/util/LinkedHashMap$LinkedHashIterator", "hasNext", "()Z"⟩ : MethodName)) (W := 0) (kc := 0) (ks := 0) (argsL := []) (rest := []) (as' := #[(.ref i125)]) (ws := []) X125 (w_224 hw) (w_225 hw) (w_226 hw) (w_227 hw) (w_228 hw) (w_229 hw) (w_230 hw) (w_231 hw) (by decide) Ei125 (CtrN.pays (own_hn l Z a0 hw h125 X125.old i125 Fi125) (w_232 hw) (w_206 hw) (by decide) (by decide)) (fun v h' L q => ⟨q.2, q.1.1⟩) all0 (fun _ => Mark.stay all0) rfl (by rw [hml]; rfl) (lenOf pd_6 rfl) rfl rfl (by show 2 * 0 + _ ≤ _; exact Nat.le_of_eq rfl) (hb hby d_prog_21_method_1_66) (by decide) (by decide) ?_
  intro T126 h126 v126 L126 X126 q126 K126
  obtain ⟨⟨-, rfl⟩, -⟩ := q126
  replace E_x := E_x.ext K126.oExt
  replace F_x_name := F_x_name.ext K126.oExt
  replace F_x_status := F_x_status.ext K126.oExt
  replace F_x_data := F_x_data.ext K126.oExt
  replace KK := KK.ext K126.oExt
  replace E_a122 := E_a122.ext K126.oExt
  replace F_a122_entrySet := F_a122_entrySet.ext K126.oExt
  replace F_a122_head := F_a122_head.ext K126.oExt
  replace F_a122_modCount := F_a122_modCount.ext K126.oExt
  replace Ei125 := Ei125.ext K126.oExt
  replace Fi125 := Fi125.ext K126.oExt
  show Goes _ _ _ _ T126 (mkF m 71 #[.val (.ref x), .val (.ref a), .val (.ref u), .val (.ref q), .val (.ref a122), .val (.ref i125), .unset, .unset, .unset] [(.int (0 : Int32))])
  refine Goes.go (fun _ kS_ => XS.ifYes X126.here X126.ex rfl (pc0 := 71) (pc' := 147) rfl (hb hby d_prog_21_method_1_71) rfl ((if0 _ _).trans (cd_t (cd := .eq) (x := (0 : Int32)) (y := (0 : Int32)) (by decide))) (by decide) (by decide) (XS.aloadN X126.here X126.ex rfl (hb hby d_prog_21_method_1_147) rfl rfl (XS.aloadN X126.here X126.ex rfl (hb hby d_prog_21_method_1_148) rfl rfl kS_))) ?_
  show Goes _ _ _ _ T126 (mkF m 149 #[.val (.ref x), .val (.ref a), .val (.ref u), .val (.ref q), .val (.ref a122), .val (.ref i125), .unset, .unset, .unset] [(.ref a), (.ref x)])
  have Eo := E_x
  refine Wk.putF (hm' := fun h' => h') X126 (host := "") (Or.inl (w_233 hw)) Via.refl F_x_name E_x (Or.inr ⟨(w_234 hw), rfl, hnm⟩) (w_83 hw) (ty := (.object "java/lang/String")) (by decide) rfl rfl gz_x (fun _ => Mark.anew (allS (Or.inr SafeA.nil) all0)) rfl rfl (hb hby d_prog_21_method_1_149) ?_
  intro T127 h127 X127 W127
  have F127 := F_x_name.same W127
  replace E_x := E_x.wr W127
  replace F_x_status := F_x_status.other W127 (Or.inr (slot_ne (Or.inr (w_236 hw)) (Or.inr (w_234 hw)) (by decide) (t := (.object "com/example/steady_pulse/steadypulse/HealthCheckResponse$Status")) (t' := (.object "java/lang/String")) (by decide) (by decide)))
  replace F_x_data := F_x_data.other W127 (Or.inr (slot_ne (Or.inr (w_261 hw)) (Or.inr (w_234 hw)) (by decide) (t := (.object "java/util/Map")) (t' := (.object "java/lang/String")) (by decide) (by decide)))
  replace KK := KK.wr W127 (Or.inl (List.mem_of_getElem? (i := 0) rfl))
  replace E_a122 := E_a122.wr W127
  replace F_a122_entrySet := F_a122_entrySet.other W127 (Or.inl (Nat.ne_of_gt lt_x_a122))
  replace F_a122_head := F_a122_head.other W127 (Or.inl (Nat.ne_of_gt lt_x_a122))
  replace F_a122_modCount := F_a122_modCount.other W127 (Or.inl (Nat.ne_of_gt lt_x_a122))
  clear F_x_name; have F_x_name := F127
  show Goes _ _ _ _ T127 (mkF m 152 #[.val (.ref x), .val (.ref a), .val (.ref u), .val (.ref q), .val (.ref a122), .val (.ref i125), .unset, .unset, .unset] [])
  clear Eo
  refine Goes.go (fun _ kS_ => XS.aloadN X127.here X127.ex rfl (hb hby d_prog_21_method_1_152) rfl rfl (XS.aloadN X127.here X127.ex rfl (hb hby d_prog_21_method_1_153) rfl rfl kS_)) ?_
  show Goes _ _ _ _ T127 (mkF m 154 #[.val (.ref x), .val (.ref a), .val (.ref u), .val (.ref q), .val (.ref a122), .val (.ref i125), .unset, .unset, .unset] [(.ref u), (.ref x)])
  have Eo := E_x
  refine Wk.putF (hm' := fun h' => h') X127 (host := "") (Or.inl (w_235 hw)) Via.refl F_x_status E_x (Or.inr ⟨(w_236 hw), rfl, hnm⟩) (w_83 hw) (ty := (.object "com/example/steady_pulse/steadypulse/HealthCheckResponse$Status")) (by decide) rfl rfl gz_x (fun _ => Mark.anew (allS (Or.inr SafeA.nil) all0)) rfl rfl (hb hby d_prog_21_method_1_154) ?_
  intro T128 h128 X128 W128
  have F128 := F_x_status.same W128
  replace E_x := E_x.wr W128
  replace F_x_data := F_x_data.other W128 (Or.inr (slot_ne (Or.inr (w_261 hw)) (Or.inr (w_236 hw)) (by decide) (t := (.object "java/util/Map")) (t' := (.object "com/example/steady_pulse/steadypulse/HealthCheckResponse$Status")) (by decide) (by decide)))
  replace KK := KK.wr W128 (Or.inl (List.mem_of_getElem? (i := 0) rfl))
  replace E_a122 := E_a122.wr W128
  replace F_a122_entrySet := F_a122_entrySet.other W128 (Or.inl (Nat.ne_of_gt lt_x_a122))
  replace F_a122_head := F_a122_head.other W128 (Or.inl (Nat.ne_of_gt lt_x_a122))
  replace F_a122_modCount := F_a122_modCount.other W128 (Or.inl (Nat.ne_of_gt lt_x_a122))
  replace F_x_name := F_x_name.other W128 (Or.inr (slot_ne (Or.inr (w_234 hw)) (Or.inr (w_236 hw)) (by decide) (t := (.object "java/lang/String")) (t' := (.object "com/example/steady_pulse/steadypulse/HealthCheckResponse$Status")) (by decide) (by decide)))
  clear F_x_status; have F_x_status := F128
  show Goes _ _ _ _ T128 (mkF m 157 #[.val (.ref x), .val (.ref a), .val (.ref u), .val (.ref q), .val (.ref a122), .val (.ref i125), .unset, .unset, .unset] [])
  clear Eo
  refine Goes.go (fun _ kS_ => XS.aloadN X128.here X128.ex rfl (hb hby d_prog_21_method_1_157) rfl rfl (XS.aload X128.here X128.ex rfl (hb hby d_prog_21_method_1_158) rfl rfl kS_)) ?_
  show Goes _ _ _ _ T128 (mkF m 160 #[.val (.ref x), .val (.ref a), .val (.ref u), .val (.ref q), .val (.ref a122), .val (.ref i125), .unset, .unset, .unset] [(.ref a122), (.ref x)])
  refine Wk.static (hm' := fun _ => h128) (y := (⟨"java/util/Collections", "unmodifiableMap", "(Ljava/util/Map;)Ljava/util/Map;"⟩ : MethodName)) (W := 1) (kc := 1) (ks := 4) (argsL := [(.ref a122)]) (rest := [(.ref x)]) (as' := #[(.ref a122)]) (ws := []) X128 (w_237 hw) (w_238 hw) (w_239 hw) (w_240 hw) (by decide) (CtrN.pays (own_unm l Z a0 hw h128 X128.old a122 c1m c2m E_a122 M1 M2) (w_240 hw) (w_239 hw) (by decide) (by decide)) (fun v h' L q => ⟨q.2, q.1.1⟩) all0 (fun _ => Mark.stay all0) rfl (by rw [hml]; rfl) (lenOf pd_14 rfl) rfl rfl (by show 2 * 0 + _ ≤ _; exact Nat.le_of_eq rfl) (hb hby d_prog_21_method_1_160) (by decide) (by decide) ?_
  intro T129 h129 v129 L129 X129 q129 K129
  obtain ⟨⟨-, u129, rfl⟩, -⟩ := q129
  replace E_x := E_x.ext K129.oExt
  replace F_x_data := F_x_data.ext K129.oExt
  replace KK := KK.ext K129.oExt
  replace E_a122 := E_a122.ext K129.oExt
  replace F_a122_entrySet := F_a122_entrySet.ext K129.oExt
  replace F_a122_head := F_a122_head.ext K129.oExt
  replace F_a122_modCount := F_a122_modCount.ext K129.oExt
  replace F_x_name := F_x_name.ext K129.oExt
  replace F_x_status := F_x_status.ext K129.oExt
  show Goes _ _ _ _ T129 (mkF m 163 #[.val (.ref x), .val (.ref a), .val (.ref u), .val (.ref q), .val (.ref a122), .val (.ref i125), .unset, .unset, .unset] [(.ref u129), (.ref x)])
  have Eo := E_x
  refine Wk.putF (hm' := fun h' => h') X129 (host := "") (Or.inl (w_260 hw)) Via.refl F_x_data E_x (Or.inr ⟨(w_261 hw), rfl, hnm⟩) (w_83 hw) (ty := (.object "java/util/Map")) (by decide) rfl rfl gz_x (fun _ => Mark.anew (allS (Or.inr SafeA.nil) all0)) rfl rfl (hb hby d_prog_21_method_1_163) ?_
  intro T130 h130 X130 W130
  have F130 := F_x_data.same W130
  replace E_x := E_x.wr W130
  replace KK := KK.wr W130 (Or.inl (List.mem_of_getElem? (i := 0) rfl))
  replace E_a122 := E_a122.wr W130
  replace F_a122_entrySet := F_a122_entrySet.other W130 (Or.inl (Nat.ne_of_gt lt_x_a122))
  replace F_a122_head := F_a122_head.other W130 (Or.inl (Nat.ne_of_gt lt_x_a122))
  replace F_a122_modCount := F_a122_modCount.other W130 (Or.inl (Nat.ne_of_gt lt_x_a122))
  replace F_x_name := F_x_name.other W130 (Or.inr (slot_ne (Or.inr (w_234 hw)) (Or.inr (w_261 hw)) (by decide) (t := (.object "java/lang/String")) (t' := (.object "java/util/Map")) (by decide) (by decide)))
  replace F_x_status := F_x_status.other W130 (Or.inr (slot_ne (Or.inr (w_236 hw)) (Or.inr (w_261 hw)) (by decide) (t := (.object "com/example/steady_pulse/steadypulse/HealthCheckResponse$Status")) (t' := (.object "java/util/Map")) (by decide) (by decide)))
  clear F_x_data; have F_x_data := F130
  show Goes _ _ _ _ T130 (mkF m 166 #[.val (.ref x), .val (.ref a), .val (.ref u), .val (.ref q), .val (.ref a122), .val (.ref i125), .unset, .unset, .unset] [])
  clear Eo
  refine Goes.outS X130 hEL (fun _ => rfl) hlk (X130.rV hret (hb hby d_prog_21_method_1_166)) ?_ (by decide) (by decide)
  exact ⟨KK, rfl, E_x, F_x_status, F_x_name⟩
set_option maxRecDepth 65536 in
set_option maxHeartbeats 40000000 in
theorem own_bld (l : Launch) (Z : State) (a0 : Array Value) (hw : ∀ d ∈ tables_1, d.before a0 Z = true) (h0 : Heap) (hO : Ext Z.heap h0) (x : Addr) (a : Addr) (E_x : Exa Z h0 x "com/example/steady_pulse/steadypulse/HealthCheckResponse$Builder") (F_x_data : Fld Z h0 x "com/example/steady_pulse/steadypulse/HealthCheckResponse$Builder" "data" "Ljava/util/Map;" .null) (F_x_name : Fld Z h0 x "com/example/steady_pulse/steadypulse/HealthCheckResponse$Builder" "name" "Ljava/lang/String;" .null) (F_x_status : Fld Z h0 x "com/example/steady_pulse/steadypulse/HealthCheckResponse$Builder" "status" "Lcom/example/steady_pulse/steadypulse/HealthCheckResponse$Status;" .null) (gz_x : Z.heap.size ≤ x) :
    CtrN l Z (⟨"com/example/steady_pulse/steadypulse/HealthCheckResponse$Builder", "<init>", "(Ljava/lang/String;)V"⟩ : MethodName) prog_22_method_1_code 2 none ({ frames := 4, cells := 1, slots := 12, locals := 50 } : Room) #[(.ref x), (.ref a)] h0 (fun v h' => Keep h0 h' [x] ∧ v = none ∧ ∃ q, (Exa Z h' x "com/example/steady_pulse/steadypulse/HealthCheckResponse$Builder" ∧ Fld Z h' x "com/example/steady_pulse/steadypulse/HealthCheckResponse$Builder" "status" "Lcom/example/steady_pulse/steadypulse/HealthCheckResponse$Status;" .null ∧ Fld Z h' x "com/example/steady_pulse/steadypulse/HealthCheckResponse$Builder" "name" "Ljava/lang/String;" (.ref a) ∧ Fld Z h' x "com/example/steady_pulse/steadypulse/HealthCheckResponse$Builder" "data" "Ljava/util/Map;" (.ref q)) ∧ Exa Z h' q "java/util/LinkedHashMap" ∧ Fld Z h' q "java/util/HashMap" "entrySet" "Ljava/util/Set;" .null ∧ Fld Z h' q "java/util/LinkedHashMap" "head" "Ljava/util/LinkedHashMap$Entry;" .null ∧ Fld Z h' q "java/util/HashMap" "modCount" "I" (.int (0 : Int32)) ∧ h0.size ≤ q) := by
  refine CtrN.of (plainFor_of_name pn_15) hO ?_
  intro p e s m below meth cD_ T0 X0 hsh hby hml hret hlk hnm
  refine Goes.cast (ef_own_bld m x a) ?_
  show Goes _ _ _ _ T0 (mkF m 0 #[.val (.ref x), .val (.ref a)] [])
  have KK : Keep h0 h0 [x] := Keep.refl _ _
  refine Goes.go (fun _ kS_ => XS.aloadN X0.here X0.ex rfl (hb hby d_prog_22_method_1_0) rfl rfl kS_) ?_
  show Goes _ _ _ _ T0 (mkF m 1 #[.val (.ref x), .val (.ref a)] [(.ref x)])
  refine Wk.initO X0 (w_36 hw) (w_12 hw) (w_13 hw) rfl (by rw [hml]; rfl) rfl (hb hby d_prog_22_method_1_1) (by decide) (W := 0) (by show 2 * 0 + _ ≤ _; exact Nat.le_of_eq rfl) (by decide) ?_
  intro T136 X136
  show Goes _ _ _ _ T136 (mkF m 4 #[.val (.ref x), .val (.ref a)] [])
  refine Goes.go (fun _ kS_ => XS.aloadN X136.here X136.ex rfl (hb hby d_prog_22_method_1_4) rfl rfl kS_) ?_
  show Goes _ _ _ _ T136 (mkF m 5 #[.val (.ref x), .val (.ref a)] [(.ref x)])
  have kz : h0.size ≤ h0.size := KK.1
  refine Wk.new X136 (w_37 hw) (w_38 hw) (w_39 hw) rfl (hb hby d_prog_22_method_1_5) (by decide) (by decide) ?_
  intro T137 h137 a137 g137 X137 E137 A137 D137
  have lt_x_a137 : x < a137 := by rw [g137]; exact E_x.lt
  replace E_x := E_x.ext E137
  replace F_x_data := F_x_data.ext E137
  replace F_x_name := F_x_name.ext E137
  replace F_x_status := F_x_status.ext E137
  replace KK := KK.ext E137
  have gz_a137 : Z.heap.size ≤ a137 := g137 ▸ X136.old.1
  have gm_a137 : h0.size ≤ a137 := g137 ▸ X136.ext.1
  have F_a137_loadFactor : Fld Z h137 a137 "java/util/HashMap" "loadFactor" "F" (.float (0 : UInt32)) := D137 (Or.inr (w_58 hw)) (ty := .float) (by decide)
  have F_a137_putMode : Fld Z h137 a137 "java/util/LinkedHashMap" "putMode" "I" (.int (0 : Int32)) := D137 (Or.inl (w_60 hw)) (ty := .int) (by decide)
  have F_a137_accessOrder : Fld Z h137 a137 "java/util/LinkedHashMap" "accessOrder" "Z" (.int (0 : Int32)) := D137 (Or.inr (w_62 hw)) (ty := .boolean) (by decide)
  have F_a137_entrySet : Fld Z h137 a137 "java/util/HashMap" "entrySet" "Ljava/util/Set;" .null := D137 (Or.inl (w_161 hw)) (ty := (.object "java/util/Set")) (by decide)
  have F_a137_head : Fld Z h137 a137 "java/util/LinkedHashMap" "head" "Ljava/util/LinkedHashMap$Entry;" .null := D137 (Or.inl (w_214 hw)) (ty := (.object "java/util/LinkedHashMap$Entry")) (by decide)
  have F_a137_modCount : Fld Z h137 a137 "java/util/HashMap" "modCount" "I" (.int (0 : Int32)) := D137 (Or.inl (w_219 hw)) (ty := .int) (by decide)
  clear D137
  show Goes _ _ _ _ T137 (mkF m 8 #[.val (.ref x), .val (.ref a)] [(.ref a137), (.ref x)])
  have gk_a137 : h0.size ≤ a137 := Nat.le_trans kz (g137 ▸ Nat.le_refl _)
  refine Goes.go (fun _ kS_ => XS.dup X137.here X137.ex rfl (hb hby d_prog_22_method_1_8) rfl rfl kS_) ?_
  show Goes _ _ _ _ T137 (mkF m 9 #[.val (.ref x), .val (.ref a)] [(.ref a137), (.ref a137), (.ref x)])
  refine Wk.special (hm' := fun _ => h0) (y := (⟨"java/util/LinkedHashMap", "<init>", "()V"⟩ : MethodName)) (W := 2) (kc := 0) (ks := 0) (argsL := []) (rest := [(.ref a137), (.ref x)]) (as' := #[(.ref a137)]) (ws := [a137]) X137 rfl (w_40 hw) (w_41 hw) (w_42 hw) (by decide) (CtrN.pays (own_lhm l Z a0 hw h137 X137.old a137 A137 F_a137_loadFactor F_a137_putMode F_a137_accessOrder F_a137_entrySet F_a137_head F_a137_modCount gz_a137) (w_42 hw) (w_39 hw) (by decide) (by decide)) (fun v h' L q => ⟨q.2, q.1.1⟩) (allS gz_a137 all0) (fun _ => Mark.stay (allS gm_a137 all0)) rfl (by rw [hml]; rfl) (lenOf pd_0 rfl) rfl rfl (by show 2 * 0 + _ ≤ _; exact Nat.le_of_eq rfl) (hb hby d_prog_22_method_1_9) (by decide) (by decide) ?_
  intro T138 h138 v138 L138 X138 q138 K138
  obtain ⟨⟨-, rfl, E_a137, Fe_a137, Fh_a137, Fm_a137⟩, -⟩ := q138
  replace E_x := E_x.keep K138
  replace F_x_data := F_x_data.keep K138 (ninS (Nat.ne_of_lt lt_x_a137) nin0)
  replace F_x_name := F_x_name.keep K138 (ninS (Nat.ne_of_lt lt_x_a137) nin0)
  replace F_x_status := F_x_status.keep K138 (ninS (Nat.ne_of_lt lt_x_a137) nin0)
  replace KK := KK.trans K138 (allS (Or.inr gk_a137) all0)
  show Goes _ _ _ _ T138 (mkF m 12 #[.val (.ref x), .val (.ref a)] [(.ref a137), (.ref x)])
  clear F_a137_entrySet F_a137_head F_a137_modCount
  have F_a137_entrySet := Fe_a137; have F_a137_head := Fh_a137; have F_a137_modCount := Fm_a137
  have Eo := E_x
  refine Wk.putF (hm' := fun h' => h') X138 (host := "") (Or.inl (w_63 hw)) Via.refl F_x_data E_x (Or.inr ⟨(w_64 hw), rfl, hnm⟩) (w_31 hw) (ty := (.object "java/util/Map")) (by decide) rfl rfl gz_x (fun _ => Mark.anew (allS (Or.inr SafeA.nil) all0)) rfl rfl (hb hby d_prog_22_method_1_12) ?_
  intro T139 h139 X139 W139
  have F139 := F_x_data.same W139
  replace E_x := E_x.wr W139
  replace F_x_name := F_x_name.other W139 (Or.inr (slot_ne (Or.inr (w_66 hw)) (Or.inr (w_64 hw)) (by decide) (t := (.object "java/lang/String")) (t' := (.object "java/util/Map")) (by decide) (by decide)))
  replace F_x_status := F_x_status.other W139 (Or.inr (slot_ne (Or.inl (w_76 hw)) (Or.inr (w_64 hw)) (by decide) (t := (.object "com/example/steady_pulse/steadypulse/HealthCheckResponse$Status")) (t' := (.object "java/util/Map")) (by decide) (by decide)))
  replace KK := KK.wr W139 (Or.inl (List.mem_of_getElem? (i := 0) rfl))
  replace E_a137 := E_a137.wr W139
  replace F_a137_entrySet := F_a137_entrySet.other W139 (Or.inl (Nat.ne_of_gt lt_x_a137))
  replace F_a137_head := F_a137_head.other W139 (Or.inl (Nat.ne_of_gt lt_x_a137))
  replace F_a137_modCount := F_a137_modCount.other W139 (Or.inl (Nat.ne_of_gt lt_x_a137))
  clear F_x_data; have F_x_data := F139
  show Goes _ _ _ _ T139 (mkF m 15 #[.val (.ref x), .val (.ref a)] [])
  clear Eo
  refine Goes.go (fun _ kS_ => XS.aloadN X139.here X139.ex rfl (hb hby d_prog_22_method_1_15) rfl rfl (XS.aloadN X139.here X139.ex rfl (hb hby d_prog_22_method_1_16) rfl rfl kS_)) ?_
  show Goes _ _ _ _ T139 (mkF m 17 #[.val (.ref x), .val (.ref a)] [(.ref a), (.ref x)])
  have Eo := E_x
  refine Wk.putF (hm' := fun h' => h') X139 (host := "") (Or.inl (w_65 hw)) Via.refl F_x_name E_x (Or.inr ⟨(w_66 hw), rfl, hnm⟩) (w_31 hw) (ty := (.object "java/lang/String")) (by decide) rfl rfl gz_x (fun _ => Mark.anew (allS (Or.inr SafeA.nil) all0)) rfl rfl (hb hby d_prog_22_method_1_17) ?_
  intro T140 h140 X140 W140
  have F140 := F_x_name.same W140
  replace E_x := E_x.wr W140
  replace F_x_status := F_x_status.other W140 (Or.inr (slot_ne (Or.inl (w_76 hw)) (Or.inr (w_66 hw)) (by decide) (t := (.object "com/example/steady_pulse/steadypulse/HealthCheckResponse$Status")) (t' := (.object "java/lang/String")) (by decide) (by decide)))
  replace KK := KK.wr W140 (Or.inl (List.mem_of_getElem? (i := 0) rfl))
  replace E_a137 := E_a137.wr W140
  replace F_a137_entrySet := F_a137_entrySet.other W140 (Or.inl (Nat.ne_of_gt lt_x_a137))
  replace F_a137_head := F_a137_head.other W140 (Or.inl (Nat.ne_of_gt lt_x_a137))
  replace F_a137_modCount := F_a137_modCount.other W140 (Or.inl (Nat.ne_of_gt lt_x_a137))
  replace F_x_data := F_x_data.other W140 (Or.inr (slot_ne (Or.inr (w_64 hw)) (Or.inr (w_66 hw)) (by decide) (t := (.object "java/util/Map")) (t' := (.object "java/lang/String")) (by decide) (by decide)))
  clear F_x_name; have F_x_name := F140
  show Goes _ _ _ _ T140 (mkF m 20 #[.val (.ref x), .val (.ref a)] [])
  clear Eo
  refine Goes.outN X140 (fun _ => rfl) hlk (X140.rV hret (hb hby d_prog_22_method_1_20)) ?_ (by decide) (by decide)
  exact ⟨KK, rfl, a137, ⟨E_x, F_x_status, F_x_name, F_x_data⟩, E_a137, F_a137_entrySet, F_a137_head, F_a137_modCount, gk_a137⟩
set_option maxRecDepth 65536 in
set_option maxHeartbeats 40000000 in
theorem own_sts (l : Launch) (Z : State) (a0 : Array Value) (hw : ∀ d ∈ tables_1, d.before a0 Z = true) (h0 : Heap) (hO : Ext Z.heap h0) (x : Addr) (z : Int32) (a : Addr) (q : Addr) (up : Addr) (dn : Addr) (v0 : Value) (OU : Sta Z Z.heap "com/example/steady_pulse/steadypulse/HealthCheckResponse$Status" "UP" "Lcom/example/steady_pulse/steadypulse/HealthCheckResponse$Status;" (.ref up)) (OD : Sta Z Z.heap "com/example/steady_pulse/steadypulse/HealthCheckResponse$Status" "DOWN" "Lcom/example/steady_pulse/steadypulse/HealthCheckResponse$Status;" (.ref dn)) (E_x : Exa Z h0 x "com/example/steady_pulse/steadypulse/HealthCheckResponse$Builder") (F_x_status : Fld Z h0 x "com/example/steady_pulse/steadypulse/HealthCheckResponse$Builder" "status" "Lcom/example/steady_pulse/steadypulse/HealthCheckResponse$Status;" v0) (F_x_name : Fld Z h0 x "com/example/steady_pulse/steadypulse/HealthCheckResponse$Builder" "name" "Ljava/lang/String;" (.ref a)) (F_x_data : Fld Z h0 x "com/example/steady_pulse/steadypulse/HealthCheckResponse$Builder" "data" "Ljava/util/Map;" (.ref q)) (gz_x : Z.heap.size ≤ x) :
    CtrN l Z (⟨"com/example/steady_pulse/steadypulse/HealthCheckResponse$Builder", "status", "(Z)Lcom/example/steady_pulse/steadypulse/HealthCheckResponse$Builder;"⟩ : MethodName) prog_22_method_8_code 2 (some (.object "com/example/steady_pulse/steadypulse/HealthCheckResponse$Builder")) ({ frames := 0, cells := 0, slots := 0, locals := 0 } : Room) #[(.ref x), (.int z)] h0 (fun v h' => Keep h0 h' [x] ∧ v = some (.ref x) ∧ Exa Z h' x "com/example/steady_pulse/steadypulse/HealthCheckResponse$Builder" ∧ Fld Z h' x "com/example/steady_pulse/steadypulse/HealthCheckResponse$Builder" "status" "Lcom/example/steady_pulse/steadypulse/HealthCheckResponse$Status;" (.ref (if z = 0 then dn else up)) ∧ Fld Z h' x "com/example/steady_pulse/steadypulse/HealthCheckResponse$Builder" "name" "Ljava/lang/String;" (.ref a) ∧ Fld Z h' x "com/example/steady_pulse/steadypulse/HealthCheckResponse$Builder" "data" "Ljava/util/Map;" (.ref q)) := by
  refine CtrN.of (plainFor_of_name pn_15) hO ?_
  intro p e s m below meth cD_ T0 X0 hsh hby hml hret hlk hnm
  refine Goes.cast (ef_own_sts m x z) ?_
  show Goes _ _ _ _ T0 (mkF m 0 #[.val (.ref x), .val (.int z)] [])
  have KK : Keep h0 h0 [x] := Keep.refl _ _
  refine Goes.go (fun _ kS_ => XS.aloadN X0.here X0.ex rfl (hb hby d_prog_22_method_8_0) rfl rfl (XS.iloadN X0.here X0.ex rfl (hb hby d_prog_22_method_8_1) rfl kS_)) ?_
  show Goes _ _ _ _ T0 (mkF m 2 #[.val (.ref x), .val (.int z)] [(.int z), (.ref x)])
  refine Goes.ifc (pc' := 11) X0.here X0.ex (hb hby d_prog_22_method_8_2) (by decide) (by decide) (fun hc2 => ?_) (fun hc2 => ?_)
  · have hc2 : z = (0 : Int32) := hc2
    show Goes _ _ _ _ T0 (mkF m 11 #[.val (.ref x), .val (.int z)] [(.ref x)])
    refine Wk.getS X0 (host := "") (Or.inl (w_72 hw)) Via.refl OD rfl (hb hby d_prog_22_method_8_11) ?_
    intro T145 X145
    show Goes _ _ _ _ T145 (mkF m 14 #[.val (.ref x), .val (.int z)] [(.ref dn), (.ref x)])
    have Eo := E_x
    refine Wk.putF (hm' := fun h' => h') X145 (host := "") (Or.inl (w_75 hw)) Via.refl F_x_status E_x (Or.inl (w_76 hw)) (w_31 hw) (ty := (.object "com/example/steady_pulse/steadypulse/HealthCheckResponse$Status")) (by decide) rfl rfl gz_x (fun _ => Mark.anew (allS (Or.inr SafeA.nil) all0)) rfl rfl (hb hby d_prog_22_method_8_14) ?_
    intro T146 h146 X146 W146
    have F146 := F_x_status.same W146
    replace E_x := E_x.wr W146
    replace F_x_name := F_x_name.other W146 (Or.inr (slot_ne (Or.inr (w_66 hw)) (Or.inl (w_76 hw)) (by decide) (t := (.object "java/lang/String")) (t' := (.object "com/example/steady_pulse/steadypulse/HealthCheckResponse$Status")) (by decide) (by decide)))
    replace F_x_data := F_x_data.other W146 (Or.inr (slot_ne (Or.inr (w_64 hw)) (Or.inl (w_76 hw)) (by decide) (t := (.object "java/util/Map")) (t' := (.object "com/example/steady_pulse/steadypulse/HealthCheckResponse$Status")) (by decide) (by decide)))
    replace KK := KK.wr W146 (Or.inl (List.mem_of_getElem? (i := 0) rfl))
    clear F_x_status; have F_x_status := F146
    show Goes _ _ _ _ T146 (mkF m 17 #[.val (.ref x), .val (.int z)] [])
    clear Eo
    refine Goes.go (fun _ kS_ => XS.aloadN X146.here X146.ex rfl (hb hby d_prog_22_method_8_17) rfl rfl kS_) ?_
    show Goes _ _ _ _ T146 (mkF m 18 #[.val (.ref x), .val (.int z)] [(.ref x)])
    refine Goes.outN X146 (fun q => by rw [hret] at q; cases q) hlk (X146.rA hret rfl rfl (hb hby d_prog_22_method_8_18)) ?_ (by decide) (by decide)
    exact ⟨KK, rfl, E_x, by rw [if_pos hc2]; exact F_x_status, F_x_name, F_x_data⟩
  · have hc2 : ¬ (z = (0 : Int32)) := hc2
    show Goes _ _ _ _ T0 (mkF m 5 #[.val (.ref x), .val (.int z)] [(.ref x)])
    refine Wk.getS X0 (host := "") (Or.inl (w_278 hw)) Via.refl OU rfl (hb hby d_prog_22_method_8_5) ?_
    intro T147 X147
    show Goes _ _ _ _ T147 (mkF m 8 #[.val (.ref x), .val (.int z)] [(.ref up), (.ref x)])
    refine Goes.go (fun _ kS_ => XS.goto X147.here X147.ex rfl (pc0 := 8) (pc' := 14) rfl (hb hby d_prog_22_method_8_8) (by decide) (by decide) kS_) ?_
    show Goes _ _ _ _ T147 (mkF m 14 #[.val (.ref x), .val (.int z)] [(.ref up), (.ref x)])
    have Eo := E_x
    refine Wk.putF (hm' := fun h' => h') X147 (host := "") (Or.inl (w_75 hw)) Via.refl F_x_status E_x (Or.inl (w_76 hw)) (w_31 hw) (ty := (.object "com/example/steady_pulse/steadypulse/HealthCheckResponse$Status")) (by decide) rfl rfl gz_x (fun _ => Mark.anew (allS (Or.inr SafeA.nil) all0)) rfl rfl (hb hby d_prog_22_method_8_14) ?_
    intro T148 h148 X148 W148
    have F148 := F_x_status.same W148
    replace E_x := E_x.wr W148
    replace F_x_name := F_x_name.other W148 (Or.inr (slot_ne (Or.inr (w_66 hw)) (Or.inl (w_76 hw)) (by decide) (t := (.object "java/lang/String")) (t' := (.object "com/example/steady_pulse/steadypulse/HealthCheckResponse$Status")) (by decide) (by decide)))
    replace F_x_data := F_x_data.other W148 (Or.inr (slot_ne (Or.inr (w_64 hw)) (Or.inl (w_76 hw)) (by decide) (t := (.object "java/util/Map")) (t' := (.object "com/example/steady_pulse/steadypulse/HealthCheckResponse$Status")) (by decide) (by decide)))
    replace KK := KK.wr W148 (Or.inl (List.mem_of_getElem? (i := 0) rfl))
    clear F_x_status; have F_x_status := F148
    show Goes _ _ _ _ T148 (mkF m 17 #[.val (.ref x), .val (.int z)] [])
    clear Eo
    refine Goes.go (fun _ kS_ => XS.aloadN X148.here X148.ex rfl (hb hby d_prog_22_method_8_17) rfl rfl kS_) ?_
    show Goes _ _ _ _ T148 (mkF m 18 #[.val (.ref x), .val (.int z)] [(.ref x)])
    refine Goes.outN X148 (fun q => by rw [hret] at q; cases q) hlk (X148.rA hret rfl rfl (hb hby d_prog_22_method_8_18)) ?_ (by decide) (by decide)
    exact ⟨KK, rfl, E_x, by rw [if_neg hc2]; exact F_x_status, F_x_name, F_x_data⟩
set_option maxRecDepth 65536 in
set_option maxHeartbeats 40000000 in
theorem own_build (l : Launch) (Z : State) (a0 : Array Value) (hw : ∀ d ∈ tables_1, d.before a0 Z = true) (hEL : EW Z a0 []) (h0 : Heap) (hO : Ext Z.heap h0) (x : Addr) (a : Addr) (u : Addr) (q : Addr) (c1 : Int32) (G1 : Int32) (ci : Addr) (aA : Addr) (clA : Cell) (c1m : Addr) (c2m : Addr) (O2 : Sta Z Z.heap "java/lang/String" "COMPACT_STRINGS" "Z" (.int G1)) (P5 : ¬ (G1 = (0 : Int32))) (OI : Sta Z Z.heap "java/lang/CharacterDataLatin1" "instance" "Ljava/lang/CharacterDataLatin1;" (.ref ci)) (EI : Exa Z Z.heap ci "java/lang/CharacterDataLatin1") (OQ : Sta Z Z.heap "java/lang/CharacterDataLatin1" "A" "[I" (.ref aA)) (AA : Arr Z Z.heap aA clA .int) (hA : clA.slots[110]? = some (.int (8486882 : Int32))) (hA2 : 110 < clA.slots.size) (M1 : MirC Z "java/util/LinkedHashMap" c1m) (M2 : MirC Z "java/util/Collections$UnmodifiableMap" c2m) (E_x : Exa Z h0 x "com/example/steady_pulse/steadypulse/HealthCheckResponse$Builder") (F_x_status : Fld Z h0 x "com/example/steady_pulse/steadypulse/HealthCheckResponse$Builder" "status" "Lcom/example/steady_pulse/steadypulse/HealthCheckResponse$Status;" (.ref u)) (F_x_name : Fld Z h0 x "com/example/steady_pulse/steadypulse/HealthCheckResponse$Builder" "name" "Ljava/lang/String;" (.ref a)) (F_x_data : Fld Z h0 x "com/example/steady_pulse/steadypulse/HealthCheckResponse$Builder" "data" "Ljava/util/Map;" (.ref q)) (S_a : LStr Z h0 a [(110 : Int32), c1]) (E_q : Exa Z h0 q "java/util/LinkedHashMap") (F_q_entrySet : Fld Z h0 q "java/util/HashMap" "entrySet" "Ljava/util/Set;" .null) (F_q_head : Fld Z h0 q "java/util/LinkedHashMap" "head" "Ljava/util/LinkedHashMap$Entry;" .null) (F_q_modCount : Fld Z h0 q "java/util/HashMap" "modCount" "I" (.int (0 : Int32))) (gz_q : Z.heap.size ≤ q) :
    CtrS l Z [] (⟨"com/example/steady_pulse/steadypulse/HealthCheckResponse$Builder", "build", "()Lcom/example/steady_pulse/steadypulse/HealthCheckResponse;"⟩ : MethodName) prog_22_method_9_code 1 (some (.object "com/example/steady_pulse/steadypulse/HealthCheckResponse")) ({ frames := 7, cells := 11, slots := 94, locals := 98 } : Room) #[(.ref x)] h0 (fun v h' => Keep h0 h' [q] ∧ ∃ r, v = some (.ref r) ∧ Exa Z h' r "com/example/steady_pulse/steadypulse/HealthCheckResponse" ∧ Fld Z h' r "com/example/steady_pulse/steadypulse/HealthCheckResponse" "status" "Lcom/example/steady_pulse/steadypulse/HealthCheckResponse$Status;" (.ref u) ∧ Fld Z h' r "com/example/steady_pulse/steadypulse/HealthCheckResponse" "name" "Ljava/lang/String;" (.ref a)) := by
  refine CtrS.of (plainFor_of_name pn_15) hO ?_
  intro p e s m below meth cD_ T0 X0 hsh hby hml hret hlk hnm
  refine Goes.cast (ef_own_build m x) ?_
  show Goes _ _ _ _ T0 (mkF m 0 #[.val (.ref x)] [])
  have KK : Keep h0 h0 [q] := Keep.refl _ _
  refine Goes.go (fun _ kS_ => XS.aloadN X0.here X0.ex rfl (hb hby d_prog_22_method_9_0) rfl rfl kS_) ?_
  show Goes _ _ _ _ T0 (mkF m 1 #[.val (.ref x)] [(.ref x)])
  refine Wk.getF X0 (host := "") (Or.inl (w_75 hw)) Via.refl F_x_status rfl rfl (hb hby d_prog_22_method_9_1) ?_
  intro T155 X155
  show Goes _ _ _ _ T155 (mkF m 4 #[.val (.ref x)] [(.ref u)])
  refine Goes.go (fun _ kS_ => XS.ifnonnullYes X155.here X155.ex rfl (pc0 := 4) (pc' := 24) rfl (hb hby d_prog_22_method_9_4) rfl (by decide) (by decide) kS_) ?_
  show Goes _ _ _ _ T155 (mkF m 24 #[.val (.ref x)] [])
  refine Wk.new X155 (w_82 hw) (w_83 hw) (w_84 hw) rfl (hb hby d_prog_22_method_9_24) (by decide) (by decide) ?_
  intro T156 h156 a156 g156 X156 E156 A156 D156
  have lt_x_a156 : x < a156 := by rw [g156]; exact E_x.lt
  have lt_a_a156 : a < a156 := by rw [g156]; exact S_a.lt
  have lt_q_a156 : q < a156 := by rw [g156]; exact E_q.lt
  replace E_x := E_x.ext E156
  replace F_x_status := F_x_status.ext E156
  replace F_x_name := F_x_name.ext E156
  replace F_x_data := F_x_data.ext E156
  replace S_a := S_a.ext E156
  replace E_q := E_q.ext E156
  replace F_q_entrySet := F_q_entrySet.ext E156
  replace F_q_head := F_q_head.ext E156
  replace F_q_modCount := F_q_modCount.ext E156
  replace KK := KK.ext E156
  have gz_a156 : Z.heap.size ≤ a156 := g156 ▸ X155.old.1
  have gm_a156 : h0.size ≤ a156 := g156 ▸ X155.ext.1
  have F_a156_name : Fld Z h156 a156 "com/example/steady_pulse/steadypulse/HealthCheckResponse" "name" "Ljava/lang/String;" .null := D156 (Or.inr (w_234 hw)) (ty := (.object "java/lang/String")) (by decide)
  have F_a156_status : Fld Z h156 a156 "com/example/steady_pulse/steadypulse/HealthCheckResponse" "status" "Lcom/example/steady_pulse/steadypulse/HealthCheckResponse$Status;" .null := D156 (Or.inr (w_236 hw)) (ty := (.object "com/example/steady_pulse/steadypulse/HealthCheckResponse$Status")) (by decide)
  have F_a156_data : Fld Z h156 a156 "com/example/steady_pulse/steadypulse/HealthCheckResponse" "data" "Ljava/util/Map;" .null := D156 (Or.inr (w_261 hw)) (ty := (.object "java/util/Map")) (by decide)
  clear D156
  show Goes _ _ _ _ T156 (mkF m 27 #[.val (.ref x)] [(.ref a156)])
  refine Goes.go (fun _ kS_ => XS.dup X156.here X156.ex rfl (hb hby d_prog_22_method_9_27) rfl rfl (XS.aloadN X156.here X156.ex rfl (hb hby d_prog_22_method_9_28) rfl rfl kS_)) ?_
  show Goes _ _ _ _ T156 (mkF m 29 #[.val (.ref x)] [(.ref x), (.ref a156), (.ref a156)])
  refine Wk.getF X156 (host := "") (Or.inl (w_65 hw)) Via.refl F_x_name rfl rfl (hb hby d_prog_22_method_9_29) ?_
  intro T157 X157
  show Goes _ _ _ _ T157 (mkF m 32 #[.val (.ref x)] [(.ref a), (.ref a156), (.ref a156)])
  refine Goes.go (fun _ kS_ => XS.aloadN X157.here X157.ex rfl (hb hby d_prog_22_method_9_32) rfl rfl kS_) ?_
  show Goes _ _ _ _ T157 (mkF m 33 #[.val (.ref x)] [(.ref x), (.ref a), (.ref a156), (.ref a156)])
  refine Wk.getF X157 (host := "") (Or.inl (w_75 hw)) Via.refl F_x_status rfl rfl (hb hby d_prog_22_method_9_33) ?_
  intro T158 X158
  show Goes _ _ _ _ T158 (mkF m 36 #[.val (.ref x)] [(.ref u), (.ref a), (.ref a156), (.ref a156)])
  refine Goes.go (fun _ kS_ => XS.aloadN X158.here X158.ex rfl (hb hby d_prog_22_method_9_36) rfl rfl kS_) ?_
  show Goes _ _ _ _ T158 (mkF m 37 #[.val (.ref x)] [(.ref x), (.ref u), (.ref a), (.ref a156), (.ref a156)])
  refine Wk.getF X158 (host := "") (Or.inl (w_63 hw)) Via.refl F_x_data rfl rfl (hb hby d_prog_22_method_9_37) ?_
  intro T159 X159
  show Goes _ _ _ _ T159 (mkF m 40 #[.val (.ref x)] [(.ref q), (.ref u), (.ref a), (.ref a156), (.ref a156)])
  refine Wk.specialS (y := (⟨"com/example/steady_pulse/steadypulse/HealthCheckResponse", "<init>", "(Ljava/lang/String;Lcom/example/steady_pulse/steadypulse/HealthCheckResponse$Status;Ljava/util/Map;)V"⟩ : MethodName)) (W := 1) (kc := 10) (ks := 91) (argsL := [(.ref a), (.ref u), (.ref q)]) (rest := [(.ref a156)]) (as' := #[(.ref a156), (.ref a), (.ref u), (.ref q)]) (ws := [a156, q]) X159 rfl (w_85 hw) (w_86 hw) (w_87 hw) (by decide) (CtrS.pays (own_hcr l Z a0 hw hEL h156 X159.old a156 a u q c1 G1 ci aA clA c1m c2m O2 P5 OI EI OQ AA hA hA2 M1 M2 A156 F_a156_name F_a156_status F_a156_data gz_a156 S_a E_q F_q_entrySet F_q_head F_q_modCount gz_q) (w_87 hw) (w_84 hw) (by decide) (by decide) hEL) (fun v h' L q => ⟨q.2, q.1.1⟩) (allS gz_a156 (allS gz_q all0)) rfl (by rw [hml]; rfl) (lenOf pd_15 rfl) rfl rfl (by show 2 * 0 + _ ≤ _; exact Nat.le_of_eq rfl) (hb hby d_prog_22_method_9_40) (by decide) (by decide) ?_
  intro T160 h160 v160 L160 X160 q160 K160
  obtain ⟨⟨-, rfl, Er160, Fs160, Fn160⟩, -⟩ := q160
  replace KK := KK.trans K160 (allS (Or.inr gm_a156) (allS (Or.inl (List.mem_of_getElem? (i := 0) rfl)) all0))
  show Goes _ _ _ _ T160 (mkF m 43 #[.val (.ref x)] [(.ref a156)])
  refine Goes.outS X160 hEL (fun q => by rw [hret] at q; cases q) hlk (X160.rA hret rfl rfl (hb hby d_prog_22_method_9_43)) ?_ (by decide) (by decide)
  exact ⟨KK, a156, rfl, Er160, Fs160, Fn160⟩
set_option maxRecDepth 65536 in
set_option maxHeartbeats 40000000 in
theorem own_gs (l : Launch) (Z : State) (a0 : Array Value) (hw : ∀ d ∈ tables_1, d.before a0 Z = true) (h0 : Heap) (hO : Ext Z.heap h0) (x : Addr) (u : Addr) (F : Fld Z h0 x "com/example/steady_pulse/steadypulse/HealthCheckResponse" "status" "Lcom/example/steady_pulse/steadypulse/HealthCheckResponse$Status;" (.ref u)) :
    CtrN l Z (⟨"com/example/steady_pulse/steadypulse/HealthCheckResponse", "getStatus", "()Lcom/example/steady_pulse/steadypulse/HealthCheckResponse$Status;"⟩ : MethodName) prog_21_method_7_code 1 (some (.object "com/example/steady_pulse/steadypulse/HealthCheckResponse$Status")) ({ frames := 0, cells := 0, slots := 0, locals := 0 } : Room) #[(.ref x)] h0 (fun v h' => Keep h0 h' [] ∧ v = some (.ref u)) := by
  refine CtrN.of (plainFor_of_name pn_14) hO ?_
  intro p e s m below meth cD_ T0 X0 hsh hby hml hret hlk hnm
  refine Goes.cast (ef_own_gs m x) ?_
  show Goes _ _ _ _ T0 (mkF m 0 #[.val (.ref x)] [])
  refine Goes.go (fun _ kS_ => XS.aloadN X0.here X0.ex rfl (hb hby d_prog_21_method_7_0) rfl rfl kS_) ?_
  show Goes _ _ _ _ T0 (mkF m 1 #[.val (.ref x)] [(.ref x)])
  refine Wk.getF X0 (host := "") (Or.inl (w_235 hw)) Via.refl F rfl rfl (hb hby d_prog_21_method_7_1) ?_
  intro T162 X162
  show Goes _ _ _ _ T162 (mkF m 4 #[.val (.ref x)] [(.ref u)])
  refine Goes.outN X162 (fun q => by rw [hret] at q; cases q) hlk (X162.rA hret rfl rfl (hb hby d_prog_21_method_7_4)) ?_ (by decide) (by decide)
  exact ⟨Ext.oKeepOf X162.ext [], rfl⟩
set_option maxRecDepth 65536 in
set_option maxHeartbeats 40000000 in
theorem own_gn (l : Launch) (Z : State) (a0 : Array Value) (hw : ∀ d ∈ tables_1, d.before a0 Z = true) (h0 : Heap) (hO : Ext Z.heap h0) (x : Addr) (u : Addr) (F : Fld Z h0 x "com/example/steady_pulse/steadypulse/HealthCheckResponse" "name" "Ljava/lang/String;" (.ref u)) :
    CtrN l Z (⟨"com/example/steady_pulse/steadypulse/HealthCheckResponse", "getName", "()Ljava/lang/String;"⟩ : MethodName) prog_21_method_6_code 1 (some (.object "java/lang/String")) ({ frames := 0, cells := 0, slots := 0, locals := 0 } : Room) #[(.ref x)] h0 (fun v h' => Keep h0 h' [] ∧ v = some (.ref u)) := by
  refine CtrN.of (plainFor_of_name pn_14) hO ?_
  intro p e s m below meth cD_ T0 X0 hsh hby hml hret hlk hnm
  refine Goes.cast (ef_own_gn m x) ?_
  show Goes _ _ _ _ T0 (mkF m 0 #[.val (.ref x)] [])
  refine Goes.go (fun _ kS_ => XS.aloadN X0.here X0.ex rfl (hb hby d_prog_21_method_6_0) rfl rfl kS_) ?_
  show Goes _ _ _ _ T0 (mkF m 1 #[.val (.ref x)] [(.ref x)])
  refine Wk.getF X0 (host := "") (Or.inl (w_233 hw)) Via.refl F rfl rfl (hb hby d_prog_21_method_6_1) ?_
  intro T164 X164
  show Goes _ _ _ _ T164 (mkF m 4 #[.val (.ref x)] [(.ref u)])
  refine Goes.outN X164 (fun q => by rw [hret] at q; cases q) hlk (X164.rA hret rfl rfl (hb hby d_prog_21_method_6_4)) ?_ (by decide) (by decide)
  exact ⟨Ext.oKeepOf X164.ext [], rfl⟩
set_option maxRecDepth 65536 in
set_option maxHeartbeats 40000000 in
theorem own_eqs (l : Launch) (Z : State) (a0 : Array Value) (hw : ∀ d ∈ tables_1, d.before a0 Z = true) (h0 : Heap) (hO : Ext Z.heap h0) (x : Addr)  :
    CtrN l Z (⟨"java/lang/String", "equals", "(Ljava/lang/Object;)Z"⟩ : MethodName) jdk_42_method_66_code 3 (some .boolean) ({ frames := 0, cells := 0, slots := 0, locals := 0 } : Room) #[(.ref x), (.ref x)] h0 (fun v h' => Keep h0 h' [] ∧ v = some (.int (1 : Int32))) := by
  refine CtrN.of (plainFor_of_name pn_8) hO ?_
  intro p e s m below meth cD_ T0 X0 hsh hby hml hret hlk hnm
  refine Goes.cast (ef_own_eqs m x) ?_
  show Goes _ _ _ _ T0 (mkF m 0 #[.val (.ref x), .val (.ref x), .unset] [])
  refine Goes.go (fun _ kS_ => XS.aloadN X0.here X0.ex rfl (hb hby d_jdk_42_method_66_0) rfl rfl (XS.aloadN X0.here X0.ex rfl (hb hby d_jdk_42_method_66_1) rfl rfl (Jvm.Free.XT.acmpNo X0.here X0.ex rfl (hb hby d_jdk_42_method_66_2) rfl rfl rfl (own_acmp_ne rfl) (XS.iconst X0.here X0.ex rfl (hb hby d_jdk_42_method_66_5) kS_)))) ?_
  show Goes _ _ _ _ T0 (mkF m 6 #[.val (.ref x), .val (.ref x), .unset] [(.int (1 : Int32))])
  refine Goes.outN X0 (fun q => by rw [hret] at q; cases q) hlk (X0.rB hret (by simp) (hb hby d_jdk_42_method_66_6)) ?_ (by decide) (by decide)
  exact ⟨Ext.oKeepOf X0.ext [], rfl⟩
set_option maxRecDepth 65536 in
set_option maxHeartbeats 40000000 in
theorem own_law (l : Launch) (Z : State) (a0 : Array Value) (hw : ∀ d ∈ tables_1, d.before a0 Z = true) (hEL : EW Z a0 []) (h0 : Heap) (hO : Ext Z.heap h0) (i0 : Int32) (i1 : Int32) (G1 : Int32) (up : Addr) (dn : Addr) (ci : Addr) (aA : Addr) (clA : Cell) (c1m : Addr) (c2m : Addr) (O2 : Sta Z Z.heap "java/lang/String" "COMPACT_STRINGS" "Z" (.int G1)) (P5 : ¬ (G1 = (0 : Int32))) (OI : Sta Z Z.heap "java/lang/CharacterDataLatin1" "instance" "Ljava/lang/CharacterDataLatin1;" (.ref ci)) (EI : Exa Z Z.heap ci "java/lang/CharacterDataLatin1") (OQ : Sta Z Z.heap "java/lang/CharacterDataLatin1" "A" "[I" (.ref aA)) (AA : Arr Z Z.heap aA clA .int) (hA : clA.slots[110]? = some (.int (8486882 : Int32))) (hA2 : 110 < clA.slots.size) (M1 : MirC Z "java/util/LinkedHashMap" c1m) (M2 : MirC Z "java/util/Collections$UnmodifiableMap" c2m) (OU : Sta Z Z.heap "com/example/steady_pulse/steadypulse/HealthCheckResponse$Status" "UP" "Lcom/example/steady_pulse/steadypulse/HealthCheckResponse$Status;" (.ref up)) (OD : Sta Z Z.heap "com/example/steady_pulse/steadypulse/HealthCheckResponse$Status" "DOWN" "Lcom/example/steady_pulse/steadypulse/HealthCheckResponse$Status;" (.ref dn)) :
    CtrS l Z [] x code maxLocals ret room_1 #[(.int i0), (.int i1)] h0 (fun v h' => v = some (.int (1 : Int32))) := by
  refine CtrS.of (plainFor_of_name pn_16) hO ?_
  intro p e s m below meth cD_ T0 X0 hsh hby hml hret hlk hnm
  refine Goes.cast (ef_own_law m i0 i1) ?_
  show Goes _ _ _ _ T0 (mkF m 0 #[.val (.int i0), .val (.int i1), .unset, .unset, .unset, .unset, .unset, .unset, .unset, .unset, .unset, .unset] [])
  refine Goes.go (fun _ kS_ => XS.iloadN X0.here X0.ex rfl (hb hby at_0) rfl (XS.iconst X0.here X0.ex rfl (hb hby at_1) (XS.iand X0.here X0.ex rfl (hb hby at_2) rfl kS_))) ?_
  show Goes _ _ _ _ T0 (mkF m 3 #[.val (.int i0), .val (.int i1), .unset, .unset, .unset, .unset, .unset, .unset, .unset, .unset, .unset, .unset] [(.int (i0 &&& (1 : Int32)))])
  suffices hJ3 : Goes p.tables e below (EndS Z s [] room_1.cells room_1.slots (fun v h' => v = some (.int (1 : Int32)))) T0 (mkF m 11 #[.val (.int i0), .val (.int i1), .unset, .unset, .unset, .unset, .unset, .unset, .unset, .unset, .unset, .unset] [(.int (if (i0 &&& (1 : Int32)) = (0 : Int32) then (0 : Int32) else (1 : Int32)))]) by
    refine Goes.ifc (pc' := 10) X0.here X0.ex (hb hby at_3) (by decide) (by decide) (fun hr1 => ?_) (fun hr1 => ?_)
    · have hr1 : (i0 &&& (1 : Int32)) = (0 : Int32) := hr1
      show Goes _ _ _ _ T0 (mkF m 10 #[.val (.int i0), .val (.int i1), .unset, .unset, .unset, .unset, .unset, .unset, .unset, .unset, .unset, .unset] [])
      refine Goes.go (fun _ kS_ => XS.iconst X0.here X0.ex rfl (hb hby at_10) kS_) ?_
      show Goes _ _ _ _ T0 (mkF m 11 #[.val (.int i0), .val (.int i1), .unset, .unset, .unset, .unset, .unset, .unset, .unset, .unset, .unset, .unset] [(.int (0 : Int32))])
      (try simp only [if_pos hr1] at hJ3 ⊢)
      exact hJ3
    · have hr1 : ¬ ((i0 &&& (1 : Int32)) = (0 : Int32)) := hr1
      show Goes _ _ _ _ T0 (mkF m 6 #[.val (.int i0), .val (.int i1), .unset, .unset, .unset, .unset, .unset, .unset, .unset, .unset, .unset, .unset] [])
      refine Goes.go (fun _ kS_ => XS.iconst X0.here X0.ex rfl (hb hby at_6) (XS.goto X0.here X0.ex rfl (pc0 := 7) (pc' := 11) rfl (hb hby at_7) (by decide) (by decide) kS_)) ?_
      show Goes _ _ _ _ T0 (mkF m 11 #[.val (.int i0), .val (.int i1), .unset, .unset, .unset, .unset, .unset, .unset, .unset, .unset, .unset, .unset] [(.int (1 : Int32))])
      (try simp only [if_neg hr1] at hJ3 ⊢)
      exact hJ3
  refine Goes.go (fun _ kS_ => XS.istoreN X0.here X0.ex rfl (hb hby at_11) rfl (l' := #[.val (.int i0), .val (.int i1), .val (.int (if (i0 &&& (1 : Int32)) = (0 : Int32) then (0 : Int32) else (1 : Int32))), .unset, .unset, .unset, .unset, .unset, .unset, .unset, .unset, .unset]) rfl kS_) ?_
  show Goes _ _ _ _ T0 (mkF m 12 #[.val (.int i0), .val (.int i1), .val (.int (if (i0 &&& (1 : Int32)) = (0 : Int32) then (0 : Int32) else (1 : Int32))), .unset, .unset, .unset, .unset, .unset, .unset, .unset, .unset, .unset] [])
  obtain ⟨z2, hz2⟩ : ∃ z : Int32, z = (if (i0 &&& (1 : Int32)) = (0 : Int32) then (0 : Int32) else (1 : Int32)) := ⟨_, rfl⟩
  refine Goes.cast (show (mkF m 12 #[.val (.int i0), .val (.int i1), .val (.int (if (i0 &&& (1 : Int32)) = (0 : Int32) then (0 : Int32) else (1 : Int32))), .unset, .unset, .unset, .unset, .unset, .unset, .unset, .unset, .unset] []) = (mkF m 12 #[.val (.int i0), .val (.int i1), .val (.int z2), .unset, .unset, .unset, .unset, .unset, .unset, .unset, .unset, .unset] []) from by rw [hz2]) ?_
  show Goes _ _ _ _ T0 (mkF m 12 #[.val (.int i0), .val (.int i1), .val (.int z2), .unset, .unset, .unset, .unset, .unset, .unset, .unset, .unset, .unset] [])
  refine Goes.go (fun _ kS_ => XS.iloadN X0.here X0.ex rfl (hb hby at_12) rfl (XS.iconst X0.here X0.ex rfl (hb hby at_13) (XS.iand X0.here X0.ex rfl (hb hby at_14) rfl kS_))) ?_
  show Goes _ _ _ _ T0 (mkF m 15 #[.val (.int i0), .val (.int i1), .val (.int z2), .unset, .unset, .unset, .unset, .unset, .unset, .unset, .unset, .unset] [(.int (i0 &&& (2 : Int32)))])
  suffices hJ15 : Goes p.tables e below (EndS Z s [] room_1.cells room_1.slots (fun v h' => v = some (.int (1 : Int32)))) T0 (mkF m 23 #[.val (.int i0), .val (.int i1), .val (.int z2), .unset, .unset, .unset, .unset, .unset, .unset, .unset, .unset, .unset] [(.int (if (i0 &&& (2 : Int32)) = (0 : Int32) then (0 : Int32) else (1 : Int32)))]) by
    refine Goes.ifc (pc' := 22) X0.here X0.ex (hb hby at_15) (by decide) (by decide) (fun hr1 => ?_) (fun hr1 => ?_)
    · have hr1 : (i0 &&& (2 : Int32)) = (0 : Int32) := hr1
      show Goes _ _ _ _ T0 (mkF m 22 #[.val (.int i0), .val (.int i1), .val (.int z2), .unset, .unset, .unset, .unset, .unset, .unset, .unset, .unset, .unset] [])
      refine Goes.go (fun _ kS_ => XS.iconst X0.here X0.ex rfl (hb hby at_22) kS_) ?_
      show Goes _ _ _ _ T0 (mkF m 23 #[.val (.int i0), .val (.int i1), .val (.int z2), .unset, .unset, .unset, .unset, .unset, .unset, .unset, .unset, .unset] [(.int (0 : Int32))])
      (try simp only [if_pos hr1] at hJ15 ⊢)
      exact hJ15
    · have hr1 : ¬ ((i0 &&& (2 : Int32)) = (0 : Int32)) := hr1
      show Goes _ _ _ _ T0 (mkF m 18 #[.val (.int i0), .val (.int i1), .val (.int z2), .unset, .unset, .unset, .unset, .unset, .unset, .unset, .unset, .unset] [])
      refine Goes.go (fun _ kS_ => XS.iconst X0.here X0.ex rfl (hb hby at_18) (XS.goto X0.here X0.ex rfl (pc0 := 19) (pc' := 23) rfl (hb hby at_19) (by decide) (by decide) kS_)) ?_
      show Goes _ _ _ _ T0 (mkF m 23 #[.val (.int i0), .val (.int i1), .val (.int z2), .unset, .unset, .unset, .unset, .unset, .unset, .unset, .unset, .unset] [(.int (1 : Int32))])
      (try simp only [if_neg hr1] at hJ15 ⊢)
      exact hJ15
  refine Goes.go (fun _ kS_ => XS.istoreN X0.here X0.ex rfl (hb hby at_23) rfl (l' := #[.val (.int i0), .val (.int i1), .val (.int z2), .val (.int (if (i0 &&& (2 : Int32)) = (0 : Int32) then (0 : Int32) else (1 : Int32))), .unset, .unset, .unset, .unset, .unset, .unset, .unset, .unset]) rfl kS_) ?_
  show Goes _ _ _ _ T0 (mkF m 24 #[.val (.int i0), .val (.int i1), .val (.int z2), .val (.int (if (i0 &&& (2 : Int32)) = (0 : Int32) then (0 : Int32) else (1 : Int32))), .unset, .unset, .unset, .unset, .unset, .unset, .unset, .unset] [])
  obtain ⟨z3, hz3⟩ : ∃ z : Int32, z = (if (i0 &&& (2 : Int32)) = (0 : Int32) then (0 : Int32) else (1 : Int32)) := ⟨_, rfl⟩
  refine Goes.cast (show (mkF m 24 #[.val (.int i0), .val (.int i1), .val (.int z2), .val (.int (if (i0 &&& (2 : Int32)) = (0 : Int32) then (0 : Int32) else (1 : Int32))), .unset, .unset, .unset, .unset, .unset, .unset, .unset, .unset] []) = (mkF m 24 #[.val (.int i0), .val (.int i1), .val (.int z2), .val (.int z3), .unset, .unset, .unset, .unset, .unset, .unset, .unset, .unset] []) from by rw [hz3]) ?_
  show Goes _ _ _ _ T0 (mkF m 24 #[.val (.int i0), .val (.int i1), .val (.int z2), .val (.int z3), .unset, .unset, .unset, .unset, .unset, .unset, .unset, .unset] [])
  refine Goes.go (fun _ kS_ => XS.iloadN X0.here X0.ex rfl (hb hby at_24) rfl (XS.iconst X0.here X0.ex rfl (hb hby at_25) (XS.iand X0.here X0.ex rfl (hb hby at_26) rfl kS_))) ?_
  show Goes _ _ _ _ T0 (mkF m 27 #[.val (.int i0), .val (.int i1), .val (.int z2), .val (.int z3), .unset, .unset, .unset, .unset, .unset, .unset, .unset, .unset] [(.int (i0 &&& (4 : Int32)))])
  suffices hJ27 : Goes p.tables e below (EndS Z s [] room_1.cells room_1.slots (fun v h' => v = some (.int (1 : Int32)))) T0 (mkF m 35 #[.val (.int i0), .val (.int i1), .val (.int z2), .val (.int z3), .unset, .unset, .unset, .unset, .unset, .unset, .unset, .unset] [(.int (if (i0 &&& (4 : Int32)) = (0 : Int32) then (0 : Int32) else (1 : Int32)))]) by
    refine Goes.ifc (pc' := 34) X0.here X0.ex (hb hby at_27) (by decide) (by decide) (fun hr1 => ?_) (fun hr1 => ?_)
    · have hr1 : (i0 &&& (4 : Int32)) = (0 : Int32) := hr1
      show Goes _ _ _ _ T0 (mkF m 34 #[.val (.int i0), .val (.int i1), .val (.int z2), .val (.int z3), .unset, .unset, .unset, .unset, .unset, .unset, .unset, .unset] [])
      refine Goes.go (fun _ kS_ => XS.iconst X0.here X0.ex rfl (hb hby at_34) kS_) ?_
      show Goes _ _ _ _ T0 (mkF m 35 #[.val (.int i0), .val (.int i1), .val (.int z2), .val (.int z3), .unset, .unset, .unset, .unset, .unset, .unset, .unset, .unset] [(.int (0 : Int32))])
      (try simp only [if_pos hr1] at hJ27 ⊢)
      exact hJ27
    · have hr1 : ¬ ((i0 &&& (4 : Int32)) = (0 : Int32)) := hr1
      show Goes _ _ _ _ T0 (mkF m 30 #[.val (.int i0), .val (.int i1), .val (.int z2), .val (.int z3), .unset, .unset, .unset, .unset, .unset, .unset, .unset, .unset] [])
      refine Goes.go (fun _ kS_ => XS.iconst X0.here X0.ex rfl (hb hby at_30) (XS.goto X0.here X0.ex rfl (pc0 := 31) (pc' := 35) rfl (hb hby at_31) (by decide) (by decide) kS_)) ?_
      show Goes _ _ _ _ T0 (mkF m 35 #[.val (.int i0), .val (.int i1), .val (.int z2), .val (.int z3), .unset, .unset, .unset, .unset, .unset, .unset, .unset, .unset] [(.int (1 : Int32))])
      (try simp only [if_neg hr1] at hJ27 ⊢)
      exact hJ27
  refine Goes.go (fun _ kS_ => XS.istore X0.here X0.ex rfl (hb hby at_35) rfl (l' := #[.val (.int i0), .val (.int i1), .val (.int z2), .val (.int z3), .val (.int (if (i0 &&& (4 : Int32)) = (0 : Int32) then (0 : Int32) else (1 : Int32))), .unset, .unset, .unset, .unset, .unset, .unset, .unset]) rfl kS_) ?_
  show Goes _ _ _ _ T0 (mkF m 37 #[.val (.int i0), .val (.int i1), .val (.int z2), .val (.int z3), .val (.int (if (i0 &&& (4 : Int32)) = (0 : Int32) then (0 : Int32) else (1 : Int32))), .unset, .unset, .unset, .unset, .unset, .unset, .unset] [])
  obtain ⟨z4, hz4⟩ : ∃ z : Int32, z = (if (i0 &&& (4 : Int32)) = (0 : Int32) then (0 : Int32) else (1 : Int32)) := ⟨_, rfl⟩
  refine Goes.cast (show (mkF m 37 #[.val (.int i0), .val (.int i1), .val (.int z2), .val (.int z3), .val (.int (if (i0 &&& (4 : Int32)) = (0 : Int32) then (0 : Int32) else (1 : Int32))), .unset, .unset, .unset, .unset, .unset, .unset, .unset] []) = (mkF m 37 #[.val (.int i0), .val (.int i1), .val (.int z2), .val (.int z3), .val (.int z4), .unset, .unset, .unset, .unset, .unset, .unset, .unset] []) from by rw [hz4]) ?_
  show Goes _ _ _ _ T0 (mkF m 37 #[.val (.int i0), .val (.int i1), .val (.int z2), .val (.int z3), .val (.int z4), .unset, .unset, .unset, .unset, .unset, .unset, .unset] [])
  have X165 := X0.mark
  refine Goes.go (fun _ kS_ => XS.iconst X165.here X165.ex rfl (hb hby at_37) kS_) ?_
  show Goes _ _ _ _ T0 (mkF m 38 #[.val (.int i0), .val (.int i1), .val (.int z2), .val (.int z3), .val (.int z4), .unset, .unset, .unset, .unset, .unset, .unset, .unset] [(.int (2 : Int32))])
  refine Wk.newA (aty := .char) X165 (w_0 hw) rfl (hb hby at_38) rfl (by decide) (cap := 2) (by decide) (by decide) (by decide) (by decide) ?_
  intro T166 h166 b166 k166 g166 X166 E166 A166 B_b166
  have V_b166 : Arv Z h166 b166 k166 .char (2 : Int32) [(.int (0 : Int32)), (.int (0 : Int32))] (.int (0 : Int32)) := A166.pad (pad_rep [] (.int (0 : Int32)) 2)
  have gz_b166 : Z.heap.size ≤ b166 := g166 ▸ X165.old.1
  have gm_b166 : h0.size ≤ b166 := g166 ▸ X165.ext.1
  show Goes _ _ _ _ T166 (mkF m 40 #[.val (.int i0), .val (.int i1), .val (.int z2), .val (.int z3), .val (.int z4), .unset, .unset, .unset, .unset, .unset, .unset, .unset] [(.ref b166)])
  refine Goes.go (fun _ kS_ => XS.dup X166.here X166.ex rfl (hb hby at_40) rfl rfl (XS.iconst X166.here X166.ex rfl (hb hby at_41) (XS.bipush X166.here X166.ex rfl (hb hby at_42) kS_))) ?_
  show Goes _ _ _ _ T166 (mkF m 44 #[.val (.int i0), .val (.int i1), .val (.int z2), .val (.int z3), .val (.int z4), .unset, .unset, .unset, .unset, .unset, .unset, .unset] [(.int (110 : Int32)), (.int (0 : Int32)), (.ref b166), (.ref b166)])
  refine Wk.castore (hm' := fun _ => h0) X166 V_b166 ⟨by decide, by decide⟩ (i := 0) rfl (Nat.le_of_ble_eq_true rfl) gz_b166 (fun _ => Mark.stay (allS gm_b166 all0)) rfl rfl (hb hby at_44) ?_
  intro T167 h167 X167 W167 V167
  clear V_b166; have V_b166 : Arv Z h167 b166 _ .char (2 : Int32) [(.int (nar .char (110 : Int32))), (.int (0 : Int32))] (.int (0 : Int32)) := V167
  show Goes _ _ _ _ T167 (mkF m 45 #[.val (.int i0), .val (.int i1), .val (.int z2), .val (.int z3), .val (.int z4), .unset, .unset, .unset, .unset, .unset, .unset, .unset] [(.ref b166)])
  refine Goes.go (fun _ kS_ => XS.dup X167.here X167.ex rfl (hb hby at_45) rfl rfl (XS.iconst X167.here X167.ex rfl (hb hby at_46) (XS.iloadN X167.here X167.ex rfl (hb hby at_47) rfl (XS.sipush X167.here X167.ex rfl (hb hby at_48) (XS.iand X167.here X167.ex rfl (hb hby at_51) rfl (XS.i2c X167.here X167.ex rfl (hb hby at_52) rfl kS_)))))) ?_
  show Goes _ _ _ _ T167 (mkF m 53 #[.val (.int i0), .val (.int i1), .val (.int z2), .val (.int z3), .val (.int z4), .unset, .unset, .unset, .unset, .unset, .unset, .unset] [(.int ((i1 &&& (255 : Int32)).toUInt32.toUInt16.toUInt32.toInt32)), (.int (1 : Int32)), (.ref b166), (.ref b166)])
  refine Goes.cast (congrArg (fun zq_ => (mkF m 53 #[.val (.int i0), .val (.int i1), .val (.int z2), .val (.int z3), .val (.int z4), .unset, .unset, .unset, .unset, .unset, .unset, .unset] [(.int zq_), (.int (1 : Int32)), (.ref b166), (.ref b166)])) (i2c_mask i1)) ?_
  show Goes _ _ _ _ T167 (mkF m 53 #[.val (.int i0), .val (.int i1), .val (.int z2), .val (.int z3), .val (.int z4), .unset, .unset, .unset, .unset, .unset, .unset, .unset] [(.int (i1 &&& (255 : Int32))), (.int (1 : Int32)), (.ref b166), (.ref b166)])
  refine Wk.castore (hm' := fun _ => h0) X167 V_b166 ⟨by decide, by decide⟩ (i := 1) rfl (Nat.le_of_ble_eq_true rfl) gz_b166 (fun _ => Mark.stay (allS gm_b166 all0)) rfl rfl (hb hby at_53) ?_
  intro T168 h168 X168 W168 V168
  clear V_b166; have V_b166 : Arv Z h168 b166 _ .char (2 : Int32) [(.int (nar .char (110 : Int32))), (.int (nar .char (i1 &&& (255 : Int32))))] (.int (0 : Int32)) := V168
  show Goes _ _ _ _ T168 (mkF m 54 #[.val (.int i0), .val (.int i1), .val (.int z2), .val (.int z3), .val (.int z4), .unset, .unset, .unset, .unset, .unset, .unset, .unset] [(.ref b166)])
  refine Goes.go (fun _ kS_ => XS.astore X168.here X168.ex rfl (hb hby at_54) rfl rfl (l' := #[.val (.int i0), .val (.int i1), .val (.int z2), .val (.int z3), .val (.int z4), .val (.ref b166), .unset, .unset, .unset, .unset, .unset, .unset]) rfl kS_) ?_
  show Goes _ _ _ _ T168 (mkF m 56 #[.val (.int i0), .val (.int i1), .val (.int z2), .val (.int z3), .val (.int z4), .val (.ref b166), .unset, .unset, .unset, .unset, .unset, .unset] [])
  have EA := X168.ext
  have X169 := X168.mark
  refine Wk.new X169 (w_1 hw) (w_2 hw) (w_3 hw) rfl (hb hby at_56) (by decide) (by decide) ?_
  intro T170 h170 a170 g170 X170 E170 A170 D170
  have lt_b166_a170 : b166 < a170 := by rw [g170]; exact V_b166.lt
  replace V_b166 := V_b166.ext E170
  have gz_a170 : Z.heap.size ≤ a170 := g170 ▸ X169.old.1
  have gm_a170 : h168.size ≤ a170 := g170 ▸ X169.ext.1
  have F_a170_coder : Fld Z h170 a170 "java/lang/String" "coder" "B" (.int (0 : Int32)) := D170 (Or.inr (w_27 hw)) (ty := .byte) (by decide)
  have F_a170_value : Fld Z h170 a170 "java/lang/String" "value" "[B" .null := D170 (Or.inr (w_29 hw)) (ty := (.array .byte)) (by decide)
  clear D170
  show Goes _ _ _ _ T170 (mkF m 59 #[.val (.int i0), .val (.int i1), .val (.int z2), .val (.int z3), .val (.int z4), .val (.ref b166), .unset, .unset, .unset, .unset, .unset, .unset] [(.ref a170)])
  refine Goes.go (fun _ kS_ => XS.dup X170.here X170.ex rfl (hb hby at_59) rfl rfl (XS.aload X170.here X170.ex rfl (hb hby at_60) rfl rfl kS_)) ?_
  show Goes _ _ _ _ T170 (mkF m 62 #[.val (.int i0), .val (.int i1), .val (.int z2), .val (.int z3), .val (.int z4), .val (.ref b166), .unset, .unset, .unset, .unset, .unset, .unset] [(.ref b166), (.ref a170), (.ref a170)])
  have hp171 : ∀ c ∈ ([(nar .char (110 : Int32)), (nar .char (i1 &&& (255 : Int32)))] : List Int32), ¬ c < 0 ∧ ¬ (255 : Int32) < c := by
      intro c hc
      simp only [List.mem_cons, List.not_mem_nil, or_false] at hc
      rcases hc with rfl | rfl
      · rw [own_narc (by decide)]; exact (by decide)
      · rw [own_nar255]; exact own_b255 _
  refine Wk.special (hm' := fun _ => h168) (y := (⟨"java/lang/String", "<init>", "([C)V"⟩ : MethodName)) (W := 1) (kc := 1) (ks := 2) (argsL := [(.ref b166)]) (rest := [(.ref a170)]) (as' := #[(.ref a170), (.ref b166)]) (ws := [a170]) X170 rfl (w_4 hw) (w_5 hw) (w_6 hw) (by decide) (own_newP (own_ws hw) (kI := 4) (w_2 hw) (cs := ([(nar .char (110 : Int32)), (nar .char (i1 &&& (255 : Int32)))] : List Int32)) (n := 2) gz_a170 X170.old A170 F_a170_value F_a170_coder V_b166 O2 P5 rfl rfl (by decide) (by decide) hp171 (by decide) (by decide)) (fun v h' L q => ⟨q.2.1, q.2.2.1⟩) (allS gz_a170 all0) (fun _ => Mark.stay (allS gm_a170 all0)) rfl (by rw [hml]; rfl) (lenOf pd_16 rfl) rfl rfl (by show 2 * 0 + _ ≤ _; exact Nat.le_of_eq rfl) (hb hby at_62) (by decide) (by decide) ?_
  intro T172 h172 v172 L172 X172 q172 K172
  obtain ⟨rfl, -, -, S_a170⟩ := q172
  show Goes _ _ _ _ T172 (mkF m 65 #[.val (.int i0), .val (.int i1), .val (.int z2), .val (.int z3), .val (.int z4), .val (.ref b166), .unset, .unset, .unset, .unset, .unset, .unset] [(.ref a170)])
  have EB := EA.oTrans X172.ext
  simp only [own_nar255, own_narc (show ¬ (110 : Int32) < 0 ∧ ¬ (255 : Int32) < 110 from by decide)] at S_a170
  refine Goes.go (fun _ kS_ => XS.astore X172.here X172.ex rfl (hb hby at_65) rfl rfl (l' := #[.val (.int i0), .val (.int i1), .val (.int z2), .val (.int z3), .val (.int z4), .val (.ref b166), .val (.ref a170), .unset, .unset, .unset, .unset, .unset]) rfl kS_) ?_
  show Goes _ _ _ _ T172 (mkF m 67 #[.val (.int i0), .val (.int i1), .val (.int z2), .val (.int z3), .val (.int z4), .val (.ref b166), .val (.ref a170), .unset, .unset, .unset, .unset, .unset] [])
  have X173 := X172.mark
  refine Wk.new X173 (w_30 hw) (w_31 hw) (w_32 hw) rfl (hb hby at_67) (by decide) (by decide) ?_
  intro T174 h174 a174 g174 X174 E174 A174 D174
  have lt_a170_a174 : a170 < a174 := by rw [g174]; exact S_a170.lt
  replace S_a170 := S_a170.ext E174
  have gz_a174 : Z.heap.size ≤ a174 := g174 ▸ X173.old.1
  have gm_a174 : h172.size ≤ a174 := g174 ▸ X173.ext.1
  have F_a174_data : Fld Z h174 a174 "com/example/steady_pulse/steadypulse/HealthCheckResponse$Builder" "data" "Ljava/util/Map;" .null := D174 (Or.inr (w_64 hw)) (ty := (.object "java/util/Map")) (by decide)
  have F_a174_name : Fld Z h174 a174 "com/example/steady_pulse/steadypulse/HealthCheckResponse$Builder" "name" "Ljava/lang/String;" .null := D174 (Or.inr (w_66 hw)) (ty := (.object "java/lang/String")) (by decide)
  have F_a174_status : Fld Z h174 a174 "com/example/steady_pulse/steadypulse/HealthCheckResponse$Builder" "status" "Lcom/example/steady_pulse/steadypulse/HealthCheckResponse$Status;" .null := D174 (Or.inl (w_76 hw)) (ty := (.object "com/example/steady_pulse/steadypulse/HealthCheckResponse$Status")) (by decide)
  clear D174
  show Goes _ _ _ _ T174 (mkF m 70 #[.val (.int i0), .val (.int i1), .val (.int z2), .val (.int z3), .val (.int z4), .val (.ref b166), .val (.ref a170), .unset, .unset, .unset, .unset, .unset] [(.ref a174)])
  refine Goes.go (fun _ kS_ => XS.dup X174.here X174.ex rfl (hb hby at_70) rfl rfl (XS.aload X174.here X174.ex rfl (hb hby at_71) rfl rfl kS_)) ?_
  show Goes _ _ _ _ T174 (mkF m 73 #[.val (.int i0), .val (.int i1), .val (.int z2), .val (.int z3), .val (.int z4), .val (.ref b166), .val (.ref a170), .unset, .unset, .unset, .unset, .unset] [(.ref a170), (.ref a174), (.ref a174)])
  refine Wk.special (hm' := fun _ => h172) (y := (⟨"com/example/steady_pulse/steadypulse/HealthCheckResponse$Builder", "<init>", "(Ljava/lang/String;)V"⟩ : MethodName)) (W := 1) (kc := 1) (ks := 12) (argsL := [(.ref a170)]) (rest := [(.ref a174)]) (as' := #[(.ref a174), (.ref a170)]) (ws := [a174]) X174 rfl (w_33 hw) (w_34 hw) (w_35 hw) (by decide) (CtrN.pays (own_bld l Z a0 hw h174 X174.old a174 a170 A174 F_a174_data F_a174_name F_a174_status gz_a174) (w_35 hw) (w_32 hw) (by decide) (by decide)) (fun v h' L q => ⟨q.2, q.1.1⟩) (allS gz_a174 all0) (fun _ => Mark.stay (allS gm_a174 all0)) rfl (by rw [hml]; rfl) (lenOf pd_17 rfl) rfl rfl (by show 2 * 0 + _ ≤ _; exact Nat.le_of_eq rfl) (hb hby at_73) (by decide) (by decide) ?_
  intro T175 h175 v175 L175 X175 q175 K175
  obtain ⟨⟨-, rfl, q175, ⟨E_x, F_x_status, F_x_name, F_x_data⟩, E_q, F_q_entrySet, F_q_head, F_q_modCount, gq175⟩, -⟩ := q175
  replace S_a170 := S_a170.keep K175 A174 (by decide) (w_31 hw)
  show Goes _ _ _ _ T175 (mkF m 76 #[.val (.int i0), .val (.int i1), .val (.int z2), .val (.int z3), .val (.int z4), .val (.ref b166), .val (.ref a170), .unset, .unset, .unset, .unset, .unset] [(.ref a174)])
  have gz_q175 : Z.heap.size ≤ q175 := Nat.le_trans X174.old.1 gq175
  refine Goes.go (fun _ kS_ => XS.astore X175.here X175.ex rfl (hb hby at_76) rfl rfl (l' := #[.val (.int i0), .val (.int i1), .val (.int z2), .val (.int z3), .val (.int z4), .val (.ref b166), .val (.ref a170), .val (.ref a174), .unset, .unset, .unset, .unset]) rfl (XS.aload X175.here X175.ex rfl (hb hby at_78) rfl rfl (XS.iloadN X175.here X175.ex rfl (hb hby at_80) rfl kS_))) ?_
  show Goes _ _ _ _ T175 (mkF m 81 #[.val (.int i0), .val (.int i1), .val (.int z2), .val (.int z3), .val (.int z4), .val (.ref b166), .val (.ref a170), .val (.ref a174), .unset, .unset, .unset, .unset] [(.int z2), (.ref a174)])
  have nqx : q175 ≠ a174 := Exa.ne E_q E_x (by decide)
  refine Wk.virtual (hm' := fun h' => h') (C := "com/example/steady_pulse/steadypulse/HealthCheckResponse$Builder") (y := (⟨"com/example/steady_pulse/steadypulse/HealthCheckResponse$Builder", "status", "(Z)Lcom/example/steady_pulse/steadypulse/HealthCheckResponse$Builder;"⟩ : MethodName)) (z := (⟨"com/example/steady_pulse/steadypulse/HealthCheckResponse$Builder", "status", "(Z)Lcom/example/steady_pulse/steadypulse/HealthCheckResponse$Builder;"⟩ : MethodName)) (W := 0) (kc := 0) (ks := 0) (argsL := [(.int z2)]) (rest := []) (as' := #[(.ref a174), (.int z2)]) (ws := [a174]) X175 (w_67 hw) (w_68 hw) (w_70 hw) (w_69 hw) (by decide) E_x (nf_sel (w_70 hw)) (CtrN.pays (own_sts l Z a0 hw h175 X175.old a174 z2 a170 q175 up dn .null OU OD E_x F_x_status F_x_name F_x_data gz_a174) (w_71 hw) (w_32 hw) (by decide) (by decide)) (fun v h' L q => ⟨q.2, q.1.1⟩) (allS gz_a174 all0) (fun _ => Mark.anew (allS (Or.inr SafeA.nil) all0)) rfl (by rw [hml]; rfl) (lenOf pd_18 rfl) rfl rfl (by show 2 * 0 + _ ≤ _; exact Nat.le_of_eq rfl) (hb hby at_81) (by decide) (by decide) ?_
  intro T176 h176 v176 L176 X176 q176 K176
  obtain ⟨⟨-, rfl, E_x', F_x_status', F_x_name', F_x_data'⟩, -⟩ := q176
  replace S_a170 := S_a170.keep K176 E_x (by decide) (w_31 hw)
  replace E_q := E_q.keep K176
  replace F_q_entrySet := F_q_entrySet.keep K176 (ninS nqx nin0)
  replace F_q_head := F_q_head.keep K176 (ninS nqx nin0)
  replace F_q_modCount := F_q_modCount.keep K176 (ninS nqx nin0)
  show Goes _ _ _ _ T176 (mkF m 84 #[.val (.int i0), .val (.int i1), .val (.int z2), .val (.int z3), .val (.int z4), .val (.ref b166), .val (.ref a170), .val (.ref a174), .unset, .unset, .unset, .unset] [(.ref a174)])
  clear E_x F_x_status F_x_name F_x_data
  have E_x := E_x'; have F_x_status := F_x_status'; have F_x_name := F_x_name'; have F_x_data := F_x_data'; clear E_x' F_x_status' F_x_name' F_x_data'
  refine Goes.go (fun _ kS_ => XS.astore X176.here X176.ex rfl (hb hby at_84) rfl rfl (l' := #[.val (.int i0), .val (.int i1), .val (.int z2), .val (.int z3), .val (.int z4), .val (.ref b166), .val (.ref a170), .val (.ref a174), .val (.ref a174), .unset, .unset, .unset]) rfl (XS.aload X176.here X176.ex rfl (hb hby at_86) rfl rfl (XS.aload X176.here X176.ex rfl (hb hby at_88) rfl rfl (Jvm.Free.XT.acmpYes X176.here X176.ex rfl (pc0 := 90) (pc' := 95) rfl (hb hby at_90) rfl rfl rfl (own_acmp_eq rfl) (by decide) (by decide) (XS.iloadN X176.here X176.ex rfl (hb hby at_95) rfl (XS.istore X176.here X176.ex rfl (hb hby at_96) rfl (l' := #[.val (.int i0), .val (.int i1), .val (.int z2), .val (.int z3), .val (.int z4), .val (.ref b166), .val (.ref a170), .val (.ref a174), .val (.ref a174), .val (.int z2), .unset, .unset]) rfl kS_)))))) ?_
  show Goes _ _ _ _ T176 (mkF m 98 #[.val (.int i0), .val (.int i1), .val (.int z2), .val (.int z3), .val (.int z4), .val (.ref b166), .val (.ref a170), .val (.ref a174), .val (.ref a174), .val (.int z2), .unset, .unset] [])
  refine Goes.go (fun _ kS_ => XS.iload X176.here X176.ex rfl (hb hby at_98) rfl kS_) ?_
  show Goes _ _ _ _ T176 (mkF m 100 #[.val (.int i0), .val (.int i1), .val (.int z2), .val (.int z3), .val (.int z4), .val (.ref b166), .val (.ref a170), .val (.ref a174), .val (.ref a174), .val (.int z2), .unset, .unset] [(.int z4)])
  refine Goes.ifc (pc' := 123) X176.here X176.ex (hb hby at_100) (by decide) (by decide) (fun h4 => ?_) (fun h4 => ?_)
  · have h4 : z4 = (0 : Int32) := h4
    show Goes _ _ _ _ T176 (mkF m 123 #[.val (.int i0), .val (.int i1), .val (.int z2), .val (.int z3), .val (.int z4), .val (.ref b166), .val (.ref a170), .val (.ref a174), .val (.ref a174), .val (.int z2), .unset, .unset] [])
    refine Goes.go (fun _ kS_ => XS.aload X176.here X176.ex rfl (hb hby at_123) rfl rfl kS_) ?_
    show Goes _ _ _ _ T176 (mkF m 125 #[.val (.int i0), .val (.int i1), .val (.int z2), .val (.int z3), .val (.int z4), .val (.ref b166), .val (.ref a170), .val (.ref a174), .val (.ref a174), .val (.int z2), .unset, .unset] [(.ref a174)])
    refine Wk.virtualS (C := "com/example/steady_pulse/steadypulse/HealthCheckResponse$Builder") (y := (⟨"com/example/steady_pulse/steadypulse/HealthCheckResponse$Builder", "build", "()Lcom/example/steady_pulse/steadypulse/HealthCheckResponse;"⟩ : MethodName)) (z := (⟨"com/example/steady_pulse/steadypulse/HealthCheckResponse$Builder", "build", "()Lcom/example/steady_pulse/steadypulse/HealthCheckResponse;"⟩ : MethodName)) (W := 0) (kc := 11) (ks := 94) (argsL := []) (rest := []) (as' := #[(.ref a174)]) (ws := [q175]) X176 (w_77 hw) (w_78 hw) (w_80 hw) (w_79 hw) (by decide) E_x (nf_sel (w_80 hw)) (CtrS.pays (own_build l Z a0 hw hEL h176 X176.old a174 a170 (if z2 = 0 then dn else up) q175 (i1 &&& (255 : Int32)) G1 ci aA clA c1m c2m O2 P5 OI EI OQ AA hA hA2 M1 M2 E_x F_x_status F_x_name F_x_data S_a170 E_q F_q_entrySet F_q_head F_q_modCount gz_q175) (w_81 hw) (w_32 hw) (by decide) (by decide) hEL) (fun v h' L q => ⟨q.2, q.1.1⟩) (allS gz_q175 all0) rfl (by rw [hml]; rfl) (lenOf pd_19 rfl) rfl rfl (by show 2 * 0 + _ ≤ _; exact Nat.le_of_eq rfl) (hb hby at_125) (by decide) (by decide) ?_
    intro T177 h177 v177 L177 X177 q177 K177
    obtain ⟨⟨-, r177, rfl, Er177, Fs177, Fn177⟩, -⟩ := q177
    replace S_a170 := S_a170.keep K177 E_q (by decide) (w_38 hw)
    show Goes _ _ _ _ T177 (mkF m 128 #[.val (.int i0), .val (.int i1), .val (.int z2), .val (.int z3), .val (.int z4), .val (.ref b166), .val (.ref a170), .val (.ref a174), .val (.ref a174), .val (.int z2), .unset, .unset] [(.ref r177)])
    refine Goes.go (fun _ kS_ => XS.astore X177.here X177.ex rfl (hb hby at_128) rfl rfl (l' := #[.val (.int i0), .val (.int i1), .val (.int z2), .val (.int z3), .val (.int z4), .val (.ref b166), .val (.ref a170), .val (.ref a174), .val (.ref a174), .val (.int z2), .val (.ref r177), .unset]) rfl (XS.iload X177.here X177.ex rfl (hb hby at_130) rfl kS_)) ?_
    show Goes _ _ _ _ T177 (mkF m 132 #[.val (.int i0), .val (.int i1), .val (.int z2), .val (.int z3), .val (.int z4), .val (.ref b166), .val (.ref a170), .val (.ref a174), .val (.ref a174), .val (.int z2), .val (.ref r177), .unset] [(.int z2)])
    refine Goes.ifc (pc' := 143) X177.here X177.ex (hb hby at_132) (by decide) (by decide) (fun hc132 => ?_) (fun hc132 => ?_)
    · have hc132 : z2 = (0 : Int32) := hc132
      show Goes _ _ _ _ T177 (mkF m 143 #[.val (.int i0), .val (.int i1), .val (.int z2), .val (.int z3), .val (.int z4), .val (.ref b166), .val (.ref a170), .val (.ref a174), .val (.ref a174), .val (.int z2), .val (.ref r177), .unset] [])
      refine Wk.getS X177 (host := "") (Or.inl (w_262 hw)) Via.refl OD rfl (hb hby at_143) ?_
      intro T178 X178
      show Goes _ _ _ _ T178 (mkF m 146 #[.val (.int i0), .val (.int i1), .val (.int z2), .val (.int z3), .val (.int z4), .val (.ref b166), .val (.ref a170), .val (.ref a174), .val (.ref a174), .val (.int z2), .val (.ref r177), .unset] [(.ref dn)])
      refine Goes.go (fun _ kS_ => XS.astore X178.here X178.ex rfl (hb hby at_146) rfl rfl (l' := #[.val (.int i0), .val (.int i1), .val (.int z2), .val (.int z3), .val (.int z4), .val (.ref b166), .val (.ref a170), .val (.ref a174), .val (.ref a174), .val (.int z2), .val (.ref r177), .val (.ref dn)]) rfl (XS.aload X178.here X178.ex rfl (hb hby at_148) rfl rfl kS_)) ?_
      show Goes _ _ _ _ T178 (mkF m 150 #[.val (.int i0), .val (.int i1), .val (.int z2), .val (.int z3), .val (.int z4), .val (.ref b166), .val (.ref a170), .val (.ref a174), .val (.ref a174), .val (.int z2), .val (.ref r177), .val (.ref dn)] [(.ref r177)])
      refine Wk.virtual (hm' := fun _ => h177) (C := "com/example/steady_pulse/steadypulse/HealthCheckResponse") (y := (⟨"com/example/steady_pulse/steadypulse/HealthCheckResponse", "getStatus", "()Lcom/example/steady_pulse/steadypulse/HealthCheckResponse$Status;"⟩ : MethodName)) (z := (⟨"com/example/steady_pulse/steadypulse/HealthCheckResponse", "getStatus", "()Lcom/example/steady_pulse/steadypulse/HealthCheckResponse$Status;"⟩ : MethodName)) (W := 0) (kc := 0) (ks := 0) (argsL := []) (rest := []) (as' := #[(.ref r177)]) (ws := []) X178 (w_263 hw) (w_264 hw) (w_266 hw) (w_265 hw) (by decide) Er177 (nf_sel (w_266 hw)) (CtrN.pays (own_gs l Z a0 hw h177 X178.old r177 _ Fs177) (w_267 hw) (w_84 hw) (by decide) (by decide)) (fun v h' L q => ⟨q.2, q.1.1⟩) all0 (fun _ => Mark.stay all0) rfl (by rw [hml]; rfl) (lenOf pd_20 rfl) rfl rfl (by show 2 * 0 + _ ≤ _; exact Nat.le_of_eq rfl) (hb hby at_150) (by decide) (by decide) ?_
      intro T179 h179 v179 L179 X179 q179 K179
      obtain ⟨⟨-, rfl⟩, -⟩ := q179
      replace S_a170 := S_a170.ext K179.oExt
      replace Er177 := Er177.ext K179.oExt
      replace Fs177 := Fs177.ext K179.oExt
      replace Fn177 := Fn177.ext K179.oExt
      show Goes _ _ _ _ T179 (mkF m 153 #[.val (.int i0), .val (.int i1), .val (.int z2), .val (.int z3), .val (.int z4), .val (.ref b166), .val (.ref a170), .val (.ref a174), .val (.ref a174), .val (.int z2), .val (.ref r177), .val (.ref dn)] [(.ref (if z2 = 0 then dn else up))])
      rw [if_pos hc132]
      show Goes _ _ _ _ T179 (mkF m 153 #[.val (.int i0), .val (.int i1), .val (.int z2), .val (.int z3), .val (.int z4), .val (.ref b166), .val (.ref a170), .val (.ref a174), .val (.ref a174), .val (.int z2), .val (.ref r177), .val (.ref dn)] [(.ref dn)])
      refine Goes.go (fun _ kS_ => XS.aload X179.here X179.ex rfl (hb hby at_153) rfl rfl (Jvm.Free.XT.acmpNo X179.here X179.ex rfl (hb hby at_155) rfl rfl rfl (own_acmp_ne rfl) (XS.aload X179.here X179.ex rfl (hb hby at_158) rfl rfl kS_))) ?_
      show Goes _ _ _ _ T179 (mkF m 160 #[.val (.int i0), .val (.int i1), .val (.int z2), .val (.int z3), .val (.int z4), .val (.ref b166), .val (.ref a170), .val (.ref a174), .val (.ref a174), .val (.int z2), .val (.ref r177), .val (.ref dn)] [(.ref r177)])
      refine Wk.virtual (hm' := fun _ => h177) (C := "com/example/steady_pulse/steadypulse/HealthCheckResponse") (y := (⟨"com/example/steady_pulse/steadypulse/HealthCheckResponse", "getName", "()Ljava/lang/String;"⟩ : MethodName)) (z := (⟨"com/example/steady_pulse/steadypulse/HealthCheckResponse", "getName", "()Ljava/lang/String;"⟩ : MethodName)) (W := 0) (kc := 0) (ks := 0) (argsL := []) (rest := []) (as' := #[(.ref r177)]) (ws := []) X179 (w_268 hw) (w_269 hw) (w_271 hw) (w_270 hw) (by decide) Er177 (nf_sel (w_271 hw)) (CtrN.pays (own_gn l Z a0 hw h179 X179.old r177 _ Fn177) (w_272 hw) (w_84 hw) (by decide) (by decide)) (fun v h' L q => ⟨q.2, q.1.1⟩) all0 (fun _ => Mark.stay all0) rfl (by rw [hml]; rfl) (lenOf pd_21 rfl) rfl rfl (by show 2 * 0 + _ ≤ _; exact Nat.le_of_eq rfl) (hb hby at_160) (by decide) (by decide) ?_
      intro T180 h180 v180 L180 X180 q180 K180
      obtain ⟨⟨-, rfl⟩, -⟩ := q180
      replace S_a170 := S_a170.ext K180.oExt
      replace Er177 := Er177.ext K180.oExt
      replace Fs177 := Fs177.ext K180.oExt
      replace Fn177 := Fn177.ext K180.oExt
      show Goes _ _ _ _ T180 (mkF m 163 #[.val (.int i0), .val (.int i1), .val (.int z2), .val (.int z3), .val (.int z4), .val (.ref b166), .val (.ref a170), .val (.ref a174), .val (.ref a174), .val (.int z2), .val (.ref r177), .val (.ref dn)] [(.ref a170)])
      refine Goes.go (fun _ kS_ => XS.aload X180.here X180.ex rfl (hb hby at_163) rfl rfl kS_) ?_
      show Goes _ _ _ _ T180 (mkF m 165 #[.val (.int i0), .val (.int i1), .val (.int z2), .val (.int z3), .val (.int z4), .val (.ref b166), .val (.ref a170), .val (.ref a174), .val (.ref a174), .val (.int z2), .val (.ref r177), .val (.ref dn)] [(.ref a170), (.ref a170)])
      refine Wk.virtual (hm' := fun _ => h177) (C := "java/lang/String") (y := (⟨"java/lang/String", "equals", "(Ljava/lang/Object;)Z"⟩ : MethodName)) (z := (⟨"java/lang/String", "equals", "(Ljava/lang/Object;)Z"⟩ : MethodName)) (W := 0) (kc := 0) (ks := 0) (argsL := [(.ref a170)]) (rest := []) (as' := #[(.ref a170), (.ref a170)]) (ws := []) X180 (w_273 hw) (w_274 hw) (w_276 hw) (w_275 hw) (by decide) S_a170.1 (nf_sel (w_276 hw)) (CtrN.pays (own_eqs l Z a0 hw h180 X180.old a170) (w_277 hw) (w_3 hw) (by decide) (by decide)) (fun v h' L q => ⟨q.2, q.1.1⟩) all0 (fun _ => Mark.stay all0) rfl (by rw [hml]; rfl) (lenOf pd_22 rfl) rfl rfl (by show 2 * 0 + _ ≤ _; exact Nat.le_of_eq rfl) (hb hby at_165) (by decide) (by decide) ?_
      intro T181 h181 v181 L181 X181 q181 K181
      obtain ⟨⟨-, rfl⟩, -⟩ := q181
      replace S_a170 := S_a170.ext K181.oExt
      replace Er177 := Er177.ext K181.oExt
      replace Fs177 := Fs177.ext K181.oExt
      replace Fn177 := Fn177.ext K181.oExt
      show Goes _ _ _ _ T181 (mkF m 168 #[.val (.int i0), .val (.int i1), .val (.int z2), .val (.int z3), .val (.int z4), .val (.ref b166), .val (.ref a170), .val (.ref a174), .val (.ref a174), .val (.int z2), .val (.ref r177), .val (.ref dn)] [(.int (1 : Int32))])
      refine Goes.go (fun _ kS_ => XS.ifNo X181.here X181.ex rfl (hb hby at_168) rfl ((if0 _ _).trans (cd_f (cd := .eq) (x := (1 : Int32)) (y := (0 : Int32)) (by decide))) (XS.iconst X181.here X181.ex rfl (hb hby at_171) (XS.goto X181.here X181.ex rfl (pc0 := 172) (pc' := 176) rfl (hb hby at_172) (by decide) (by decide) kS_))) ?_
      show Goes _ _ _ _ T181 (mkF m 176 #[.val (.int i0), .val (.int i1), .val (.int z2), .val (.int z3), .val (.int z4), .val (.ref b166), .val (.ref a170), .val (.ref a174), .val (.ref a174), .val (.int z2), .val (.ref r177), .val (.ref dn)] [(.int (1 : Int32))])
      refine Goes.outS X181 hEL (fun q => by rw [hret] at q; cases q) hlk (X181.rB hret (by simp) (hb hby at_176)) ?_ (by decide) (by decide)
      exact rfl
    · have hc132 : ¬ (z2 = (0 : Int32)) := hc132
      show Goes _ _ _ _ T177 (mkF m 135 #[.val (.int i0), .val (.int i1), .val (.int z2), .val (.int z3), .val (.int z4), .val (.ref b166), .val (.ref a170), .val (.ref a174), .val (.ref a174), .val (.int z2), .val (.ref r177), .unset] [])
      refine Wk.getS X177 (host := "") (Or.inl (w_280 hw)) Via.refl OU rfl (hb hby at_135) ?_
      intro T182 X182
      show Goes _ _ _ _ T182 (mkF m 138 #[.val (.int i0), .val (.int i1), .val (.int z2), .val (.int z3), .val (.int z4), .val (.ref b166), .val (.ref a170), .val (.ref a174), .val (.ref a174), .val (.int z2), .val (.ref r177), .unset] [(.ref up)])
      refine Goes.go (fun _ kS_ => XS.astore X182.here X182.ex rfl (hb hby at_138) rfl rfl (l' := #[.val (.int i0), .val (.int i1), .val (.int z2), .val (.int z3), .val (.int z4), .val (.ref b166), .val (.ref a170), .val (.ref a174), .val (.ref a174), .val (.int z2), .val (.ref r177), .val (.ref up)]) rfl (XS.goto X182.here X182.ex rfl (pc0 := 140) (pc' := 148) rfl (hb hby at_140) (by decide) (by decide) (XS.aload X182.here X182.ex rfl (hb hby at_148) rfl rfl kS_))) ?_
      show Goes _ _ _ _ T182 (mkF m 150 #[.val (.int i0), .val (.int i1), .val (.int z2), .val (.int z3), .val (.int z4), .val (.ref b166), .val (.ref a170), .val (.ref a174), .val (.ref a174), .val (.int z2), .val (.ref r177), .val (.ref up)] [(.ref r177)])
      refine Wk.virtual (hm' := fun _ => h177) (C := "com/example/steady_pulse/steadypulse/HealthCheckResponse") (y := (⟨"com/example/steady_pulse/steadypulse/HealthCheckResponse", "getStatus", "()Lcom/example/steady_pulse/steadypulse/HealthCheckResponse$Status;"⟩ : MethodName)) (z := (⟨"com/example/steady_pulse/steadypulse/HealthCheckResponse", "getStatus", "()Lcom/example/steady_pulse/steadypulse/HealthCheckResponse$Status;"⟩ : MethodName)) (W := 0) (kc := 0) (ks := 0) (argsL := []) (rest := []) (as' := #[(.ref r177)]) (ws := []) X182 (w_263 hw) (w_264 hw) (w_266 hw) (w_265 hw) (by decide) Er177 (nf_sel (w_266 hw)) (CtrN.pays (own_gs l Z a0 hw h177 X182.old r177 _ Fs177) (w_267 hw) (w_84 hw) (by decide) (by decide)) (fun v h' L q => ⟨q.2, q.1.1⟩) all0 (fun _ => Mark.stay all0) rfl (by rw [hml]; rfl) (lenOf pd_20 rfl) rfl rfl (by show 2 * 0 + _ ≤ _; exact Nat.le_of_eq rfl) (hb hby at_150) (by decide) (by decide) ?_
      intro T183 h183 v183 L183 X183 q183 K183
      obtain ⟨⟨-, rfl⟩, -⟩ := q183
      replace S_a170 := S_a170.ext K183.oExt
      replace Er177 := Er177.ext K183.oExt
      replace Fs177 := Fs177.ext K183.oExt
      replace Fn177 := Fn177.ext K183.oExt
      show Goes _ _ _ _ T183 (mkF m 153 #[.val (.int i0), .val (.int i1), .val (.int z2), .val (.int z3), .val (.int z4), .val (.ref b166), .val (.ref a170), .val (.ref a174), .val (.ref a174), .val (.int z2), .val (.ref r177), .val (.ref up)] [(.ref (if z2 = 0 then dn else up))])
      rw [if_neg hc132]
      show Goes _ _ _ _ T183 (mkF m 153 #[.val (.int i0), .val (.int i1), .val (.int z2), .val (.int z3), .val (.int z4), .val (.ref b166), .val (.ref a170), .val (.ref a174), .val (.ref a174), .val (.int z2), .val (.ref r177), .val (.ref up)] [(.ref up)])
      refine Goes.go (fun _ kS_ => XS.aload X183.here X183.ex rfl (hb hby at_153) rfl rfl (Jvm.Free.XT.acmpNo X183.here X183.ex rfl (hb hby at_155) rfl rfl rfl (own_acmp_ne rfl) (XS.aload X183.here X183.ex rfl (hb hby at_158) rfl rfl kS_))) ?_
      show Goes _ _ _ _ T183 (mkF m 160 #[.val (.int i0), .val (.int i1), .val (.int z2), .val (.int z3), .val (.int z4), .val (.ref b166), .val (.ref a170), .val (.ref a174), .val (.ref a174), .val (.int z2), .val (.ref r177), .val (.ref up)] [(.ref r177)])
      refine Wk.virtual (hm' := fun _ => h177) (C := "com/example/steady_pulse/steadypulse/HealthCheckResponse") (y := (⟨"com/example/steady_pulse/steadypulse/HealthCheckResponse", "getName", "()Ljava/lang/String;"⟩ : MethodName)) (z := (⟨"com/example/steady_pulse/steadypulse/HealthCheckResponse", "getName", "()Ljava/lang/String;"⟩ : MethodName)) (W := 0) (kc := 0) (ks := 0) (argsL := []) (rest := []) (as' := #[(.ref r177)]) (ws := []) X183 (w_268 hw) (w_269 hw) (w_271 hw) (w_270 hw) (by decide) Er177 (nf_sel (w_271 hw)) (CtrN.pays (own_gn l Z a0 hw h183 X183.old r177 _ Fn177) (w_272 hw) (w_84 hw) (by decide) (by decide)) (fun v h' L q => ⟨q.2, q.1.1⟩) all0 (fun _ => Mark.stay all0) rfl (by rw [hml]; rfl) (lenOf pd_21 rfl) rfl rfl (by show 2 * 0 + _ ≤ _; exact Nat.le_of_eq rfl) (hb hby at_160) (by decide) (by decide) ?_
      intro T184 h184 v184 L184 X184 q184 K184
      obtain ⟨⟨-, rfl⟩, -⟩ := q184
      replace S_a170 := S_a170.ext K184.oExt
      replace Er177 := Er177.ext K184.oExt
      replace Fs177 := Fs177.ext K184.oExt
      replace Fn177 := Fn177.ext K184.oExt
      show Goes _ _ _ _ T184 (mkF m 163 #[.val (.int i0), .val (.int i1), .val (.int z2), .val (.int z3), .val (.int z4), .val (.ref b166), .val (.ref a170), .val (.ref a174), .val (.ref a174), .val (.int z2), .val (.ref r177), .val (.ref up)] [(.ref a170)])
      refine Goes.go (fun _ kS_ => XS.aload X184.here X184.ex rfl (hb hby at_163) rfl rfl kS_) ?_
      show Goes _ _ _ _ T184 (mkF m 165 #[.val (.int i0), .val (.int i1), .val (.int z2), .val (.int z3), .val (.int z4), .val (.ref b166), .val (.ref a170), .val (.ref a174), .val (.ref a174), .val (.int z2), .val (.ref r177), .val (.ref up)] [(.ref a170), (.ref a170)])
      refine Wk.virtual (hm' := fun _ => h177) (C := "java/lang/String") (y := (⟨"java/lang/String", "equals", "(Ljava/lang/Object;)Z"⟩ : MethodName)) (z := (⟨"java/lang/String", "equals", "(Ljava/lang/Object;)Z"⟩ : MethodName)) (W := 0) (kc := 0) (ks := 0) (argsL := [(.ref a170)]) (rest := []) (as' := #[(.ref a170), (.ref a170)]) (ws := []) X184 (w_273 hw) (w_274 hw) (w_276 hw) (w_275 hw) (by decide) S_a170.1 (nf_sel (w_276 hw)) (CtrN.pays (own_eqs l Z a0 hw h184 X184.old a170) (w_277 hw) (w_3 hw) (by decide) (by decide)) (fun v h' L q => ⟨q.2, q.1.1⟩) all0 (fun _ => Mark.stay all0) rfl (by rw [hml]; rfl) (lenOf pd_22 rfl) rfl rfl (by show 2 * 0 + _ ≤ _; exact Nat.le_of_eq rfl) (hb hby at_165) (by decide) (by decide) ?_
      intro T185 h185 v185 L185 X185 q185 K185
      obtain ⟨⟨-, rfl⟩, -⟩ := q185
      replace S_a170 := S_a170.ext K185.oExt
      replace Er177 := Er177.ext K185.oExt
      replace Fs177 := Fs177.ext K185.oExt
      replace Fn177 := Fn177.ext K185.oExt
      show Goes _ _ _ _ T185 (mkF m 168 #[.val (.int i0), .val (.int i1), .val (.int z2), .val (.int z3), .val (.int z4), .val (.ref b166), .val (.ref a170), .val (.ref a174), .val (.ref a174), .val (.int z2), .val (.ref r177), .val (.ref up)] [(.int (1 : Int32))])
      refine Goes.go (fun _ kS_ => XS.ifNo X185.here X185.ex rfl (hb hby at_168) rfl ((if0 _ _).trans (cd_f (cd := .eq) (x := (1 : Int32)) (y := (0 : Int32)) (by decide))) (XS.iconst X185.here X185.ex rfl (hb hby at_171) (XS.goto X185.here X185.ex rfl (pc0 := 172) (pc' := 176) rfl (hb hby at_172) (by decide) (by decide) kS_))) ?_
      show Goes _ _ _ _ T185 (mkF m 176 #[.val (.int i0), .val (.int i1), .val (.int z2), .val (.int z3), .val (.int z4), .val (.ref b166), .val (.ref a170), .val (.ref a174), .val (.ref a174), .val (.int z2), .val (.ref r177), .val (.ref up)] [(.int (1 : Int32))])
      refine Goes.outS X185 hEL (fun q => by rw [hret] at q; cases q) hlk (X185.rB hret (by simp) (hb hby at_176)) ?_ (by decide) (by decide)
      exact rfl
  · have h4 : ¬ (z4 = (0 : Int32)) := h4
    show Goes _ _ _ _ T176 (mkF m 103 #[.val (.int i0), .val (.int i1), .val (.int z2), .val (.int z3), .val (.int z4), .val (.ref b166), .val (.ref a170), .val (.ref a174), .val (.ref a174), .val (.int z2), .unset, .unset] [])
    refine Goes.go (fun _ kS_ => XS.aload X176.here X176.ex rfl (hb hby at_103) rfl rfl (XS.iloadN X176.here X176.ex rfl (hb hby at_105) rfl kS_)) ?_
    show Goes _ _ _ _ T176 (mkF m 106 #[.val (.int i0), .val (.int i1), .val (.int z2), .val (.int z3), .val (.int z4), .val (.ref b166), .val (.ref a170), .val (.ref a174), .val (.ref a174), .val (.int z2), .unset, .unset] [(.int z3), (.ref a174)])
    refine Wk.virtual (hm' := fun h' => h') (C := "com/example/steady_pulse/steadypulse/HealthCheckResponse$Builder") (y := (⟨"com/example/steady_pulse/steadypulse/HealthCheckResponse$Builder", "status", "(Z)Lcom/example/steady_pulse/steadypulse/HealthCheckResponse$Builder;"⟩ : MethodName)) (z := (⟨"com/example/steady_pulse/steadypulse/HealthCheckResponse$Builder", "status", "(Z)Lcom/example/steady_pulse/steadypulse/HealthCheckResponse$Builder;"⟩ : MethodName)) (W := 0) (kc := 0) (ks := 0) (argsL := [(.int z3)]) (rest := []) (as' := #[(.ref a174), (.int z3)]) (ws := [a174]) X176 (w_67 hw) (w_68 hw) (w_70 hw) (w_69 hw) (by decide) E_x (nf_sel (w_70 hw)) (CtrN.pays (own_sts l Z a0 hw h176 X176.old a174 z3 a170 q175 up dn _ OU OD E_x F_x_status F_x_name F_x_data gz_a174) (w_71 hw) (w_32 hw) (by decide) (by decide)) (fun v h' L q => ⟨q.2, q.1.1⟩) (allS gz_a174 all0) (fun _ => Mark.anew (allS (Or.inr SafeA.nil) all0)) rfl (by rw [hml]; rfl) (lenOf pd_18 rfl) rfl rfl (by show 2 * 0 + _ ≤ _; exact Nat.le_of_eq rfl) (hb hby at_106) (by decide) (by decide) ?_
    intro T186 h186 v186 L186 X186 q186 K186
    obtain ⟨⟨-, rfl, E_x', F_x_status', F_x_name', F_x_data'⟩, -⟩ := q186
    replace S_a170 := S_a170.keep K186 E_x (by decide) (w_31 hw)
    replace E_q := E_q.keep K186
    replace F_q_entrySet := F_q_entrySet.keep K186 (ninS nqx nin0)
    replace F_q_head := F_q_head.keep K186 (ninS nqx nin0)
    replace F_q_modCount := F_q_modCount.keep K186 (ninS nqx nin0)
    show Goes _ _ _ _ T186 (mkF m 109 #[.val (.int i0), .val (.int i1), .val (.int z2), .val (.int z3), .val (.int z4), .val (.ref b166), .val (.ref a170), .val (.ref a174), .val (.ref a174), .val (.int z2), .unset, .unset] [(.ref a174)])
    clear E_x F_x_status F_x_name F_x_data
    have E_x := E_x'; have F_x_status := F_x_status'; have F_x_name := F_x_name'; have F_x_data := F_x_data'; clear E_x' F_x_status' F_x_name' F_x_data'
    refine Goes.go (fun _ kS_ => XS.astore X186.here X186.ex rfl (hb hby at_109) rfl rfl (l' := #[.val (.int i0), .val (.int i1), .val (.int z2), .val (.int z3), .val (.int z4), .val (.ref b166), .val (.ref a170), .val (.ref a174), .val (.ref a174), .val (.int z2), .val (.ref a174), .unset]) rfl (XS.aload X186.here X186.ex rfl (hb hby at_111) rfl rfl (XS.aload X186.here X186.ex rfl (hb hby at_113) rfl rfl (Jvm.Free.XT.acmpYes X186.here X186.ex rfl (pc0 := 115) (pc' := 120) rfl (hb hby at_115) rfl rfl rfl (own_acmp_eq rfl) (by decide) (by decide) (XS.iloadN X186.here X186.ex rfl (hb hby at_120) rfl (XS.istore X186.here X186.ex rfl (hb hby at_121) rfl (l' := #[.val (.int i0), .val (.int i1), .val (.int z2), .val (.int z3), .val (.int z4), .val (.ref b166), .val (.ref a170), .val (.ref a174), .val (.ref a174), .val (.int z3), .val (.ref a174), .unset]) rfl kS_)))))) ?_
    show Goes _ _ _ _ T186 (mkF m 123 #[.val (.int i0), .val (.int i1), .val (.int z2), .val (.int z3), .val (.int z4), .val (.ref b166), .val (.ref a170), .val (.ref a174), .val (.ref a174), .val (.int z3), .val (.ref a174), .unset] [])
    refine Goes.go (fun _ kS_ => XS.aload X186.here X186.ex rfl (hb hby at_123) rfl rfl kS_) ?_
    show Goes _ _ _ _ T186 (mkF m 125 #[.val (.int i0), .val (.int i1), .val (.int z2), .val (.int z3), .val (.int z4), .val (.ref b166), .val (.ref a170), .val (.ref a174), .val (.ref a174), .val (.int z3), .val (.ref a174), .unset] [(.ref a174)])
    refine Wk.virtualS (C := "com/example/steady_pulse/steadypulse/HealthCheckResponse$Builder") (y := (⟨"com/example/steady_pulse/steadypulse/HealthCheckResponse$Builder", "build", "()Lcom/example/steady_pulse/steadypulse/HealthCheckResponse;"⟩ : MethodName)) (z := (⟨"com/example/steady_pulse/steadypulse/HealthCheckResponse$Builder", "build", "()Lcom/example/steady_pulse/steadypulse/HealthCheckResponse;"⟩ : MethodName)) (W := 0) (kc := 11) (ks := 94) (argsL := []) (rest := []) (as' := #[(.ref a174)]) (ws := [q175]) X186 (w_77 hw) (w_78 hw) (w_80 hw) (w_79 hw) (by decide) E_x (nf_sel (w_80 hw)) (CtrS.pays (own_build l Z a0 hw hEL h186 X186.old a174 a170 (if z3 = 0 then dn else up) q175 (i1 &&& (255 : Int32)) G1 ci aA clA c1m c2m O2 P5 OI EI OQ AA hA hA2 M1 M2 E_x F_x_status F_x_name F_x_data S_a170 E_q F_q_entrySet F_q_head F_q_modCount gz_q175) (w_81 hw) (w_32 hw) (by decide) (by decide) hEL) (fun v h' L q => ⟨q.2, q.1.1⟩) (allS gz_q175 all0) rfl (by rw [hml]; rfl) (lenOf pd_19 rfl) rfl rfl (by show 2 * 0 + _ ≤ _; exact Nat.le_of_eq rfl) (hb hby at_125) (by decide) (by decide) ?_
    intro T187 h187 v187 L187 X187 q187 K187
    obtain ⟨⟨-, r187, rfl, Er187, Fs187, Fn187⟩, -⟩ := q187
    replace S_a170 := S_a170.keep K187 E_q (by decide) (w_38 hw)
    show Goes _ _ _ _ T187 (mkF m 128 #[.val (.int i0), .val (.int i1), .val (.int z2), .val (.int z3), .val (.int z4), .val (.ref b166), .val (.ref a170), .val (.ref a174), .val (.ref a174), .val (.int z3), .val (.ref a174), .unset] [(.ref r187)])
    refine Goes.go (fun _ kS_ => XS.astore X187.here X187.ex rfl (hb hby at_128) rfl rfl (l' := #[.val (.int i0), .val (.int i1), .val (.int z2), .val (.int z3), .val (.int z4), .val (.ref b166), .val (.ref a170), .val (.ref a174), .val (.ref a174), .val (.int z3), .val (.ref r187), .unset]) rfl (XS.iload X187.here X187.ex rfl (hb hby at_130) rfl kS_)) ?_
    show Goes _ _ _ _ T187 (mkF m 132 #[.val (.int i0), .val (.int i1), .val (.int z2), .val (.int z3), .val (.int z4), .val (.ref b166), .val (.ref a170), .val (.ref a174), .val (.ref a174), .val (.int z3), .val (.ref r187), .unset] [(.int z3)])
    refine Goes.ifc (pc' := 143) X187.here X187.ex (hb hby at_132) (by decide) (by decide) (fun hc132 => ?_) (fun hc132 => ?_)
    · have hc132 : z3 = (0 : Int32) := hc132
      show Goes _ _ _ _ T187 (mkF m 143 #[.val (.int i0), .val (.int i1), .val (.int z2), .val (.int z3), .val (.int z4), .val (.ref b166), .val (.ref a170), .val (.ref a174), .val (.ref a174), .val (.int z3), .val (.ref r187), .unset] [])
      refine Wk.getS X187 (host := "") (Or.inl (w_262 hw)) Via.refl OD rfl (hb hby at_143) ?_
      intro T188 X188
      show Goes _ _ _ _ T188 (mkF m 146 #[.val (.int i0), .val (.int i1), .val (.int z2), .val (.int z3), .val (.int z4), .val (.ref b166), .val (.ref a170), .val (.ref a174), .val (.ref a174), .val (.int z3), .val (.ref r187), .unset] [(.ref dn)])
      refine Goes.go (fun _ kS_ => XS.astore X188.here X188.ex rfl (hb hby at_146) rfl rfl (l' := #[.val (.int i0), .val (.int i1), .val (.int z2), .val (.int z3), .val (.int z4), .val (.ref b166), .val (.ref a170), .val (.ref a174), .val (.ref a174), .val (.int z3), .val (.ref r187), .val (.ref dn)]) rfl (XS.aload X188.here X188.ex rfl (hb hby at_148) rfl rfl kS_)) ?_
      show Goes _ _ _ _ T188 (mkF m 150 #[.val (.int i0), .val (.int i1), .val (.int z2), .val (.int z3), .val (.int z4), .val (.ref b166), .val (.ref a170), .val (.ref a174), .val (.ref a174), .val (.int z3), .val (.ref r187), .val (.ref dn)] [(.ref r187)])
      refine Wk.virtual (hm' := fun _ => h187) (C := "com/example/steady_pulse/steadypulse/HealthCheckResponse") (y := (⟨"com/example/steady_pulse/steadypulse/HealthCheckResponse", "getStatus", "()Lcom/example/steady_pulse/steadypulse/HealthCheckResponse$Status;"⟩ : MethodName)) (z := (⟨"com/example/steady_pulse/steadypulse/HealthCheckResponse", "getStatus", "()Lcom/example/steady_pulse/steadypulse/HealthCheckResponse$Status;"⟩ : MethodName)) (W := 0) (kc := 0) (ks := 0) (argsL := []) (rest := []) (as' := #[(.ref r187)]) (ws := []) X188 (w_263 hw) (w_264 hw) (w_266 hw) (w_265 hw) (by decide) Er187 (nf_sel (w_266 hw)) (CtrN.pays (own_gs l Z a0 hw h187 X188.old r187 _ Fs187) (w_267 hw) (w_84 hw) (by decide) (by decide)) (fun v h' L q => ⟨q.2, q.1.1⟩) all0 (fun _ => Mark.stay all0) rfl (by rw [hml]; rfl) (lenOf pd_20 rfl) rfl rfl (by show 2 * 0 + _ ≤ _; exact Nat.le_of_eq rfl) (hb hby at_150) (by decide) (by decide) ?_
      intro T189 h189 v189 L189 X189 q189 K189
      obtain ⟨⟨-, rfl⟩, -⟩ := q189
      replace S_a170 := S_a170.ext K189.oExt
      replace Er187 := Er187.ext K189.oExt
      replace Fs187 := Fs187.ext K189.oExt
      replace Fn187 := Fn187.ext K189.oExt
      show Goes _ _ _ _ T189 (mkF m 153 #[.val (.int i0), .val (.int i1), .val (.int z2), .val (.int z3), .val (.int z4), .val (.ref b166), .val (.ref a170), .val (.ref a174), .val (.ref a174), .val (.int z3), .val (.ref r187), .val (.ref dn)] [(.ref (if z3 = 0 then dn else up))])
      rw [if_pos hc132]
      show Goes _ _ _ _ T189 (mkF m 153 #[.val (.int i0), .val (.int i1), .val (.int z2), .val (.int z3), .val (.int z4), .val (.ref b166), .val (.ref a170), .val (.ref a174), .val (.ref a174), .val (.int z3), .val (.ref r187), .val (.ref dn)] [(.ref dn)])
      refine Goes.go (fun _ kS_ => XS.aload X189.here X189.ex rfl (hb hby at_153) rfl rfl (Jvm.Free.XT.acmpNo X189.here X189.ex rfl (hb hby at_155) rfl rfl rfl (own_acmp_ne rfl) (XS.aload X189.here X189.ex rfl (hb hby at_158) rfl rfl kS_))) ?_
      show Goes _ _ _ _ T189 (mkF m 160 #[.val (.int i0), .val (.int i1), .val (.int z2), .val (.int z3), .val (.int z4), .val (.ref b166), .val (.ref a170), .val (.ref a174), .val (.ref a174), .val (.int z3), .val (.ref r187), .val (.ref dn)] [(.ref r187)])
      refine Wk.virtual (hm' := fun _ => h187) (C := "com/example/steady_pulse/steadypulse/HealthCheckResponse") (y := (⟨"com/example/steady_pulse/steadypulse/HealthCheckResponse", "getName", "()Ljava/lang/String;"⟩ : MethodName)) (z := (⟨"com/example/steady_pulse/steadypulse/HealthCheckResponse", "getName", "()Ljava/lang/String;"⟩ : MethodName)) (W := 0) (kc := 0) (ks := 0) (argsL := []) (rest := []) (as' := #[(.ref r187)]) (ws := []) X189 (w_268 hw) (w_269 hw) (w_271 hw) (w_270 hw) (by decide) Er187 (nf_sel (w_271 hw)) (CtrN.pays (own_gn l Z a0 hw h189 X189.old r187 _ Fn187) (w_272 hw) (w_84 hw) (by decide) (by decide)) (fun v h' L q => ⟨q.2, q.1.1⟩) all0 (fun _ => Mark.stay all0) rfl (by rw [hml]; rfl) (lenOf pd_21 rfl) rfl rfl (by show 2 * 0 + _ ≤ _; exact Nat.le_of_eq rfl) (hb hby at_160) (by decide) (by decide) ?_
      intro T190 h190 v190 L190 X190 q190 K190
      obtain ⟨⟨-, rfl⟩, -⟩ := q190
      replace S_a170 := S_a170.ext K190.oExt
      replace Er187 := Er187.ext K190.oExt
      replace Fs187 := Fs187.ext K190.oExt
      replace Fn187 := Fn187.ext K190.oExt
      show Goes _ _ _ _ T190 (mkF m 163 #[.val (.int i0), .val (.int i1), .val (.int z2), .val (.int z3), .val (.int z4), .val (.ref b166), .val (.ref a170), .val (.ref a174), .val (.ref a174), .val (.int z3), .val (.ref r187), .val (.ref dn)] [(.ref a170)])
      refine Goes.go (fun _ kS_ => XS.aload X190.here X190.ex rfl (hb hby at_163) rfl rfl kS_) ?_
      show Goes _ _ _ _ T190 (mkF m 165 #[.val (.int i0), .val (.int i1), .val (.int z2), .val (.int z3), .val (.int z4), .val (.ref b166), .val (.ref a170), .val (.ref a174), .val (.ref a174), .val (.int z3), .val (.ref r187), .val (.ref dn)] [(.ref a170), (.ref a170)])
      refine Wk.virtual (hm' := fun _ => h187) (C := "java/lang/String") (y := (⟨"java/lang/String", "equals", "(Ljava/lang/Object;)Z"⟩ : MethodName)) (z := (⟨"java/lang/String", "equals", "(Ljava/lang/Object;)Z"⟩ : MethodName)) (W := 0) (kc := 0) (ks := 0) (argsL := [(.ref a170)]) (rest := []) (as' := #[(.ref a170), (.ref a170)]) (ws := []) X190 (w_273 hw) (w_274 hw) (w_276 hw) (w_275 hw) (by decide) S_a170.1 (nf_sel (w_276 hw)) (CtrN.pays (own_eqs l Z a0 hw h190 X190.old a170) (w_277 hw) (w_3 hw) (by decide) (by decide)) (fun v h' L q => ⟨q.2, q.1.1⟩) all0 (fun _ => Mark.stay all0) rfl (by rw [hml]; rfl) (lenOf pd_22 rfl) rfl rfl (by show 2 * 0 + _ ≤ _; exact Nat.le_of_eq rfl) (hb hby at_165) (by decide) (by decide) ?_
      intro T191 h191 v191 L191 X191 q191 K191
      obtain ⟨⟨-, rfl⟩, -⟩ := q191
      replace S_a170 := S_a170.ext K191.oExt
      replace Er187 := Er187.ext K191.oExt
      replace Fs187 := Fs187.ext K191.oExt
      replace Fn187 := Fn187.ext K191.oExt
      show Goes _ _ _ _ T191 (mkF m 168 #[.val (.int i0), .val (.int i1), .val (.int z2), .val (.int z3), .val (.int z4), .val (.ref b166), .val (.ref a170), .val (.ref a174), .val (.ref a174), .val (.int z3), .val (.ref r187), .val (.ref dn)] [(.int (1 : Int32))])
      refine Goes.go (fun _ kS_ => XS.ifNo X191.here X191.ex rfl (hb hby at_168) rfl ((if0 _ _).trans (cd_f (cd := .eq) (x := (1 : Int32)) (y := (0 : Int32)) (by decide))) (XS.iconst X191.here X191.ex rfl (hb hby at_171) (XS.goto X191.here X191.ex rfl (pc0 := 172) (pc' := 176) rfl (hb hby at_172) (by decide) (by decide) kS_))) ?_
      show Goes _ _ _ _ T191 (mkF m 176 #[.val (.int i0), .val (.int i1), .val (.int z2), .val (.int z3), .val (.int z4), .val (.ref b166), .val (.ref a170), .val (.ref a174), .val (.ref a174), .val (.int z3), .val (.ref r187), .val (.ref dn)] [(.int (1 : Int32))])
      refine Goes.outS X191 hEL (fun q => by rw [hret] at q; cases q) hlk (X191.rB hret (by simp) (hb hby at_176)) ?_ (by decide) (by decide)
      exact rfl
    · have hc132 : ¬ (z3 = (0 : Int32)) := hc132
      show Goes _ _ _ _ T187 (mkF m 135 #[.val (.int i0), .val (.int i1), .val (.int z2), .val (.int z3), .val (.int z4), .val (.ref b166), .val (.ref a170), .val (.ref a174), .val (.ref a174), .val (.int z3), .val (.ref r187), .unset] [])
      refine Wk.getS X187 (host := "") (Or.inl (w_280 hw)) Via.refl OU rfl (hb hby at_135) ?_
      intro T192 X192
      show Goes _ _ _ _ T192 (mkF m 138 #[.val (.int i0), .val (.int i1), .val (.int z2), .val (.int z3), .val (.int z4), .val (.ref b166), .val (.ref a170), .val (.ref a174), .val (.ref a174), .val (.int z3), .val (.ref r187), .unset] [(.ref up)])
      refine Goes.go (fun _ kS_ => XS.astore X192.here X192.ex rfl (hb hby at_138) rfl rfl (l' := #[.val (.int i0), .val (.int i1), .val (.int z2), .val (.int z3), .val (.int z4), .val (.ref b166), .val (.ref a170), .val (.ref a174), .val (.ref a174), .val (.int z3), .val (.ref r187), .val (.ref up)]) rfl (XS.goto X192.here X192.ex rfl (pc0 := 140) (pc' := 148) rfl (hb hby at_140) (by decide) (by decide) (XS.aload X192.here X192.ex rfl (hb hby at_148) rfl rfl kS_))) ?_
      show Goes _ _ _ _ T192 (mkF m 150 #[.val (.int i0), .val (.int i1), .val (.int z2), .val (.int z3), .val (.int z4), .val (.ref b166), .val (.ref a170), .val (.ref a174), .val (.ref a174), .val (.int z3), .val (.ref r187), .val (.ref up)] [(.ref r187)])
      refine Wk.virtual (hm' := fun _ => h187) (C := "com/example/steady_pulse/steadypulse/HealthCheckResponse") (y := (⟨"com/example/steady_pulse/steadypulse/HealthCheckResponse", "getStatus", "()Lcom/example/steady_pulse/steadypulse/HealthCheckResponse$Status;"⟩ : MethodName)) (z := (⟨"com/example/steady_pulse/steadypulse/HealthCheckResponse", "getStatus", "()Lcom/example/steady_pulse/steadypulse/HealthCheckResponse$Status;"⟩ : MethodName)) (W := 0) (kc := 0) (ks := 0) (argsL := []) (rest := []) (as' := #[(.ref r187)]) (ws := []) X192 (w_263 hw) (w_264 hw) (w_266 hw) (w_265 hw) (by decide) Er187 (nf_sel (w_266 hw)) (CtrN.pays (own_gs l Z a0 hw h187 X192.old r187 _ Fs187) (w_267 hw) (w_84 hw) (by decide) (by decide)) (fun v h' L q => ⟨q.2, q.1.1⟩) all0 (fun _ => Mark.stay all0) rfl (by rw [hml]; rfl) (lenOf pd_20 rfl) rfl rfl (by show 2 * 0 + _ ≤ _; exact Nat.le_of_eq rfl) (hb hby at_150) (by decide) (by decide) ?_
      intro T193 h193 v193 L193 X193 q193 K193
      obtain ⟨⟨-, rfl⟩, -⟩ := q193
      replace S_a170 := S_a170.ext K193.oExt
      replace Er187 := Er187.ext K193.oExt
      replace Fs187 := Fs187.ext K193.oExt
      replace Fn187 := Fn187.ext K193.oExt
      show Goes _ _ _ _ T193 (mkF m 153 #[.val (.int i0), .val (.int i1), .val (.int z2), .val (.int z3), .val (.int z4), .val (.ref b166), .val (.ref a170), .val (.ref a174), .val (.ref a174), .val (.int z3), .val (.ref r187), .val (.ref up)] [(.ref (if z3 = 0 then dn else up))])
      rw [if_neg hc132]
      show Goes _ _ _ _ T193 (mkF m 153 #[.val (.int i0), .val (.int i1), .val (.int z2), .val (.int z3), .val (.int z4), .val (.ref b166), .val (.ref a170), .val (.ref a174), .val (.ref a174), .val (.int z3), .val (.ref r187), .val (.ref up)] [(.ref up)])
      refine Goes.go (fun _ kS_ => XS.aload X193.here X193.ex rfl (hb hby at_153) rfl rfl (Jvm.Free.XT.acmpNo X193.here X193.ex rfl (hb hby at_155) rfl rfl rfl (own_acmp_ne rfl) (XS.aload X193.here X193.ex rfl (hb hby at_158) rfl rfl kS_))) ?_
      show Goes _ _ _ _ T193 (mkF m 160 #[.val (.int i0), .val (.int i1), .val (.int z2), .val (.int z3), .val (.int z4), .val (.ref b166), .val (.ref a170), .val (.ref a174), .val (.ref a174), .val (.int z3), .val (.ref r187), .val (.ref up)] [(.ref r187)])
      refine Wk.virtual (hm' := fun _ => h187) (C := "com/example/steady_pulse/steadypulse/HealthCheckResponse") (y := (⟨"com/example/steady_pulse/steadypulse/HealthCheckResponse", "getName", "()Ljava/lang/String;"⟩ : MethodName)) (z := (⟨"com/example/steady_pulse/steadypulse/HealthCheckResponse", "getName", "()Ljava/lang/String;"⟩ : MethodName)) (W := 0) (kc := 0) (ks := 0) (argsL := []) (rest := []) (as' := #[(.ref r187)]) (ws := []) X193 (w_268 hw) (w_269 hw) (w_271 hw) (w_270 hw) (by decide) Er187 (nf_sel (w_271 hw)) (CtrN.pays (own_gn l Z a0 hw h193 X193.old r187 _ Fn187) (w_272 hw) (w_84 hw) (by decide) (by decide)) (fun v h' L q => ⟨q.2, q.1.1⟩) all0 (fun _ => Mark.stay all0) rfl (by rw [hml]; rfl) (lenOf pd_21 rfl) rfl rfl (by show 2 * 0 + _ ≤ _; exact Nat.le_of_eq rfl) (hb hby at_160) (by decide) (by decide) ?_
      intro T194 h194 v194 L194 X194 q194 K194
      obtain ⟨⟨-, rfl⟩, -⟩ := q194
      replace S_a170 := S_a170.ext K194.oExt
      replace Er187 := Er187.ext K194.oExt
      replace Fs187 := Fs187.ext K194.oExt
      replace Fn187 := Fn187.ext K194.oExt
      show Goes _ _ _ _ T194 (mkF m 163 #[.val (.int i0), .val (.int i1), .val (.int z2), .val (.int z3), .val (.int z4), .val (.ref b166), .val (.ref a170), .val (.ref a174), .val (.ref a174), .val (.int z3), .val (.ref r187), .val (.ref up)] [(.ref a170)])
      refine Goes.go (fun _ kS_ => XS.aload X194.here X194.ex rfl (hb hby at_163) rfl rfl kS_) ?_
      show Goes _ _ _ _ T194 (mkF m 165 #[.val (.int i0), .val (.int i1), .val (.int z2), .val (.int z3), .val (.int z4), .val (.ref b166), .val (.ref a170), .val (.ref a174), .val (.ref a174), .val (.int z3), .val (.ref r187), .val (.ref up)] [(.ref a170), (.ref a170)])
      refine Wk.virtual (hm' := fun _ => h187) (C := "java/lang/String") (y := (⟨"java/lang/String", "equals", "(Ljava/lang/Object;)Z"⟩ : MethodName)) (z := (⟨"java/lang/String", "equals", "(Ljava/lang/Object;)Z"⟩ : MethodName)) (W := 0) (kc := 0) (ks := 0) (argsL := [(.ref a170)]) (rest := []) (as' := #[(.ref a170), (.ref a170)]) (ws := []) X194 (w_273 hw) (w_274 hw) (w_276 hw) (w_275 hw) (by decide) S_a170.1 (nf_sel (w_276 hw)) (CtrN.pays (own_eqs l Z a0 hw h194 X194.old a170) (w_277 hw) (w_3 hw) (by decide) (by decide)) (fun v h' L q => ⟨q.2, q.1.1⟩) all0 (fun _ => Mark.stay all0) rfl (by rw [hml]; rfl) (lenOf pd_22 rfl) rfl rfl (by show 2 * 0 + _ ≤ _; exact Nat.le_of_eq rfl) (hb hby at_165) (by decide) (by decide) ?_
      intro T195 h195 v195 L195 X195 q195 K195
      obtain ⟨⟨-, rfl⟩, -⟩ := q195
      replace S_a170 := S_a170.ext K195.oExt
      replace Er187 := Er187.ext K195.oExt
      replace Fs187 := Fs187.ext K195.oExt
      replace Fn187 := Fn187.ext K195.oExt
      show Goes _ _ _ _ T195 (mkF m 168 #[.val (.int i0), .val (.int i1), .val (.int z2), .val (.int z3), .val (.int z4), .val (.ref b166), .val (.ref a170), .val (.ref a174), .val (.ref a174), .val (.int z3), .val (.ref r187), .val (.ref up)] [(.int (1 : Int32))])
      refine Goes.go (fun _ kS_ => XS.ifNo X195.here X195.ex rfl (hb hby at_168) rfl ((if0 _ _).trans (cd_f (cd := .eq) (x := (1 : Int32)) (y := (0 : Int32)) (by decide))) (XS.iconst X195.here X195.ex rfl (hb hby at_171) (XS.goto X195.here X195.ex rfl (pc0 := 172) (pc' := 176) rfl (hb hby at_172) (by decide) (by decide) kS_))) ?_
      show Goes _ _ _ _ T195 (mkF m 176 #[.val (.int i0), .val (.int i1), .val (.int z2), .val (.int z3), .val (.int z4), .val (.ref b166), .val (.ref a170), .val (.ref a174), .val (.ref a174), .val (.int z3), .val (.ref r187), .val (.ref up)] [(.int (1 : Int32))])
      refine Goes.outS X195 hEL (fun q => by rw [hret] at q; cases q) hlk (X195.rB hret (by simp) (hb hby at_176)) ?_ (by decide) (by decide)
      exact rfl
set_option maxRecDepth 65536 in
set_option maxHeartbeats 40000000 in
theorem comes_1 {Post : Tables → Env → Array Value → State → Outcome → State → Prop} (hpost : ∀ tb e args s v u, (limb_1_1.after args s (.returned v) u = true ∧ limb_1_2.after args s (.returned v) u = true ∧ True) → FramedW s (.returned v) u (Jvm.fieldLocs frame_1_writes args s ++ Jvm.arrayLocs frame_1_arrays args s ++ Jvm.staticLocs frame_1_statics s) 40 3264 → Post tb e args s (.returned v) u) :
    ArmFor flags0 classFile x code maxLocals ret World_1 tables_1 room_1 Calls_1 rest_1 Pre_1 Post := by
  intro l hfl _ _ p e ha hc hk s m args below hf hA hF happ hP
  obtain ⟨hcalls, hrest, hpre⟩ := hP
  obtain ⟨-, -, -, hnamed, -, -, -, hat⟩ := (Spec.applies_iff hf).mp happ
  obtain ⟨hg, hn⟩ := and_e (Cond.before_iff.mp (show (Jvm.Cond.and given_1 narrow_1).before args s = true from hpre))
  obtain ⟨h1, r0⟩ := and_e hg
  obtain ⟨w0, w1, rfl⟩ : ∃ w0 w1 : Value, args = #[w0, w1] := by
    have hs : args.size = 2 := by simpa [Cond.value, given_1] using h1
    obtain ⟨L⟩ := args
    match L, hs with
    | [w0, w1], _ => exact ⟨w0, w1, rfl⟩
  have hw := fun d (hd : d ∈ tables_1) => atoms_spec (ws := Jvm.Cond.code x code maxLocals ret :: tables_1) hat d (List.mem_cons_of_mem _ hd)
  obtain ⟨hsets, hown0⟩ := atoms_of _ (rest_1_c_eq ▸ (show rest_1_c.before _ s = true from hrest))
  have hfit : Fit s := fun {y c} hc i hi => by
    obtain ⟨ha, rfl⟩ := Array.getElem?_eq_some_iff.mp hc
    have q := List.all_eq_true.mp ((Array.all_eq_true_iff_forall_mem.mp hF) _ (Array.getElem_mem ha)) i (List.mem_range.mpr hi)
    simpa [Array.getElem?_eq_getElem hi] using q
  obtain ⟨q0, r1⟩ := and_e r0
  obtain ⟨i0, e0⟩ := is_v q0
  obtain rfl : w0 = (.int i0) := Option.some.inj e0
  obtain ⟨i1, e1⟩ := is_v r1
  obtain rfl : w1 = (.int i1) := Option.some.inj e1
  have n3 := not_v (Cond.before_iff.mp (hsets _ (List.mem_of_getElem? (i := 2) rfl)))
  obtain ⟨G1, eG1⟩ := is_v (Cond.before_iff.mp (hsets _ (List.mem_of_getElem? (i := 1) rfl)))
  have O2 : Sta s s.heap "java/lang/String" "COMPACT_STRINGS" "Z" (.int G1) := Sta.start eG1 (Or.inl (hsets _ (List.mem_of_getElem? (i := 0) rfl)))
  have P5 : ¬ (G1 = (0 : Int32)) := gotF (Cond.eq_ints eG1 (Term.int_eval (0))) n3
  obtain ⟨ci, eci⟩ := exa_v (Cond.before_iff.mp (hsets _ (List.mem_of_getElem? (i := 11) rfl)))
  have EI : Exa s s.heap ci "java/lang/CharacterDataLatin1" := Exa.start eci (Cond.before_iff.mp (hsets _ (List.mem_of_getElem? (i := 11) rfl)))
  have OI : Sta s s.heap "java/lang/CharacterDataLatin1" "instance" "Ljava/lang/CharacterDataLatin1;" (.ref ci) := Sta.start eci (Or.inl (hsets _ (List.mem_of_getElem? (i := 10) rfl)))
  obtain ⟨aA, eaA⟩ := arr_v (Cond.before_iff.mp (hsets _ (List.mem_of_getElem? (i := 14) rfl)))
  obtain ⟨clA, AA⟩ := Arr.start eaA (Cond.before_iff.mp (hsets _ (List.mem_of_getElem? (i := 14) rfl)))
  have OQ : Sta s s.heap "java/lang/CharacterDataLatin1" "A" "[I" (.ref aA) := Sta.start eaA (Or.inl (hsets _ (List.mem_of_getElem? (i := 13) rfl)))
  obtain ⟨hA0, hA⟩ := elem_in (Cond.eq_int (hsets _ (List.mem_of_getElem? (i := 127) rfl)) (Term.int_eval (8486882 : Int32))) eaA (Term.int_eval (110 : Int32)) AA.1
  have hA2 : 110 < clA.slots.size := Nat.lt_of_not_le fun q => hA0 (Or.inr q)
  obtain ⟨c1m, M1⟩ := MirC.of (by obtain ⟨c, k, a, q1, q2, q3, -⟩ := hcalls.1; exact ⟨c, k, a, q1, q2, q3⟩)
  obtain ⟨c2m, M2⟩ := MirC.of (by obtain ⟨c, k, a, q1, q2, q3, -⟩ := hcalls.2.1; exact ⟨c, k, a, q1, q2, q3⟩)
  obtain ⟨nd, nu⟩ := and_e hn
  obtain ⟨dn, edn⟩ := exa_v nd
  obtain ⟨up, eup⟩ := exa_v nu
  have OD : Sta s s.heap "com/example/steady_pulse/steadypulse/HealthCheckResponse$Status" "DOWN" "Lcom/example/steady_pulse/steadypulse/HealthCheckResponse$Status;" (.ref dn) := Sta.start edn (Or.inr ⟨(w_73 hw), (w_74 hw)⟩)
  have OU : Sta s s.heap "com/example/steady_pulse/steadypulse/HealthCheckResponse$Status" "UP" "Lcom/example/steady_pulse/steadypulse/HealthCheckResponse$Status;" (.ref up) := Sta.start eup (Or.inr ⟨(w_73 hw), (w_279 hw)⟩)
  have hEL : EW s #[(.int i0), (.int i1)] ([] : List (String × Nat)) := EW.nil
  have hCH : CHv s [] s.vm s.heap := CHv.none
  obtain ⟨n, o, h1, h2, h3, _, L, rfl, ⟨rfl, N⟩, -, hq⟩ := own_law l s _ hw hEL s.heap (Ext.oRefl _) i0 i1 G1 up dn ci aA clA c1m c2m O2 P5 OI EI OQ AA hA hA2 M1 M2 OU OD tables_1 p e ha hc hk s m _ below hf ((Spec.applies_iff_loose hf).mp happ).1 ⟨rfl, State.Warmed39.refl s, rfl, hCH⟩ trivial
  exact ⟨n, _, h1, h2, h3, hpost _ _ _ _ _ _ ⟨Cond.after_iff.mpr rfl, Cond.after_iff.mpr (eq_i res_at (Term.int_eval (1)) rfl), trivial⟩ ⟨hq.1, hq.2.1, hq.2.2.1, (hq.2.2.2.sift fun y hy => Or.inr (N y hy)).mono (by decide) (by decide)⟩⟩
theorem main_1_1 : Claimed_1_1 := comes_1 fun _ _ _ _ _ _ h hF => ⟨h.1, hF⟩
theorem main_1_2 : Claimed_1_2 := comes_1 fun _ _ _ _ _ _ h hF => ⟨h.2.1, hF⟩
end Jvm.Pilot.@@N@@
namespace Jvm.Pilot.@@N@@
open Jvm Jvm.ClassFile Sem Op Lib Jvm.Free Jvm.Stand Jvm.Pilot.@@N@@.Jvm.D
/-! MADE BY PROGRAM (witnessworld.py) out of the Statement's table words and the real class files: 45 classes; the members and pool entries that the words name. The judged class is class 1, her method 1. -/
namespace start1
open Jvm.ClassFile
def u (s : String) : CpInfo := .utf8 (stringToUtf16 s)
/-- a pool by its gaps: so many unusable entries, then the entry; so many at the end -/
def gap : Nat → List CpInfo → List CpInfo
  | 0, r => r
  | n + 1, r => .unusable :: gap n r
def poolList (es : List (Nat × CpInfo)) (last : Nat) : List CpInfo := es.foldr (fun e r => gap e.1 (e.2 :: r)) (gap last [])
def pool (es : List (Nat × CpInfo)) (last : Nat) : Array CpInfo := ⟨poolList es last⟩
def fileOf (pool : Array CpInfo) (this : Nat) (attrs : Array Attribute := #[]) (ms : Array MethodInfo := #[]) (fl : Nat := 33) (sup : Nat := 0) (ifs : Array Nat := #[]) (fds : Array FieldInfo := #[]) : ClassFile where
  minorVersion := 0
  majorVersion := 65
  constantPool := pool
  accessFlags := fl
  thisClass := this
  superClass := sup
  interfaces := ifs
  fields := fds
  methods := ms
  attributes := attrs
def plain (name : String) (sup : Option ClassId) : Class where
  name := name
  kind := .ordinary
  loader := none
  accessFlags := 33
  super := sup
  interfaces := #[]
  cf := none
  fields := #[]
  methods := #[]
  instanceTypes := #[]
  staticTypes := #[]
  resolved := #[]
  callSites := []
  init := .initialized
  statics := none
  mirror := none

def pool0 : Array CpInfo := pool [(5, u "<init>"), (0, u "()V"), (1, .class_ 10), (1, u "java/lang/Object"), (0, u "getClass"), (0, u "()Ljava/lang/Class;")] 111

def k0c0 : Code := { maxStack := 0, maxLocals := 1, code := object_method_1_code, exceptionTable := #[], attributes := #[] }
def k0m0 : Method := { name := "<init>", desc := "()V", sig := { parameters := [], returnType := none }, accessFlags := 1, code := some k0c0 }
def k0m1 : Method := { name := "getClass", desc := "()Ljava/lang/Class;", sig := { parameters := [], returnType := some (.object "java/lang/Class") }, accessFlags := 273, code := none }
/-- java/lang/Object -/
def k0 : Class := { plain "java/lang/Object" none with
  accessFlags := 33
  interfaces := #[]
  cf := some (fileOf pool0 8 #[] #[{ accessFlags := 1, nameIndex := 5, descriptorIndex := 6, attributes := #[] }, { accessFlags := 273, nameIndex := 11, descriptorIndex := 12, attributes := #[] }] 33 0 #[] #[])
  fields := #[]
  methods := #[k0m0, k0m1]
  instanceTypes := #[]
  staticTypes := #[]
  resolved := Array.replicate 124 none
  statics := none }

def pool1 : Array CpInfo := pool [(2, .class_ 4), (1, u "java/lang/Object"), (0, u "<init>"), (0, u "()V"), (0, .class_ 8), (0, u "java/lang/String"), (0, .methodref 7 10), (0, .nameAndType 5 11), (0, u "([C)V"), (0, .class_ 13), (0, u "com/example/steady_pulse/steadypulse/HealthCheckResponse$Builder"), (0, .methodref 12 15), (0, .nameAndType 5 16), (0, u "(Ljava/lang/String;)V"), (0, .methodref 12 18), (0, .nameAndType 19 20), (0, u "status"), (0, u "(Z)Lcom/example/steady_pulse/steadypulse/HealthCheckResponse$Builder;"), (0, .methodref 12 22), (0, .nameAndType 23 24), (0, u "build"), (0, u "()Lcom/example/steady_pulse/steadypulse/HealthCheckResponse;"), (0, .fieldref 26 27), (0, .class_ 28), (0, .nameAndType 29 30), (0, u "com/example/steady_pulse/steadypulse/HealthCheckResponse$Status"), (0, u "UP"), (0, u "Lcom/example/steady_pulse/steadypulse/HealthCheckResponse$Status;"), (0, .fieldref 26 32), (0, .nameAndType 33 30), (0, u "DOWN"), (0, .methodref 35 36), (0, .class_ 37), (0, .nameAndType 38 39), (0, u "com/example/steady_pulse/steadypulse/HealthCheckResponse"), (0, u "getStatus"), (0, u "()Lcom/example/steady_pulse/steadypulse/HealthCheckResponse$Status;"), (0, .methodref 35 41), (0, .nameAndType 42 43), (0, u "getName"), (0, u "()Ljava/lang/String;"), (0, .methodref 7 45), (0, .nameAndType 46 47), (0, u "equals"), (0, u "(Ljava/lang/Object;)Z"), (0, .class_ 49), (0, u "com/example/steady_pulse/steadypulse/BuilderStatusPinLaw"), (2, u "law"), (0, u "(II)Z")] 8

def k1m0 : Method := { name := "<init>", desc := "()V", sig := { parameters := [], returnType := none }, accessFlags := 1, code := none }
def k1c1 : Code := { maxStack := 5, maxLocals := 12, code := code, exceptionTable := #[], attributes := #[] }
def k1m1 : Method := { name := "law", desc := "(II)Z", sig := { parameters := [.int, .int], returnType := some .boolean }, accessFlags := 9, code := some k1c1 }
/-- com/example/steady_pulse/steadypulse/BuilderStatusPinLaw -/
def k1 : Class := { plain "com/example/steady_pulse/steadypulse/BuilderStatusPinLaw" (some 0) with
  accessFlags := 49
  interfaces := #[]
  cf := some (fileOf pool1 48 #[] #[{ accessFlags := 1, nameIndex := 5, descriptorIndex := 6, attributes := #[] }, { accessFlags := 9, nameIndex := 52, descriptorIndex := 53, attributes := #[] }] 49 2 #[] #[])
  fields := #[]
  methods := #[k1m0, k1m1]
  instanceTypes := #[]
  staticTypes := #[]
  resolved := Array.replicate 62 none
  statics := none }

def pool2 : Array CpInfo := pool [(1, .class_ 2), (0, u "java/io/Serializable"), (0, .class_ 4), (0, u "java/lang/Object")] 2

/-- java/io/Serializable -/
def k2 : Class := { plain "java/io/Serializable" (some 0) with
  accessFlags := 1537
  interfaces := #[]
  cf := some (fileOf pool2 1 #[] #[] 1537 3 #[] #[])
  fields := #[]
  methods := #[]
  instanceTypes := #[]
  staticTypes := #[]
  resolved := Array.replicate 7 none
  statics := none }

def pool3 : Array CpInfo := pool [(1, .class_ 2), (0, u "java/lang/Comparable"), (0, .class_ 4), (0, u "java/lang/Object")] 7

/-- java/lang/Comparable -/
def k3 : Class := { plain "java/lang/Comparable" (some 0) with
  accessFlags := 1537
  interfaces := #[]
  cf := some (fileOf pool3 1 #[] #[] 1537 3 #[] #[])
  fields := #[]
  methods := #[]
  instanceTypes := #[]
  staticTypes := #[]
  resolved := Array.replicate 12 none
  statics := none }

def pool4 : Array CpInfo := pool [(2, .class_ 4), (1, u "java/lang/CharSequence"), (42, .class_ 48), (0, u "java/lang/CharSequence$1CodePointIterator"), (10, .class_ 60), (0, u "java/lang/CharSequence$1CharIterator"), (5, .class_ 67), (0, u "java/lang/Object")] 63

/-- java/lang/CharSequence -/
def k4 : Class := { plain "java/lang/CharSequence" (some 0) with
  accessFlags := 1537
  interfaces := #[]
  cf := some (fileOf pool4 2 #[.nestMembers #[47, 59]] #[] 1537 66 #[] #[])
  fields := #[]
  methods := #[]
  instanceTypes := #[]
  staticTypes := #[]
  resolved := Array.replicate 131 none
  statics := none }

def pool5 : Array CpInfo := pool [(1, .class_ 2), (0, u "java/lang/constant/Constable"), (0, .class_ 4), (0, u "java/lang/Object")] 6

/-- java/lang/constant/Constable -/
def k5 : Class := { plain "java/lang/constant/Constable" (some 0) with
  accessFlags := 1537
  interfaces := #[]
  cf := some (fileOf pool5 1 #[] #[] 1537 3 #[] #[])
  fields := #[]
  methods := #[]
  instanceTypes := #[]
  staticTypes := #[]
  resolved := Array.replicate 11 none
  statics := none }

def pool6 : Array CpInfo := pool [(1, .class_ 2), (0, u "java/lang/constant/ConstantDesc"), (0, .class_ 4), (0, u "java/lang/Object")] 32

/-- java/lang/constant/ConstantDesc -/
def k6 : Class := { plain "java/lang/constant/ConstantDesc" (some 0) with
  accessFlags := 1537
  interfaces := #[]
  cf := some (fileOf pool6 1 #[] #[] 1537 3 #[] #[])
  fields := #[]
  methods := #[]
  instanceTypes := #[]
  staticTypes := #[]
  resolved := Array.replicate 37 none
  statics := none }

def pool7 : Array CpInfo := pool [(1, .methodref 2 3), (0, .class_ 4), (0, .nameAndType 5 6), (0, u "java/lang/Object"), (0, u "<init>"), (0, u "()V"), (2, .fieldref 10 11), (0, .class_ 12), (0, .nameAndType 13 14), (0, u "java/lang/String"), (0, u "value"), (0, u "[B"), (0, .fieldref 10 16), (0, .nameAndType 17 18), (0, u "coder"), (0, u "B"), (2, u "hash"), (0, u "I"), (2, u "hashIsZero"), (0, u "Z"), (0, .methodref 10 28), (0, .nameAndType 5 29), (0, u "([CIILjava/lang/Void;)V"), (8, .fieldref 10 39), (0, .nameAndType 40 26), (0, u "COMPACT_STRINGS"), (1, .class_ 44), (1, u "java/lang/StringUTF16"), (0, u "compress"), (1, .methodref 42 48), (0, .nameAndType 49 50), (0, u "coderFromArrayLen"), (0, u "([BI)B"), (56, .class_ 109), (1, u "java/lang/StringLatin1"), (32, u "()Z"), (34, .methodref 42 178), (0, .nameAndType 45 179), (0, u "([CII)[B"), (154, u "()I"), (0, .methodref 10 336), (0, .nameAndType 17 337), (0, u "()B"), (154, .methodref 10 493), (0, .nameAndType 494 142), (0, u "isLatin1"), (10, .methodref 10 506), (0, .nameAndType 507 334), (0, u "length"), (35, u "equals"), (29, u "(Ljava/lang/Object;)Z"), (1, .class_ 576), (0, u "java/lang/CharSequence"), (22, u "CASE_INSENSITIVE_ORDER"), (0, u "Ljava/util/Comparator;"), (30, u "([B)I"), (244, .methodref 10 877), (0, .nameAndType 878 334), (0, u "indexOfNonWhitespace"), (45, .methodref 107 925), (0, .nameAndType 878 631), (26, u "isBlank"), (57, u "([C)V"), (90, u "serialPersistentFields"), (0, u "[Ljava/io/ObjectStreamField;"), (0, .class_ 1104), (0, u "java/lang/String$CaseInsensitiveComparator"), (1, .class_ 1107), (0, u "java/io/Serializable"), (0, .class_ 1109), (0, u "java/lang/Comparable"), (0, .class_ 1111), (0, u "java/lang/constant/Constable"), (0, .class_ 1113), (0, u "java/lang/constant/ConstantDesc"), (2, u "serialVersionUID"), (0, u "J"), (3, u "REPL"), (0, u "C"), (2, u "LATIN1"), (1, u "UTF16")] 323

def k7m0 : Method := { name := "<init>", desc := "()V", sig := { parameters := [], returnType := none }, accessFlags := 1, code := none }
def k7c1 : Code := { maxStack := 5, maxLocals := 2, code := jdk_42_method_3_code, exceptionTable := #[], attributes := #[] }
def k7m1 : Method := { name := "<init>", desc := "([C)V", sig := { parameters := [(.array .char)], returnType := none }, accessFlags := 1, code := some k7c1 }
def k7c2 : Code := { maxStack := 2, maxLocals := 1, code := jdk_42_method_54_code, exceptionTable := #[], attributes := #[] }
def k7m2 : Method := { name := "length", desc := "()I", sig := { parameters := [], returnType := some .int }, accessFlags := 1, code := some k7c2 }
def k7c3 : Code := { maxStack := 2, maxLocals := 3, code := jdk_42_method_66_code, exceptionTable := #[], attributes := #[] }
def k7m3 : Method := { name := "equals", desc := "(Ljava/lang/Object;)Z", sig := { parameters := [(.object "java/lang/Object")], returnType := some .boolean }, accessFlags := 1, code := some k7c3 }
def k7c4 : Code := { maxStack := 2, maxLocals := 1, code := jdk_42_method_117_code, exceptionTable := #[], attributes := #[] }
def k7m4 : Method := { name := "isBlank", desc := "()Z", sig := { parameters := [], returnType := some .boolean }, accessFlags := 1, code := some k7c4 }
def k7c5 : Code := { maxStack := 1, maxLocals := 1, code := jdk_42_method_120_code, exceptionTable := #[], attributes := #[] }
def k7m5 : Method := { name := "indexOfNonWhitespace", desc := "()I", sig := { parameters := [], returnType := some .int }, accessFlags := 2, code := some k7c5 }
def k7c6 : Code := { maxStack := 4, maxLocals := 6, code := jdk_42_method_149_code, exceptionTable := #[], attributes := #[] }
def k7m6 : Method := { name := "<init>", desc := "([CIILjava/lang/Void;)V", sig := { parameters := [(.array .char), .int, .int, (.object "java/lang/Void")], returnType := none }, accessFlags := 2, code := some k7c6 }
def k7c7 : Code := { maxStack := 1, maxLocals := 1, code := jdk_42_method_152_code, exceptionTable := #[], attributes := #[] }
def k7m7 : Method := { name := "coder", desc := "()B", sig := { parameters := [], returnType := some .byte }, accessFlags := 0, code := some k7c7 }
def k7c8 : Code := { maxStack := 1, maxLocals := 1, code := jdk_42_method_154_code, exceptionTable := #[], attributes := #[] }
def k7m8 : Method := { name := "isLatin1", desc := "()Z", sig := { parameters := [], returnType := some .boolean }, accessFlags := 0, code := some k7c8 }
/-- java/lang/String -/
def k7 : Class := { plain "java/lang/String" (some 0) with
  accessFlags := 49
  interfaces := #[2, 3, 4, 5, 6]
  cf := some (fileOf pool7 10 #[.nestMembers #[1103]] #[{ accessFlags := 1, nameIndex := 5, descriptorIndex := 6, attributes := #[] }, { accessFlags := 1, nameIndex := 5, descriptorIndex := 1010, attributes := #[] }, { accessFlags := 1, nameIndex := 507, descriptorIndex := 334, attributes := #[] }, { accessFlags := 1, nameIndex := 543, descriptorIndex := 573, attributes := #[] }, { accessFlags := 1, nameIndex := 952, descriptorIndex := 142, attributes := #[] }, { accessFlags := 2, nameIndex := 878, descriptorIndex := 334, attributes := #[] }, { accessFlags := 2, nameIndex := 5, descriptorIndex := 29, attributes := #[] }, { accessFlags := 0, nameIndex := 17, descriptorIndex := 337, attributes := #[] }, { accessFlags := 0, nameIndex := 494, descriptorIndex := 142, attributes := #[] }] 49 2 #[1106, 1108, 575, 1110, 1112] #[{ accessFlags := 18, nameIndex := 13, descriptorIndex := 14, attributes := #[] }, { accessFlags := 18, nameIndex := 17, descriptorIndex := 18, attributes := #[] }, { accessFlags := 2, nameIndex := 21, descriptorIndex := 22, attributes := #[] }, { accessFlags := 2, nameIndex := 25, descriptorIndex := 26, attributes := #[] }, { accessFlags := 26, nameIndex := 1116, descriptorIndex := 1117, attributes := #[] }, { accessFlags := 24, nameIndex := 40, descriptorIndex := 26, attributes := #[] }, { accessFlags := 26, nameIndex := 1101, descriptorIndex := 1102, attributes := #[] }, { accessFlags := 26, nameIndex := 1121, descriptorIndex := 1122, attributes := #[] }, { accessFlags := 25, nameIndex := 599, descriptorIndex := 600, attributes := #[] }, { accessFlags := 24, nameIndex := 1125, descriptorIndex := 18, attributes := #[] }, { accessFlags := 24, nameIndex := 1127, descriptorIndex := 18, attributes := #[] }])
  fields := #[{ name := "value", type := (.array .byte), accessFlags := 18, slot := 0, constantValue := 0 }, { name := "coder", type := .byte, accessFlags := 18, slot := 1, constantValue := 0 }, { name := "hash", type := .int, accessFlags := 2, slot := 2, constantValue := 0 }, { name := "hashIsZero", type := .boolean, accessFlags := 2, slot := 3, constantValue := 0 }, { name := "serialVersionUID", type := .long, accessFlags := 26, slot := 0, constantValue := 0 }, { name := "COMPACT_STRINGS", type := .boolean, accessFlags := 24, slot := 1, constantValue := 0 }, { name := "serialPersistentFields", type := (.array (.object "java/io/ObjectStreamField")), accessFlags := 26, slot := 2, constantValue := 0 }, { name := "REPL", type := .char, accessFlags := 26, slot := 3, constantValue := 0 }, { name := "CASE_INSENSITIVE_ORDER", type := (.object "java/util/Comparator"), accessFlags := 25, slot := 4, constantValue := 0 }, { name := "LATIN1", type := .byte, accessFlags := 24, slot := 5, constantValue := 0 }, { name := "UTF16", type := .byte, accessFlags := 24, slot := 6, constantValue := 0 }]
  methods := #[k7m0, k7m1, k7m2, k7m3, k7m4, k7m5, k7m6, k7m7, k7m8]
  instanceTypes := #[(.array .byte), .byte, .int, .boolean]
  staticTypes := #[.long, .boolean, (.array (.object "java/io/ObjectStreamField")), .char, (.object "java/util/Comparator"), .byte, .byte]
  resolved := Array.replicate 1451 none
  statics := some 0 }

def pool8 : Array CpInfo := pool [(6, .class_ 8), (1, u "java/lang/Object"), (0, u "<init>"), (0, u "()V"), (1, .class_ 14), (1, u "java/lang/StringUTF16"), (31, u "$assertionsDisabled"), (0, u "Z"), (13, u "HI_BYTE_SHIFT"), (0, u "I"), (2, u "LO_BYTE_SHIFT"), (49, .methodref 12 116), (0, .nameAndType 117 118), (0, u "compress"), (0, u "([CI[BII)I"), (3, u "([CII)[B"), (138, u "coderFromArrayLen"), (0, u "([BI)B"), (106, .class_ 371), (1, u "java/lang/StringUTF16$LinesSpliterator"), (58, u "MAX_LENGTH"), (196, .class_ 628), (0, u "java/lang/StringUTF16$CodePointsSpliterator"), (0, .class_ 630), (0, u "java/lang/StringUTF16$CharsSpliterator")] 4

def k8m0 : Method := { name := "<init>", desc := "()V", sig := { parameters := [], returnType := none }, accessFlags := 0, code := none }
def k8c1 : Code := { maxStack := 2, maxLocals := 2, code := jdk_52_method_15_code, exceptionTable := #[], attributes := #[] }
def k8m1 : Method := { name := "coderFromArrayLen", desc := "([BI)B", sig := { parameters := [(.array .byte), .int], returnType := some .byte }, accessFlags := 8, code := some k8c1 }
def k8c2 : Code := { maxStack := 5, maxLocals := 6, code := jdk_52_method_16_code, exceptionTable := #[], attributes := #[] }
def k8m2 : Method := { name := "compress", desc := "([CII)[B", sig := { parameters := [(.array .char), .int, .int], returnType := some (.array .byte) }, accessFlags := 9, code := some k8c2 }
def k8c3 : Code := { maxStack := 3, maxLocals := 7, code := jdk_52_method_21_code, exceptionTable := #[], attributes := #[] }
def k8m3 : Method := { name := "compress", desc := "([CI[BII)I", sig := { parameters := [(.array .char), .int, (.array .byte), .int, .int], returnType := some .int }, accessFlags := 9, code := some k8c3 }
/-- java/lang/StringUTF16 -/
def k8 : Class := { plain "java/lang/StringUTF16" (some 0) with
  accessFlags := 48
  interfaces := #[]
  cf := some (fileOf pool8 12 #[.nestMembers #[627, 629, 369]] #[{ accessFlags := 0, nameIndex := 9, descriptorIndex := 10, attributes := #[] }, { accessFlags := 8, nameIndex := 261, descriptorIndex := 262, attributes := #[] }, { accessFlags := 9, nameIndex := 117, descriptorIndex := 122, attributes := #[] }, { accessFlags := 9, nameIndex := 117, descriptorIndex := 118, attributes := #[] }] 48 6 #[] #[{ accessFlags := 26, nameIndex := 61, descriptorIndex := 62, attributes := #[] }, { accessFlags := 26, nameIndex := 65, descriptorIndex := 62, attributes := #[] }, { accessFlags := 24, nameIndex := 430, descriptorIndex := 62, attributes := #[] }, { accessFlags := 4120, nameIndex := 46, descriptorIndex := 47, attributes := #[] }])
  fields := #[{ name := "HI_BYTE_SHIFT", type := .int, accessFlags := 26, slot := 0, constantValue := 0 }, { name := "LO_BYTE_SHIFT", type := .int, accessFlags := 26, slot := 1, constantValue := 0 }, { name := "MAX_LENGTH", type := .int, accessFlags := 24, slot := 2, constantValue := 0 }, { name := "$assertionsDisabled", type := .boolean, accessFlags := 4120, slot := 3, constantValue := 0 }]
  methods := #[k8m0, k8m1, k8m2, k8m3]
  instanceTypes := #[]
  staticTypes := #[.int, .int, .int, .boolean]
  resolved := Array.replicate 635 none
  statics := none }

def pool9 : Array CpInfo := pool [(1, .methodref 2 3), (0, .class_ 4), (0, .nameAndType 5 6), (0, u "java/lang/Object"), (0, u "<init>"), (0, u "()V"), (0, .class_ 8), (0, u "java/util/LinkedHashMap"), (0, .methodref 7 3), (0, .fieldref 11 12), (0, .class_ 13), (0, .nameAndType 14 15), (0, u "com/example/steady_pulse/steadypulse/HealthCheckResponse$Builder"), (0, u "data"), (0, u "Ljava/util/Map;"), (0, .fieldref 11 17), (0, .nameAndType 18 19), (0, u "name"), (0, u "Ljava/lang/String;"), (24, u "status"), (0, u "(Z)Lcom/example/steady_pulse/steadypulse/HealthCheckResponse$Builder;"), (0, .fieldref 47 48), (0, .class_ 49), (0, .nameAndType 50 51), (0, u "com/example/steady_pulse/steadypulse/HealthCheckResponse$Status"), (0, u "UP"), (0, u "Lcom/example/steady_pulse/steadypulse/HealthCheckResponse$Status;"), (0, .fieldref 47 53), (0, .nameAndType 54 51), (0, u "DOWN"), (0, .fieldref 11 56), (0, .nameAndType 44 51), (8, u "(Ljava/lang/String;)V"), (0, .class_ 67), (0, u "com/example/steady_pulse/steadypulse/HealthCheckResponse"), (0, .methodref 66 69), (0, .nameAndType 5 70), (0, u "(Ljava/lang/String;Lcom/example/steady_pulse/steadypulse/HealthCheckResponse$Status;Ljava/util/Map;)V"), (13, u "build"), (0, u "()Lcom/example/steady_pulse/steadypulse/HealthCheckResponse;")] 20

def k9c0 : Code := { maxStack := 3, maxLocals := 2, code := prog_22_method_1_code, exceptionTable := #[], attributes := #[] }
def k9m0 : Method := { name := "<init>", desc := "(Ljava/lang/String;)V", sig := { parameters := [(.object "java/lang/String")], returnType := none }, accessFlags := 0, code := some k9c0 }
def k9c1 : Code := { maxStack := 2, maxLocals := 2, code := prog_22_method_8_code, exceptionTable := #[], attributes := #[] }
def k9m1 : Method := { name := "status", desc := "(Z)Lcom/example/steady_pulse/steadypulse/HealthCheckResponse$Builder;", sig := { parameters := [.boolean], returnType := some (.object "com/example/steady_pulse/steadypulse/HealthCheckResponse$Builder") }, accessFlags := 1, code := some k9c1 }
def k9c2 : Code := { maxStack := 5, maxLocals := 1, code := prog_22_method_9_code, exceptionTable := #[], attributes := #[] }
def k9m2 : Method := { name := "build", desc := "()Lcom/example/steady_pulse/steadypulse/HealthCheckResponse;", sig := { parameters := [], returnType := some (.object "com/example/steady_pulse/steadypulse/HealthCheckResponse") }, accessFlags := 1, code := some k9c2 }
/-- com/example/steady_pulse/steadypulse/HealthCheckResponse$Builder -/
def k9 : Class := { plain "com/example/steady_pulse/steadypulse/HealthCheckResponse$Builder" (some 0) with
  accessFlags := 33
  interfaces := #[]
  cf := some (fileOf pool9 11 #[.nestHost 66] #[{ accessFlags := 0, nameIndex := 5, descriptorIndex := 65, attributes := #[] }, { accessFlags := 1, nameIndex := 44, descriptorIndex := 45, attributes := #[] }, { accessFlags := 1, nameIndex := 84, descriptorIndex := 85, attributes := #[] }] 33 2 #[] #[{ accessFlags := 18, nameIndex := 18, descriptorIndex := 19, attributes := #[] }, { accessFlags := 18, nameIndex := 14, descriptorIndex := 15, attributes := #[] }, { accessFlags := 2, nameIndex := 44, descriptorIndex := 51, attributes := #[] }])
  fields := #[{ name := "name", type := (.object "java/lang/String"), accessFlags := 18, slot := 0, constantValue := 0 }, { name := "data", type := (.object "java/util/Map"), accessFlags := 18, slot := 1, constantValue := 0 }, { name := "status", type := (.object "com/example/steady_pulse/steadypulse/HealthCheckResponse$Status"), accessFlags := 2, slot := 2, constantValue := 0 }]
  methods := #[k9m0, k9m1, k9m2]
  instanceTypes := #[(.object "java/lang/String"), (.object "java/util/Map"), (.object "com/example/steady_pulse/steadypulse/HealthCheckResponse$Status")]
  staticTypes := #[]
  resolved := Array.replicate 106 none
  statics := none }

def pool10 : Array CpInfo := pool [(2, .class_ 4), (1, u "java/util/Map"), (13, u "entrySet"), (0, u "()Ljava/util/Set;"), (16, .class_ 37), (0, u "java/util/Map$Entry"), (55, .class_ 94), (0, u "java/lang/Object")] 168

def k10m0 : Method := { name := "entrySet", desc := "()Ljava/util/Set;", sig := { parameters := [], returnType := some (.object "java/util/Set") }, accessFlags := 1025, code := none }
/-- java/util/Map -/
def k10 : Class := { plain "java/util/Map" (some 0) with
  accessFlags := 1537
  interfaces := #[]
  cf := some (fileOf pool10 2 #[.nestMembers #[36]] #[{ accessFlags := 1025, nameIndex := 18, descriptorIndex := 19, attributes := #[] }] 1537 93 #[] #[])
  fields := #[]
  methods := #[k10m0]
  instanceTypes := #[]
  staticTypes := #[]
  resolved := Array.replicate 263 none
  statics := none }

def pool11 : Array CpInfo := pool [(1, .methodref 2 3), (0, .class_ 4), (0, .nameAndType 5 6), (0, u "java/lang/Object"), (0, u "<init>"), (0, u "()V"), (1, .class_ 10), (1, u "java/util/AbstractMap"), (42, .class_ 54), (0, u "java/util/Map"), (9, u "keySet"), (0, u "Ljava/util/Set;"), (0, .class_ 67), (0, u "java/util/AbstractMap$1"), (5, u "values"), (0, u "Ljava/util/Collection;"), (0, .class_ 76), (0, u "java/util/AbstractMap$2"), (104, .class_ 182), (0, u "java/util/AbstractMap$ViewCollection"), (0, .class_ 184), (0, u "java/util/AbstractMap$SimpleImmutableEntry"), (0, .class_ 186), (0, u "java/util/AbstractMap$SimpleEntry"), (0, .class_ 188), (0, u "java/util/AbstractMap$2$1"), (0, .class_ 190), (0, u "java/util/AbstractMap$1$1")] 5

def k11c0 : Code := { maxStack := 1, maxLocals := 1, code := jdk_71_method_1_code, exceptionTable := #[], attributes := #[] }
def k11m0 : Method := { name := "<init>", desc := "()V", sig := { parameters := [], returnType := none }, accessFlags := 4, code := some k11c0 }
/-- java/util/AbstractMap -/
def k11 : Class := { plain "java/util/AbstractMap" (some 0) with
  accessFlags := 1057
  interfaces := #[10]
  cf := some (fileOf pool11 8 #[.nestMembers #[181, 183, 185, 75, 187, 66, 189]] #[{ accessFlags := 4, nameIndex := 5, descriptorIndex := 6, attributes := #[] }] 1057 2 #[53] #[{ accessFlags := 128, nameIndex := 64, descriptorIndex := 65, attributes := #[] }, { accessFlags := 128, nameIndex := 73, descriptorIndex := 74, attributes := #[] }])
  fields := #[{ name := "keySet", type := (.object "java/util/Set"), accessFlags := 128, slot := 0, constantValue := 0 }, { name := "values", type := (.object "java/util/Collection"), accessFlags := 128, slot := 1, constantValue := 0 }]
  methods := #[k11m0]
  instanceTypes := #[(.object "java/util/Set"), (.object "java/util/Collection")]
  staticTypes := #[]
  resolved := Array.replicate 196 none
  statics := none }

def pool12 : Array CpInfo := pool [(1, .class_ 2), (0, u "java/lang/Cloneable"), (0, .class_ 4), (0, u "java/lang/Object")] 2

/-- java/lang/Cloneable -/
def k12 : Class := { plain "java/lang/Cloneable" (some 0) with
  accessFlags := 1537
  interfaces := #[]
  cf := some (fileOf pool12 1 #[] #[] 1537 3 #[] #[])
  fields := #[]
  methods := #[]
  instanceTypes := #[]
  staticTypes := #[]
  resolved := Array.replicate 7 none
  statics := none }

def pool13 : Array CpInfo := pool [(40, .class_ 41), (0, u "java/util/HashMap"), (1, .methodref 44 45), (0, .class_ 46), (0, .nameAndType 47 48), (0, u "java/util/AbstractMap"), (0, u "<init>"), (0, u "()V"), (32, .fieldref 40 82), (0, .nameAndType 83 84), (0, u "loadFactor"), (0, u "F"), (5, u "threshold"), (0, u "I"), (0, .float 1061158912), (8, .class_ 103), (1, u "java/util/Map"), (0, u "size"), (2, u "table"), (0, u "[Ljava/util/HashMap$Node;"), (14, u "entrySet"), (39, .class_ 165), (1, u "java/util/HashMap$Node"), (14, .class_ 181), (0, u "java/util/HashMap$TreeNode"), (22, u "modCount"), (37, u "Ljava/util/Set;"), (0, .class_ 244), (0, u "java/util/HashMap$KeySet"), (18, .class_ 264), (0, u "java/util/HashMap$Values"), (3, .class_ 269), (0, u "java/util/HashMap$EntrySet"), (76, .class_ 348), (1, u "java/util/HashMap$UnsafeHolder"), (43, .class_ 393), (0, u "java/lang/Cloneable"), (0, .class_ 395), (0, u "java/io/Serializable"), (0, u "serialVersionUID"), (0, u "J"), (3, u "DEFAULT_INITIAL_CAPACITY"), (1, u "MAXIMUM_CAPACITY"), (0, u "DEFAULT_LOAD_FACTOR"), (0, u "TREEIFY_THRESHOLD"), (1, u "UNTREEIFY_THRESHOLD"), (1, u "MIN_TREEIFY_CAPACITY"), (186, .class_ 597), (0, u "java/util/HashMap$EntrySpliterator"), (0, .class_ 599), (0, u "java/util/HashMap$ValueSpliterator"), (0, .class_ 601), (0, u "java/util/HashMap$KeySpliterator"), (0, .class_ 603), (0, u "java/util/HashMap$HashMapSpliterator"), (0, .class_ 605), (0, u "java/util/HashMap$EntryIterator"), (0, .class_ 607), (0, u "java/util/HashMap$ValueIterator"), (0, .class_ 609), (0, u "java/util/HashMap$KeyIterator"), (0, .class_ 611), (0, u "java/util/HashMap$HashIterator")] 17

def k13c0 : Code := { maxStack := 2, maxLocals := 1, code := jdk_69_method_7_code, exceptionTable := #[], attributes := #[] }
def k13m0 : Method := { name := "<init>", desc := "()V", sig := { parameters := [], returnType := none }, accessFlags := 1, code := some k13c0 }
/-- java/util/HashMap -/
def k13 : Class := { plain "java/util/HashMap" (some 11) with
  accessFlags := 33
  interfaces := #[10, 12, 2]
  cf := some (fileOf pool13 40 #[.nestMembers #[180, 596, 598, 600, 602, 604, 606, 608, 610, 346, 268, 263, 243, 163]] #[{ accessFlags := 1, nameIndex := 47, descriptorIndex := 48, attributes := #[] }] 33 44 #[101, 392, 394] #[{ accessFlags := 26, nameIndex := 396, descriptorIndex := 397, attributes := #[] }, { accessFlags := 24, nameIndex := 401, descriptorIndex := 91, attributes := #[] }, { accessFlags := 24, nameIndex := 403, descriptorIndex := 91, attributes := #[] }, { accessFlags := 24, nameIndex := 404, descriptorIndex := 84, attributes := #[] }, { accessFlags := 24, nameIndex := 405, descriptorIndex := 91, attributes := #[] }, { accessFlags := 24, nameIndex := 407, descriptorIndex := 91, attributes := #[] }, { accessFlags := 24, nameIndex := 409, descriptorIndex := 91, attributes := #[] }, { accessFlags := 128, nameIndex := 107, descriptorIndex := 108, attributes := #[] }, { accessFlags := 128, nameIndex := 123, descriptorIndex := 242, attributes := #[] }, { accessFlags := 128, nameIndex := 104, descriptorIndex := 91, attributes := #[] }, { accessFlags := 128, nameIndex := 204, descriptorIndex := 91, attributes := #[] }, { accessFlags := 0, nameIndex := 90, descriptorIndex := 91, attributes := #[] }, { accessFlags := 16, nameIndex := 83, descriptorIndex := 84, attributes := #[] }])
  fields := #[{ name := "serialVersionUID", type := .long, accessFlags := 26, slot := 0, constantValue := 0 }, { name := "DEFAULT_INITIAL_CAPACITY", type := .int, accessFlags := 24, slot := 1, constantValue := 0 }, { name := "MAXIMUM_CAPACITY", type := .int, accessFlags := 24, slot := 2, constantValue := 0 }, { name := "DEFAULT_LOAD_FACTOR", type := .float, accessFlags := 24, slot := 3, constantValue := 0 }, { name := "TREEIFY_THRESHOLD", type := .int, accessFlags := 24, slot := 4, constantValue := 0 }, { name := "UNTREEIFY_THRESHOLD", type := .int, accessFlags := 24, slot := 5, constantValue := 0 }, { name := "MIN_TREEIFY_CAPACITY", type := .int, accessFlags := 24, slot := 6, constantValue := 0 }, { name := "table", type := (.array (.object "java/util/HashMap$Node")), accessFlags := 128, slot := 2, constantValue := 0 }, { name := "entrySet", type := (.object "java/util/Set"), accessFlags := 128, slot := 3, constantValue := 0 }, { name := "size", type := .int, accessFlags := 128, slot := 4, constantValue := 0 }, { name := "modCount", type := .int, accessFlags := 128, slot := 5, constantValue := 0 }, { name := "threshold", type := .int, accessFlags := 0, slot := 6, constantValue := 0 }, { name := "loadFactor", type := .float, accessFlags := 16, slot := 7, constantValue := 0 }]
  methods := #[k13m0]
  instanceTypes := #[(.object "java/util/Set"), (.object "java/util/Collection"), (.array (.object "java/util/HashMap$Node")), (.object "java/util/Set"), .int, .int, .int, .float]
  staticTypes := #[.long, .int, .int, .float, .int, .int, .int]
  resolved := Array.replicate 629 none
  statics := none }

def pool14 : Array CpInfo := pool [(2, .class_ 4), (1, u "java/util/SequencedMap"), (38, .class_ 44), (0, u "java/util/SequencedMap$1SeqKeySet"), (3, .class_ 49), (0, u "java/util/SequencedMap$1SeqValues"), (1, .class_ 52), (0, u "java/util/SequencedMap$1SeqEntrySet"), (1, .class_ 55), (0, u "java/lang/Object"), (0, .class_ 57), (0, u "java/util/Map")] 48

/-- java/util/SequencedMap -/
def k14 : Class := { plain "java/util/SequencedMap" (some 0) with
  accessFlags := 1537
  interfaces := #[10]
  cf := some (fileOf pool14 2 #[.nestMembers #[51, 48, 43]] #[] 1537 54 #[56] #[])
  fields := #[]
  methods := #[]
  instanceTypes := #[]
  staticTypes := #[]
  resolved := Array.replicate 106 none
  statics := none }

def pool15 : Array CpInfo := pool [(1, .fieldref 2 3), (0, .class_ 4), (0, .nameAndType 5 6), (0, u "java/util/LinkedHashMap"), (0, u "putMode"), (0, u "I"), (2, u "head"), (0, u "Ljava/util/LinkedHashMap$Entry;"), (2, u "tail"), (1, .class_ 17), (1, u "java/util/LinkedHashMap$Entry"), (5, .class_ 25), (1, u "java/util/HashMap"), (1, u "()V"), (2, u "<init>"), (33, .fieldref 2 65), (0, .nameAndType 66 67), (0, u "accessOrder"), (0, u "Z"), (19, .methodref 23 88), (0, .nameAndType 30 27), (27, u "()Ljava/util/SequencedSet;"), (3, u "Ljava/util/Set;"), (0, .class_ 122), (0, u "java/util/LinkedHashMap$LinkedKeySet"), (1, .nameAndType 30 125), (0, u "(Ljava/util/LinkedHashMap;Z)V"), (17, .class_ 144), (0, u "java/util/LinkedHashMap$LinkedValues"), (3, .methodref 2 149), (0, .nameAndType 150 116), (0, u "sequencedEntrySet"), (0, .fieldref 2 152), (0, .nameAndType 153 120), (0, u "entrySet"), (0, .class_ 155), (0, u "java/util/LinkedHashMap$LinkedEntrySet"), (0, .methodref 154 124), (43, .class_ 201), (0, u "java/util/LinkedHashMap$ReversedLinkedHashMapView"), (3, .class_ 206), (0, u "java/util/SequencedMap"), (0, u "serialVersionUID"), (0, u "J"), (5, u "PUT_NORM"), (1, u "PUT_FIRST"), (1, u "PUT_LAST"), (79, u "()Ljava/util/Set;"), (63, .class_ 363), (0, u "java/util/LinkedHashMap$LinkedEntryIterator"), (0, .class_ 365), (0, u "java/util/LinkedHashMap$LinkedValueIterator"), (0, .class_ 367), (0, u "java/util/LinkedHashMap$LinkedKeyIterator"), (0, .class_ 369), (0, u "java/util/LinkedHashMap$LinkedHashIterator")] 16

def k15c0 : Code := { maxStack := 2, maxLocals := 1, code := jdk_94_method_16_code, exceptionTable := #[], attributes := #[] }
def k15m0 : Method := { name := "<init>", desc := "()V", sig := { parameters := [], returnType := none }, accessFlags := 1, code := some k15c0 }
def k15c1 : Code := { maxStack := 1, maxLocals := 1, code := jdk_94_method_32_code, exceptionTable := #[], attributes := #[] }
def k15m1 : Method := { name := "entrySet", desc := "()Ljava/util/Set;", sig := { parameters := [], returnType := some (.object "java/util/Set") }, accessFlags := 1, code := some k15c1 }
def k15c2 : Code := { maxStack := 4, maxLocals := 3, code := jdk_94_method_33_code, exceptionTable := #[], attributes := #[] }
def k15m2 : Method := { name := "sequencedEntrySet", desc := "()Ljava/util/SequencedSet;", sig := { parameters := [], returnType := some (.object "java/util/SequencedSet") }, accessFlags := 1, code := some k15c2 }
/-- java/util/LinkedHashMap -/
def k15 : Class := { plain "java/util/LinkedHashMap" (some 13) with
  accessFlags := 33
  interfaces := #[14]
  cf := some (fileOf pool15 2 #[.nestMembers #[200, 362, 364, 366, 368, 154, 143, 121, 15]] #[{ accessFlags := 1, nameIndex := 30, descriptorIndex := 27, attributes := #[] }, { accessFlags := 1, nameIndex := 153, descriptorIndex := 298, attributes := #[] }, { accessFlags := 1, nameIndex := 150, descriptorIndex := 116, attributes := #[] }] 33 23 #[205] #[{ accessFlags := 26, nameIndex := 207, descriptorIndex := 208, attributes := #[] }, { accessFlags := 128, nameIndex := 9, descriptorIndex := 10, attributes := #[] }, { accessFlags := 128, nameIndex := 13, descriptorIndex := 10, attributes := #[] }, { accessFlags := 16, nameIndex := 66, descriptorIndex := 67, attributes := #[] }, { accessFlags := 24, nameIndex := 214, descriptorIndex := 6, attributes := #[] }, { accessFlags := 24, nameIndex := 216, descriptorIndex := 6, attributes := #[] }, { accessFlags := 24, nameIndex := 218, descriptorIndex := 6, attributes := #[] }, { accessFlags := 128, nameIndex := 5, descriptorIndex := 6, attributes := #[] }])
  fields := #[{ name := "serialVersionUID", type := .long, accessFlags := 26, slot := 0, constantValue := 0 }, { name := "head", type := (.object "java/util/LinkedHashMap$Entry"), accessFlags := 128, slot := 8, constantValue := 0 }, { name := "tail", type := (.object "java/util/LinkedHashMap$Entry"), accessFlags := 128, slot := 9, constantValue := 0 }, { name := "accessOrder", type := .boolean, accessFlags := 16, slot := 10, constantValue := 0 }, { name := "PUT_NORM", type := .int, accessFlags := 24, slot := 1, constantValue := 0 }, { name := "PUT_FIRST", type := .int, accessFlags := 24, slot := 2, constantValue := 0 }, { name := "PUT_LAST", type := .int, accessFlags := 24, slot := 3, constantValue := 0 }, { name := "putMode", type := .int, accessFlags := 128, slot := 11, constantValue := 0 }]
  methods := #[k15m0, k15m1, k15m2]
  instanceTypes := #[(.object "java/util/Set"), (.object "java/util/Collection"), (.array (.object "java/util/HashMap$Node")), (.object "java/util/Set"), .int, .int, .int, .float, (.object "java/util/LinkedHashMap$Entry"), (.object "java/util/LinkedHashMap$Entry"), .boolean, .int]
  staticTypes := #[.long, .int, .int, .int]
  resolved := Array.replicate 386 none
  mirror := some 4
  statics := none }

def pool16 : Array CpInfo := pool [(2, .class_ 4), (1, u "java/lang/Enum"), (0, u "name"), (0, u "Ljava/lang/String;"), (2, u "ordinal"), (0, u "I"), (1, .class_ 14), (1, u "java/lang/Object"), (4, u "hash"), (86, .class_ 108), (1, u "java/lang/Enum$EnumDesc"), (2, .class_ 112), (0, u "java/lang/constant/Constable"), (0, .class_ 114), (0, u "java/lang/Comparable"), (0, .class_ 116), (0, u "java/io/Serializable")] 87

/-- java/lang/Enum -/
def k16 : Class := { plain "java/lang/Enum" (some 0) with
  accessFlags := 1057
  interfaces := #[5, 3, 2]
  cf := some (fileOf pool16 2 #[.nestMembers #[106]] #[] 1057 12 #[111, 113, 115] #[{ accessFlags := 18, nameIndex := 5, descriptorIndex := 6, attributes := #[] }, { accessFlags := 18, nameIndex := 9, descriptorIndex := 10, attributes := #[] }, { accessFlags := 2, nameIndex := 19, descriptorIndex := 10, attributes := #[] }])
  fields := #[{ name := "name", type := (.object "java/lang/String"), accessFlags := 18, slot := 0, constantValue := 0 }, { name := "ordinal", type := .int, accessFlags := 18, slot := 1, constantValue := 0 }, { name := "hash", type := .int, accessFlags := 2, slot := 2, constantValue := 0 }]
  methods := #[]
  instanceTypes := #[(.object "java/lang/String"), .int, .int]
  staticTypes := #[]
  resolved := Array.replicate 204 none
  statics := none }

def pool17 : Array CpInfo := pool [(1, .class_ 2), (0, u "com/example/steady_pulse/steadypulse/HealthCheckResponse$Status"), (2, u "UP"), (0, u "Lcom/example/steady_pulse/steadypulse/HealthCheckResponse$Status;"), (2, u "DOWN"), (2, u "$VALUES"), (0, u "[Lcom/example/steady_pulse/steadypulse/HealthCheckResponse$Status;"), (6, .class_ 22), (1, u "java/lang/Enum"), (25, .class_ 49), (0, u "com/example/steady_pulse/steadypulse/HealthCheckResponse")] 2

/-- com/example/steady_pulse/steadypulse/HealthCheckResponse$Status -/
def k17 : Class := { plain "com/example/steady_pulse/steadypulse/HealthCheckResponse$Status" (some 16) with
  accessFlags := 16433
  interfaces := #[]
  cf := some (fileOf pool17 1 #[.nestHost 48] #[] 16433 20 #[] #[{ accessFlags := 16409, nameIndex := 5, descriptorIndex := 6, attributes := #[] }, { accessFlags := 16409, nameIndex := 9, descriptorIndex := 6, attributes := #[] }, { accessFlags := 4122, nameIndex := 12, descriptorIndex := 13, attributes := #[] }])
  fields := #[{ name := "UP", type := (.object "com/example/steady_pulse/steadypulse/HealthCheckResponse$Status"), accessFlags := 16409, slot := 0, constantValue := 0 }, { name := "DOWN", type := (.object "com/example/steady_pulse/steadypulse/HealthCheckResponse$Status"), accessFlags := 16409, slot := 1, constantValue := 0 }, { name := "$VALUES", type := (.array (.object "com/example/steady_pulse/steadypulse/HealthCheckResponse$Status")), accessFlags := 4122, slot := 2, constantValue := 0 }]
  methods := #[]
  instanceTypes := #[(.object "java/lang/String"), .int, .int]
  staticTypes := #[(.object "com/example/steady_pulse/steadypulse/HealthCheckResponse$Status"), (.object "com/example/steady_pulse/steadypulse/HealthCheckResponse$Status"), (.array (.object "com/example/steady_pulse/steadypulse/HealthCheckResponse$Status"))]
  resolved := Array.replicate 52 none
  statics := some 1 }

def pool18 : Array CpInfo := pool [(1, .methodref 2 3), (0, .class_ 4), (0, .nameAndType 5 6), (0, u "java/lang/Object"), (0, u "<init>"), (0, u "()V"), (0, .string 8), (0, u "name"), (0, .methodref 10 11), (0, .class_ 12), (0, .nameAndType 13 14), (0, u "java/util/Objects"), (0, u "requireNonNull"), (0, u "(Ljava/lang/Object;Ljava/lang/String;)Ljava/lang/Object;"), (0, .string 16), (0, u "status"), (0, .string 18), (0, u "data"), (0, .methodref 20 21), (0, .class_ 22), (0, .nameAndType 23 24), (0, u "java/lang/String"), (0, u "isBlank"), (0, u "()Z"), (7, .class_ 33), (0, u "java/util/LinkedHashMap"), (0, .methodref 32 3), (0, .interfaceMethodref 36 37), (0, .class_ 38), (0, .nameAndType 39 40), (0, u "java/util/Map"), (0, u "entrySet"), (0, u "()Ljava/util/Set;"), (0, .interfaceMethodref 42 43), (0, .class_ 44), (0, .nameAndType 45 46), (0, u "java/util/Set"), (0, u "iterator"), (0, u "()Ljava/util/Iterator;"), (0, .interfaceMethodref 48 49), (0, .class_ 50), (0, .nameAndType 51 24), (0, u "java/util/Iterator"), (0, u "hasNext"), (22, .class_ 76), (1, u "com/example/steady_pulse/steadypulse/HealthCheckResponse"), (6, .fieldref 74 84), (0, .nameAndType 8 85), (0, u "Ljava/lang/String;"), (0, .fieldref 74 87), (0, .nameAndType 16 88), (0, u "Lcom/example/steady_pulse/steadypulse/HealthCheckResponse$Status;"), (0, .methodref 90 91), (0, .class_ 92), (0, .nameAndType 93 94), (0, u "java/util/Collections"), (0, u "unmodifiableMap"), (0, u "(Ljava/util/Map;)Ljava/util/Map;"), (0, .fieldref 74 96), (0, .nameAndType 18 97), (0, u "Ljava/util/Map;"), (5, .class_ 105), (1, u "com/example/steady_pulse/steadypulse/HealthCheckResponse$Builder"), (12, u "getName"), (0, u "()Ljava/lang/String;"), (2, u "getStatus"), (0, u "()Lcom/example/steady_pulse/steadypulse/HealthCheckResponse$Status;"), (6, u "(Ljava/lang/String;Lcom/example/steady_pulse/steadypulse/HealthCheckResponse$Status;Ljava/util/Map;)V"), (21, u "DATA_VALUE_TYPES"), (0, u "Ljava/util/Set;"), (46, .class_ 201), (0, u "com/example/steady_pulse/steadypulse/HealthCheckResponse$Status")] 42

def k18c0 : Code := { maxStack := 3, maxLocals := 9, code := prog_21_method_1_code, exceptionTable := #[], attributes := #[] }
def k18m0 : Method := { name := "<init>", desc := "(Ljava/lang/String;Lcom/example/steady_pulse/steadypulse/HealthCheckResponse$Status;Ljava/util/Map;)V", sig := { parameters := [(.object "java/lang/String"), (.object "com/example/steady_pulse/steadypulse/HealthCheckResponse$Status"), (.object "java/util/Map")], returnType := none }, accessFlags := 1, code := some k18c0 }
def k18c1 : Code := { maxStack := 1, maxLocals := 1, code := prog_21_method_6_code, exceptionTable := #[], attributes := #[] }
def k18m1 : Method := { name := "getName", desc := "()Ljava/lang/String;", sig := { parameters := [], returnType := some (.object "java/lang/String") }, accessFlags := 1, code := some k18c1 }
def k18c2 : Code := { maxStack := 1, maxLocals := 1, code := prog_21_method_7_code, exceptionTable := #[], attributes := #[] }
def k18m2 : Method := { name := "getStatus", desc := "()Lcom/example/steady_pulse/steadypulse/HealthCheckResponse$Status;", sig := { parameters := [], returnType := some (.object "com/example/steady_pulse/steadypulse/HealthCheckResponse$Status") }, accessFlags := 1, code := some k18c2 }
/-- com/example/steady_pulse/steadypulse/HealthCheckResponse -/
def k18 : Class := { plain "com/example/steady_pulse/steadypulse/HealthCheckResponse" (some 0) with
  accessFlags := 33
  interfaces := #[]
  cf := some (fileOf pool18 74 #[.nestMembers #[103, 200]] #[{ accessFlags := 1, nameIndex := 5, descriptorIndex := 130, attributes := #[] }, { accessFlags := 1, nameIndex := 118, descriptorIndex := 119, attributes := #[] }, { accessFlags := 1, nameIndex := 122, descriptorIndex := 123, attributes := #[] }] 33 2 #[] #[{ accessFlags := 26, nameIndex := 152, descriptorIndex := 153, attributes := #[] }, { accessFlags := 18, nameIndex := 8, descriptorIndex := 85, attributes := #[] }, { accessFlags := 18, nameIndex := 16, descriptorIndex := 88, attributes := #[] }, { accessFlags := 18, nameIndex := 18, descriptorIndex := 97, attributes := #[] }])
  fields := #[{ name := "DATA_VALUE_TYPES", type := (.object "java/util/Set"), accessFlags := 26, slot := 0, constantValue := 0 }, { name := "name", type := (.object "java/lang/String"), accessFlags := 18, slot := 0, constantValue := 0 }, { name := "status", type := (.object "com/example/steady_pulse/steadypulse/HealthCheckResponse$Status"), accessFlags := 18, slot := 1, constantValue := 0 }, { name := "data", type := (.object "java/util/Map"), accessFlags := 18, slot := 2, constantValue := 0 }]
  methods := #[k18m0, k18m1, k18m2]
  instanceTypes := #[(.object "java/lang/String"), (.object "com/example/steady_pulse/steadypulse/HealthCheckResponse$Status"), (.object "java/util/Map")]
  staticTypes := #[(.object "java/util/Set")]
  resolved := Array.replicate 244 none
  statics := none }

def pool19 : Array CpInfo := pool [(2, .class_ 4), (1, u "java/lang/Object"), (0, u "<init>"), (0, u "()V"), (35, .class_ 44), (1, u "java/util/Objects"), (0, u "requireNonNull"), (48, u "(Ljava/lang/Object;Ljava/lang/String;)Ljava/lang/Object;")] 89

def k19m0 : Method := { name := "<init>", desc := "()V", sig := { parameters := [], returnType := none }, accessFlags := 2, code := none }
def k19c1 : Code := { maxStack := 3, maxLocals := 2, code := jdk_31_method_11_code, exceptionTable := #[], attributes := #[] }
def k19m1 : Method := { name := "requireNonNull", desc := "(Ljava/lang/Object;Ljava/lang/String;)Ljava/lang/Object;", sig := { parameters := [(.object "java/lang/Object"), (.object "java/lang/String")], returnType := some (.object "java/lang/Object") }, accessFlags := 9, code := some k19c1 }
/-- java/util/Objects -/
def k19 : Class := { plain "java/util/Objects" (some 0) with
  accessFlags := 49
  interfaces := #[]
  cf := some (fileOf pool19 42 #[] #[{ accessFlags := 2, nameIndex := 5, descriptorIndex := 6, attributes := #[] }, { accessFlags := 9, nameIndex := 45, descriptorIndex := 94, attributes := #[] }] 49 2 #[] #[])
  fields := #[]
  methods := #[k19m0, k19m1]
  instanceTypes := #[]
  staticTypes := #[]
  resolved := Array.replicate 184 none
  statics := none }

def pool20 : Array CpInfo := pool [(4, .class_ 6), (1, u "java/lang/Object"), (0, u "<init>"), (0, u "()V"), (5, .class_ 16), (1, u "java/lang/StringLatin1"), (33, .methodref 14 51), (0, .nameAndType 52 53), (0, u "getChar"), (0, u "([BI)C"), (3, u "([B)I"), (8, .fieldref 67 68), (0, .class_ 69), (0, .nameAndType 70 71), (0, u "java/lang/CharacterDataLatin1"), (0, u "instance"), (0, u "Ljava/lang/CharacterDataLatin1;"), (19, u "(I)Z"), (29, u "$assertionsDisabled"), (0, u "Z"), (88, .methodref 67 212), (0, .nameAndType 213 91), (0, u "isWhitespace"), (2, u "indexOfNonWhitespace"), (4, .class_ 223), (1, u "java/lang/StringLatin1$LinesSpliterator"), (166, .class_ 391), (0, u "java/lang/StringLatin1$CharsSpliterator")] 3

def k20m0 : Method := { name := "<init>", desc := "()V", sig := { parameters := [], returnType := none }, accessFlags := 0, code := none }
def k20c1 : Code := { maxStack := 2, maxLocals := 4, code := jdk_43_method_37_code, exceptionTable := #[], attributes := #[] }
def k20m1 : Method := { name := "indexOfNonWhitespace", desc := "([B)I", sig := { parameters := [(.array .byte)], returnType := some .int }, accessFlags := 9, code := some k20c1 }
def k20c2 : Code := { maxStack := 2, maxLocals := 2, code := jdk_43_method_44_code, exceptionTable := #[], attributes := #[] }
def k20m2 : Method := { name := "getChar", desc := "([BI)C", sig := { parameters := [(.array .byte), .int], returnType := some .char }, accessFlags := 9, code := some k20c2 }
/-- java/lang/StringLatin1 -/
def k20 : Class := { plain "java/lang/StringLatin1" (some 0) with
  accessFlags := 48
  interfaces := #[]
  cf := some (fileOf pool20 14 #[.nestMembers #[390, 221]] #[{ accessFlags := 0, nameIndex := 7, descriptorIndex := 8, attributes := #[] }, { accessFlags := 9, nameIndex := 216, descriptorIndex := 57, attributes := #[] }, { accessFlags := 9, nameIndex := 52, descriptorIndex := 53, attributes := #[] }] 48 4 #[] #[{ accessFlags := 4120, nameIndex := 121, descriptorIndex := 122, attributes := #[] }])
  fields := #[{ name := "$assertionsDisabled", type := .boolean, accessFlags := 4120, slot := 0, constantValue := 0 }]
  methods := #[k20m0, k20m1, k20m2]
  instanceTypes := #[]
  staticTypes := #[.boolean]
  resolved := Array.replicate 395 none
  statics := none }

def pool21 : Array CpInfo := pool [(2, .class_ 4), (1, u "java/lang/Object"), (0, u "<init>"), (0, u "()V"), (1, .class_ 10), (1, u "java/lang/CharacterData")] 75

def k21m0 : Method := { name := "<init>", desc := "()V", sig := { parameters := [], returnType := none }, accessFlags := 0, code := none }
/-- java/lang/CharacterData -/
def k21 : Class := { plain "java/lang/CharacterData" (some 0) with
  accessFlags := 1056
  interfaces := #[]
  cf := some (fileOf pool21 8 #[] #[{ accessFlags := 0, nameIndex := 5, descriptorIndex := 6, attributes := #[] }] 1056 2 #[] #[])
  fields := #[]
  methods := #[k21m0]
  instanceTypes := #[]
  staticTypes := #[]
  resolved := Array.replicate 86 none
  statics := none }

def pool22 : Array CpInfo := pool [(1, .fieldref 2 3), (0, .class_ 4), (0, .nameAndType 5 6), (0, u "java/lang/CharacterDataLatin1"), (0, u "A"), (0, u "[I"), (2, u "B"), (0, u "[C"), (3, u "(I)I"), (0, .methodref 2 16), (0, .nameAndType 17 14), (0, u "getProperties"), (3, u "(I)Z"), (5, u "DIGITS"), (0, u "[B"), (8, u "sharpsMap"), (1, .class_ 41), (1, u "java/lang/CharacterData"), (0, u "<init>"), (0, u "()V"), (3, u "instance"), (0, u "Ljava/lang/CharacterDataLatin1;"), (78, u "isWhitespace")] 13

def k22c0 : Code := { maxStack := 2, maxLocals := 4, code := jdk_116_method_1_code, exceptionTable := #[], attributes := #[] }
def k22m0 : Method := { name := "getProperties", desc := "(I)I", sig := { parameters := [.int], returnType := some .int }, accessFlags := 0, code := some k22c0 }
def k22c1 : Code := { maxStack := 2, maxLocals := 3, code := jdk_116_method_26_code, exceptionTable := #[], attributes := #[] }
def k22m1 : Method := { name := "isWhitespace", desc := "(I)Z", sig := { parameters := [.int], returnType := some .boolean }, accessFlags := 0, code := some k22c1 }
def k22m2 : Method := { name := "<init>", desc := "()V", sig := { parameters := [], returnType := none }, accessFlags := 2, code := none }
/-- java/lang/CharacterDataLatin1 -/
def k22 : Class := { plain "java/lang/CharacterDataLatin1" (some 21) with
  accessFlags := 32
  interfaces := #[]
  cf := some (fileOf pool22 2 #[] #[{ accessFlags := 0, nameIndex := 17, descriptorIndex := 14, attributes := #[] }, { accessFlags := 0, nameIndex := 127, descriptorIndex := 21, attributes := #[] }, { accessFlags := 2, nameIndex := 42, descriptorIndex := 43, attributes := #[] }] 32 39 #[] #[{ accessFlags := 26, nameIndex := 27, descriptorIndex := 28, attributes := #[] }, { accessFlags := 8, nameIndex := 37, descriptorIndex := 10, attributes := #[] }, { accessFlags := 24, nameIndex := 47, descriptorIndex := 48, attributes := #[] }, { accessFlags := 24, nameIndex := 5, descriptorIndex := 6, attributes := #[] }, { accessFlags := 24, nameIndex := 9, descriptorIndex := 10, attributes := #[] }])
  fields := #[{ name := "DIGITS", type := (.array .byte), accessFlags := 26, slot := 0, constantValue := 0 }, { name := "sharpsMap", type := (.array .char), accessFlags := 8, slot := 1, constantValue := 0 }, { name := "instance", type := (.object "java/lang/CharacterDataLatin1"), accessFlags := 24, slot := 2, constantValue := 0 }, { name := "A", type := (.array .int), accessFlags := 24, slot := 3, constantValue := 0 }, { name := "B", type := (.array .char), accessFlags := 24, slot := 4, constantValue := 0 }]
  methods := #[k22m0, k22m1, k22m2]
  instanceTypes := #[]
  staticTypes := #[(.array .byte), (.array .char), (.object "java/lang/CharacterDataLatin1"), (.array .int), (.array .char)]
  resolved := Array.replicate 141 none
  statics := some 2 }

def pool23 : Array CpInfo := pool [(8, .class_ 10), (1, u "java/lang/Iterable"), (24, .class_ 36), (0, u "java/lang/Object")] 25

/-- java/lang/Iterable -/
def k23 : Class := { plain "java/lang/Iterable" (some 0) with
  accessFlags := 1537
  interfaces := #[]
  cf := some (fileOf pool23 8 #[] #[] 1537 35 #[] #[])
  fields := #[]
  methods := #[]
  instanceTypes := #[]
  staticTypes := #[]
  resolved := Array.replicate 62 none
  statics := none }

def pool24 : Array CpInfo := pool [(10, .class_ 12), (1, u "java/util/Collection"), (47, .class_ 61), (0, u "java/lang/Object"), (0, .class_ 63), (0, u "java/lang/Iterable")] 51

/-- java/util/Collection -/
def k24 : Class := { plain "java/util/Collection" (some 0) with
  accessFlags := 1537
  interfaces := #[23]
  cf := some (fileOf pool24 10 #[] #[] 1537 60 #[62] #[])
  fields := #[]
  methods := #[]
  instanceTypes := #[]
  staticTypes := #[]
  resolved := Array.replicate 115 none
  statics := none }

def pool25 : Array CpInfo := pool [(1, .methodref 2 3), (0, .class_ 4), (0, .nameAndType 5 6), (0, u "java/lang/Object"), (0, u "<init>"), (0, u "()V"), (1, .class_ 10), (1, u "java/util/AbstractCollection"), (66, .class_ 78), (0, u "java/util/Collection")] 81

def k25c0 : Code := { maxStack := 1, maxLocals := 1, code := jdk_22_method_1_code, exceptionTable := #[], attributes := #[] }
def k25m0 : Method := { name := "<init>", desc := "()V", sig := { parameters := [], returnType := none }, accessFlags := 4, code := some k25c0 }
/-- java/util/AbstractCollection -/
def k25 : Class := { plain "java/util/AbstractCollection" (some 0) with
  accessFlags := 1057
  interfaces := #[24]
  cf := some (fileOf pool25 8 #[] #[{ accessFlags := 4, nameIndex := 5, descriptorIndex := 6, attributes := #[] }] 1057 2 #[77] #[])
  fields := #[]
  methods := #[k25m0]
  instanceTypes := #[]
  staticTypes := #[]
  resolved := Array.replicate 160 none
  statics := none }

def pool26 : Array CpInfo := pool [(26, .class_ 27), (0, u "java/lang/Object"), (5, .class_ 34), (0, u "java/util/Set"), (1, .class_ 38), (1, u "java/util/Collection"), (22, u "iterator"), (0, u "()Ljava/util/Iterator;")] 81

def k26m0 : Method := { name := "iterator", desc := "()Ljava/util/Iterator;", sig := { parameters := [], returnType := some (.object "java/util/Iterator") }, accessFlags := 1025, code := none }
/-- java/util/Set -/
def k26 : Class := { plain "java/util/Set" (some 0) with
  accessFlags := 1537
  interfaces := #[24]
  cf := some (fileOf pool26 33 #[] #[{ accessFlags := 1025, nameIndex := 61, descriptorIndex := 62, attributes := #[] }] 1537 26 #[36] #[])
  fields := #[]
  methods := #[k26m0]
  instanceTypes := #[]
  staticTypes := #[]
  resolved := Array.replicate 144 none
  statics := none }

def pool27 : Array CpInfo := pool [(1, .methodref 2 3), (0, .class_ 4), (0, .nameAndType 5 6), (0, u "java/util/AbstractCollection"), (0, u "<init>"), (0, u "()V"), (0, .class_ 8), (0, u "java/util/Set"), (7, .class_ 17), (0, u "java/util/AbstractSet")] 78

def k27c0 : Code := { maxStack := 1, maxLocals := 1, code := jdk_91_method_1_code, exceptionTable := #[], attributes := #[] }
def k27m0 : Method := { name := "<init>", desc := "()V", sig := { parameters := [], returnType := none }, accessFlags := 4, code := some k27c0 }
/-- java/util/AbstractSet -/
def k27 : Class := { plain "java/util/AbstractSet" (some 25) with
  accessFlags := 1057
  interfaces := #[26]
  cf := some (fileOf pool27 16 #[] #[{ accessFlags := 4, nameIndex := 5, descriptorIndex := 6, attributes := #[] }] 1057 2 #[7] #[])
  fields := #[]
  methods := #[k27m0]
  instanceTypes := #[]
  staticTypes := #[]
  resolved := Array.replicate 96 none
  statics := none }

def pool28 : Array CpInfo := pool [(8, .class_ 10), (1, u "java/util/SequencedCollection"), (15, .class_ 27), (0, u "java/lang/Object"), (0, .class_ 29), (0, u "java/util/Collection")] 27

/-- java/util/SequencedCollection -/
def k28 : Class := { plain "java/util/SequencedCollection" (some 0) with
  accessFlags := 1537
  interfaces := #[24]
  cf := some (fileOf pool28 8 #[] #[] 1537 26 #[28] #[])
  fields := #[]
  methods := #[]
  instanceTypes := #[]
  staticTypes := #[]
  resolved := Array.replicate 57 none
  statics := none }

def pool29 : Array CpInfo := pool [(2, .class_ 4), (1, u "java/util/SequencedSet"), (2, .class_ 8), (0, u "java/lang/Object"), (0, .class_ 10), (0, u "java/util/SequencedCollection"), (0, .class_ 12), (0, u "java/util/Set")] 13

/-- java/util/SequencedSet -/
def k29 : Class := { plain "java/util/SequencedSet" (some 0) with
  accessFlags := 1537
  interfaces := #[28, 26]
  cf := some (fileOf pool29 2 #[] #[] 1537 7 #[9, 11] #[])
  fields := #[]
  methods := #[]
  instanceTypes := #[]
  staticTypes := #[]
  resolved := Array.replicate 26 none
  statics := none }

def pool30 : Array CpInfo := pool [(1, .fieldref 2 3), (0, .class_ 4), (0, .nameAndType 5 6), (0, u "java/util/LinkedHashMap$LinkedEntrySet"), (0, u "this$0"), (0, u "Ljava/util/LinkedHashMap;"), (0, .methodref 8 9), (0, .class_ 10), (0, .nameAndType 11 12), (0, u "java/util/AbstractSet"), (0, u "<init>"), (0, u "()V"), (0, .fieldref 2 14), (0, .nameAndType 15 16), (0, u "reversed"), (0, u "Z"), (1, .class_ 20), (1, u "java/util/LinkedHashMap"), (5, .class_ 27), (0, u "java/util/LinkedHashMap$LinkedEntryIterator"), (0, .methodref 26 29), (0, .nameAndType 11 30), (0, u "(Ljava/util/LinkedHashMap;Z)V"), (110, .class_ 142), (0, u "java/util/SequencedSet"), (9, u "iterator"), (0, u "()Ljava/util/Iterator;")] 43

def k30c0 : Code := { maxStack := 2, maxLocals := 3, code := jdk_113_method_1_code, exceptionTable := #[], attributes := #[] }
def k30m0 : Method := { name := "<init>", desc := "(Ljava/util/LinkedHashMap;Z)V", sig := { parameters := [(.object "java/util/LinkedHashMap"), .boolean], returnType := none }, accessFlags := 0, code := some k30c0 }
def k30c1 : Code := { maxStack := 4, maxLocals := 1, code := jdk_113_method_4_code, exceptionTable := #[], attributes := #[] }
def k30m1 : Method := { name := "iterator", desc := "()Ljava/util/Iterator;", sig := { parameters := [], returnType := some (.object "java/util/Iterator") }, accessFlags := 17, code := some k30c1 }
/-- java/util/LinkedHashMap$LinkedEntrySet -/
def k30 : Class := { plain "java/util/LinkedHashMap$LinkedEntrySet" (some 27) with
  accessFlags := 48
  interfaces := #[29]
  cf := some (fileOf pool30 2 #[.nestHost 18] #[{ accessFlags := 0, nameIndex := 11, descriptorIndex := 30, attributes := #[] }, { accessFlags := 17, nameIndex := 152, descriptorIndex := 153, attributes := #[] }] 48 8 #[141] #[{ accessFlags := 16, nameIndex := 15, descriptorIndex := 16, attributes := #[] }, { accessFlags := 4112, nameIndex := 5, descriptorIndex := 6, attributes := #[] }])
  fields := #[{ name := "reversed", type := .boolean, accessFlags := 16, slot := 0, constantValue := 0 }, { name := "this$0", type := (.object "java/util/LinkedHashMap"), accessFlags := 4112, slot := 1, constantValue := 0 }]
  methods := #[k30m0, k30m1]
  instanceTypes := #[.boolean, (.object "java/util/LinkedHashMap")]
  staticTypes := #[]
  resolved := Array.replicate 197 none
  statics := none }

def pool31 : Array CpInfo := pool [(1, .fieldref 2 3), (0, .class_ 4), (0, .nameAndType 5 6), (0, u "java/util/LinkedHashMap$LinkedHashIterator"), (0, u "this$0"), (0, u "Ljava/util/LinkedHashMap;"), (0, .methodref 8 9), (0, .class_ 10), (0, .nameAndType 11 12), (0, u "java/lang/Object"), (0, u "<init>"), (0, u "()V"), (0, .fieldref 2 14), (0, .nameAndType 15 16), (0, u "reversed"), (0, u "Z"), (1, .class_ 20), (1, u "java/util/LinkedHashMap"), (1, u "Ljava/util/LinkedHashMap$Entry;"), (0, .fieldref 18 24), (0, .nameAndType 25 22), (0, u "head"), (0, .fieldref 2 27), (0, .nameAndType 28 22), (0, u "next"), (0, .fieldref 18 30), (0, .nameAndType 31 32), (0, u "modCount"), (0, u "I"), (0, .fieldref 2 34), (0, .nameAndType 35 32), (0, u "expectedModCount"), (0, .fieldref 2 37), (0, .nameAndType 38 22), (0, u "current"), (32, u "(Ljava/util/LinkedHashMap;Z)V"), (9, u "hasNext"), (0, u "()Z")] 17

def k31c0 : Code := { maxStack := 2, maxLocals := 3, code := jdk_2616_method_1_code, exceptionTable := #[], attributes := #[] }
def k31m0 : Method := { name := "<init>", desc := "(Ljava/util/LinkedHashMap;Z)V", sig := { parameters := [(.object "java/util/LinkedHashMap"), .boolean], returnType := none }, accessFlags := 0, code := some k31c0 }
def k31c1 : Code := { maxStack := 1, maxLocals := 1, code := jdk_2616_method_2_code, exceptionTable := #[], attributes := #[] }
def k31m1 : Method := { name := "hasNext", desc := "()Z", sig := { parameters := [], returnType := some .boolean }, accessFlags := 17, code := some k31c1 }
/-- java/util/LinkedHashMap$LinkedHashIterator -/
def k31 : Class := { plain "java/util/LinkedHashMap$LinkedHashIterator" (some 0) with
  accessFlags := 1056
  interfaces := #[]
  cf := some (fileOf pool31 2 #[.nestHost 18] #[{ accessFlags := 0, nameIndex := 11, descriptorIndex := 71, attributes := #[] }, { accessFlags := 17, nameIndex := 81, descriptorIndex := 82, attributes := #[] }] 1056 8 #[] #[{ accessFlags := 0, nameIndex := 28, descriptorIndex := 22, attributes := #[] }, { accessFlags := 0, nameIndex := 38, descriptorIndex := 22, attributes := #[] }, { accessFlags := 0, nameIndex := 35, descriptorIndex := 32, attributes := #[] }, { accessFlags := 0, nameIndex := 15, descriptorIndex := 16, attributes := #[] }, { accessFlags := 4112, nameIndex := 5, descriptorIndex := 6, attributes := #[] }])
  fields := #[{ name := "next", type := (.object "java/util/LinkedHashMap$Entry"), accessFlags := 0, slot := 0, constantValue := 0 }, { name := "current", type := (.object "java/util/LinkedHashMap$Entry"), accessFlags := 0, slot := 1, constantValue := 0 }, { name := "expectedModCount", type := .int, accessFlags := 0, slot := 2, constantValue := 0 }, { name := "reversed", type := .boolean, accessFlags := 0, slot := 3, constantValue := 0 }, { name := "this$0", type := (.object "java/util/LinkedHashMap"), accessFlags := 4112, slot := 4, constantValue := 0 }]
  methods := #[k31m0, k31m1]
  instanceTypes := #[(.object "java/util/LinkedHashMap$Entry"), (.object "java/util/LinkedHashMap$Entry"), .int, .boolean, (.object "java/util/LinkedHashMap")]
  staticTypes := #[]
  resolved := Array.replicate 100 none
  statics := none }

def pool32 : Array CpInfo := pool [(16, .class_ 18), (1, u "java/util/Iterator"), (0, u "hasNext"), (0, u "()Z"), (10, .class_ 32), (0, u "java/lang/Object")] 20

def k32m0 : Method := { name := "hasNext", desc := "()Z", sig := { parameters := [], returnType := some .boolean }, accessFlags := 1025, code := none }
/-- java/util/Iterator -/
def k32 : Class := { plain "java/util/Iterator" (some 0) with
  accessFlags := 1537
  interfaces := #[]
  cf := some (fileOf pool32 16 #[] #[{ accessFlags := 1025, nameIndex := 19, descriptorIndex := 20, attributes := #[] }] 1537 31 #[] #[])
  fields := #[]
  methods := #[k32m0]
  instanceTypes := #[]
  staticTypes := #[]
  resolved := Array.replicate 53 none
  statics := none }

def pool33 : Array CpInfo := pool [(1, .methodref 2 3), (0, .class_ 4), (0, .nameAndType 5 6), (0, u "java/util/LinkedHashMap$LinkedHashIterator"), (0, u "<init>"), (0, u "(Ljava/util/LinkedHashMap;Z)V"), (1, .class_ 10), (1, u "java/util/LinkedHashMap$LinkedEntryIterator"), (6, .class_ 18), (0, u "java/util/Iterator"), (19, .class_ 39), (0, u "java/util/LinkedHashMap")] 10

def k33c0 : Code := { maxStack := 3, maxLocals := 3, code := jdk_2615_method_1_code, exceptionTable := #[], attributes := #[] }
def k33m0 : Method := { name := "<init>", desc := "(Ljava/util/LinkedHashMap;Z)V", sig := { parameters := [(.object "java/util/LinkedHashMap"), .boolean], returnType := none }, accessFlags := 0, code := some k33c0 }
/-- java/util/LinkedHashMap$LinkedEntryIterator -/
def k33 : Class := { plain "java/util/LinkedHashMap$LinkedEntryIterator" (some 31) with
  accessFlags := 48
  interfaces := #[32]
  cf := some (fileOf pool33 8 #[.nestHost 38] #[{ accessFlags := 0, nameIndex := 5, descriptorIndex := 6, attributes := #[] }] 48 2 #[17] #[])
  fields := #[]
  methods := #[k33m0]
  instanceTypes := #[(.object "java/util/LinkedHashMap$Entry"), (.object "java/util/LinkedHashMap$Entry"), .int, .boolean, (.object "java/util/LinkedHashMap")]
  staticTypes := #[]
  resolved := Array.replicate 50 none
  statics := none }

def pool34 : Array CpInfo := pool [(2, .class_ 4), (1, u "java/lang/Object"), (0, u "<init>"), (0, u "()V"), (12, .class_ 20), (0, u "java/util/Collections"), (63, u "r"), (0, u "Ljava/util/Random;"), (77, .nameAndType 164 165), (0, u "getClass"), (0, u "()Ljava/lang/Class;"), (0, .class_ 167), (0, u "java/util/Collections$UnmodifiableCollection"), (6, .class_ 175), (0, u "java/util/Collections$UnmodifiableSequencedCollection"), (6, .class_ 183), (0, u "java/util/Collections$UnmodifiableSet"), (6, .class_ 191), (0, u "java/util/Collections$UnmodifiableSequencedSet"), (6, .class_ 199), (0, u "java/util/Collections$UnmodifiableSortedSet"), (6, .class_ 207), (0, u "java/util/Collections$UnmodifiableNavigableSet"), (4, .class_ 213), (0, u "java/util/Collections$UnmodifiableList"), (1, .class_ 216), (0, u "java/util/Collections$UnmodifiableRandomAccessList"), (3, .interfaceMethodref 221 163), (0, .class_ 222), (0, u "java/util/Map"), (0, .class_ 224), (0, u "java/util/Collections$UnmodifiableMap"), (0, .methodref 223 226), (0, .nameAndType 5 227), (0, u "(Ljava/util/Map;)V"), (3, .class_ 232), (0, u "java/util/Collections$UnmodifiableSequencedMap"), (4, .class_ 238), (0, u "java/util/Collections$UnmodifiableSortedMap"), (6, .class_ 246), (0, u "java/util/Collections$UnmodifiableNavigableMap"), (3, .class_ 251), (0, u "java/util/Collections$SynchronizedCollection"), (4, .class_ 257), (0, u "java/util/Collections$SynchronizedSet"), (4, .class_ 263), (0, u "java/util/Collections$SynchronizedSortedSet"), (1, .class_ 266), (0, u "java/util/Collections$SynchronizedNavigableSet"), (1, .class_ 269), (0, u "java/util/Collections$SynchronizedRandomAccessList"), (1, .class_ 272), (0, u "java/util/Collections$SynchronizedList"), (5, .class_ 279), (0, u "java/util/Collections$SynchronizedMap"), (1, .class_ 282), (0, u "java/util/Collections$SynchronizedSortedMap"), (1, .class_ 285), (0, u "java/util/Collections$SynchronizedNavigableMap"), (1, .class_ 288), (0, u "java/util/Collections$CheckedCollection"), (11, .class_ 301), (0, u "java/util/Collections$CheckedQueue"), (3, .class_ 306), (0, u "java/util/Collections$CheckedSet"), (3, .class_ 311), (0, u "java/util/Collections$CheckedSortedSet"), (3, .class_ 316), (0, u "java/util/Collections$CheckedNavigableSet"), (3, .class_ 321), (0, u "java/util/Collections$CheckedRandomAccessList"), (3, .class_ 326), (0, u "java/util/Collections$CheckedList"), (1, .class_ 329), (0, u "java/util/Collections$CheckedMap"), (3, .class_ 334), (0, u "java/util/Collections$CheckedSortedMap"), (3, .class_ 339), (0, u "java/util/Collections$CheckedNavigableMap"), (4, .class_ 346), (1, u "java/util/Collections$EmptyIterator"), (3, .class_ 352), (1, u "java/util/Collections$EmptyListIterator"), (2, .class_ 357), (1, u "java/util/Collections$EmptyEnumeration"), (4, u "EMPTY_SET"), (0, u "Ljava/util/Set;"), (6, u "EMPTY_LIST"), (0, u "Ljava/util/List;"), (2, u "EMPTY_MAP"), (0, u "Ljava/util/Map;"), (4, .class_ 381), (0, u "java/util/Collections$SingletonSet"), (2, .class_ 385), (0, u "java/util/Collections$1"), (1, .class_ 388), (0, u "java/util/Collections$2"), (1, .class_ 391), (0, u "java/util/Collections$SingletonList"), (1, .class_ 394), (0, u "java/util/Collections$SingletonMap"), (22, .class_ 418), (0, u "java/util/Collections$CopiesList"), (4, .class_ 425), (1, u "java/util/Collections$ReverseComparator"), (8, .class_ 435), (0, u "java/util/Collections$ReverseComparator2"), (6, .class_ 443), (0, u "java/util/Collections$3"), (25, .class_ 470), (0, u "java/util/Collections$SetFromMap"), (2, .class_ 474), (0, u "java/util/Collections$SequencedSetFromMap"), (3, .class_ 479), (0, u "java/util/Collections$AsLIFOQueue"), (11, .class_ 492), (0, u "java/util/Collections$EmptySet"), (1, .class_ 495), (0, u "java/util/Collections$EmptyList"), (1, .class_ 498), (0, u "java/util/Collections$EmptyMap"), (1, u "BINARYSEARCH_THRESHOLD"), (0, u "I"), (2, u "REVERSE_THRESHOLD"), (1, u "SHUFFLE_THRESHOLD"), (1, u "FILL_THRESHOLD"), (1, u "ROTATE_THRESHOLD"), (1, u "COPY_THRESHOLD"), (1, u "REPLACEALL_THRESHOLD"), (1, u "INDEXOFSUBLIST_THRESHOLD"), (132, u "unmodifiableMap"), (0, u "(Ljava/util/Map;)Ljava/util/Map;"), (199, .class_ 851), (0, u "java/util/Collections$CheckedMap$CheckedEntrySet"), (0, .class_ 853), (0, u "java/util/Collections$CheckedMap$CheckedEntrySet$CheckedEntry"), (0, .class_ 855), (0, u "java/util/Collections$CheckedMap$CheckedEntrySet$1"), (0, .class_ 857), (0, u "java/util/Collections$CheckedList$1"), (0, .class_ 859), (0, u "java/util/Collections$CheckedCollection$1"), (0, .class_ 861), (0, u "java/util/Collections$UnmodifiableNavigableMap$EmptyNavigableMap"), (0, .class_ 863), (0, u "java/util/Collections$UnmodifiableMap$UnmodifiableEntrySet"), (0, .class_ 865), (0, u "java/util/Collections$UnmodifiableMap$UnmodifiableEntrySet$UnmodifiableEntry"), (0, .class_ 867), (0, u "java/util/Collections$UnmodifiableMap$UnmodifiableEntrySet$UnmodifiableEntrySetSpliterator"), (0, .class_ 869), (0, u "java/util/Collections$UnmodifiableMap$UnmodifiableEntrySet$1"), (0, .class_ 871), (0, u "java/util/Collections$UnmodifiableList$1"), (0, .class_ 873), (0, u "java/util/Collections$UnmodifiableNavigableSet$EmptyNavigableSet"), (0, .class_ 875), (0, u "java/util/Collections$UnmodifiableCollection$1")] 57

def k34m0 : Method := { name := "<init>", desc := "()V", sig := { parameters := [], returnType := none }, accessFlags := 2, code := none }
def k34c1 : Code := { maxStack := 3, maxLocals := 1, code := jdk_79_method_36_code, exceptionTable := #[], attributes := #[] }
def k34m1 : Method := { name := "unmodifiableMap", desc := "(Ljava/util/Map;)Ljava/util/Map;", sig := { parameters := [(.object "java/util/Map")], returnType := some (.object "java/util/Map") }, accessFlags := 9, code := some k34c1 }
/-- java/util/Collections -/
def k34 : Class := { plain "java/util/Collections" (some 0) with
  accessFlags := 33
  interfaces := #[]
  cf := some (fileOf pool34 19 #[.nestMembers #[478, 473, 469, 434, 423, 417, 393, 390, 380, 497, 494, 491, 355, 350, 344, 338, 333, 328, 850, 852, 854, 320, 325, 856, 315, 310, 305, 300, 287, 858, 284, 281, 278, 268, 271, 265, 262, 256, 250, 245, 860, 237, 231, 223, 862, 864, 866, 868, 215, 212, 870, 206, 872, 198, 190, 182, 174, 166, 874, 442, 387, 384]] #[{ accessFlags := 2, nameIndex := 5, descriptorIndex := 6, attributes := #[] }, { accessFlags := 9, nameIndex := 649, descriptorIndex := 650, attributes := #[] }] 33 2 #[] #[{ accessFlags := 26, nameIndex := 500, descriptorIndex := 501, attributes := #[] }, { accessFlags := 26, nameIndex := 504, descriptorIndex := 501, attributes := #[] }, { accessFlags := 26, nameIndex := 506, descriptorIndex := 501, attributes := #[] }, { accessFlags := 26, nameIndex := 508, descriptorIndex := 501, attributes := #[] }, { accessFlags := 26, nameIndex := 510, descriptorIndex := 501, attributes := #[] }, { accessFlags := 26, nameIndex := 512, descriptorIndex := 501, attributes := #[] }, { accessFlags := 26, nameIndex := 514, descriptorIndex := 501, attributes := #[] }, { accessFlags := 26, nameIndex := 516, descriptorIndex := 501, attributes := #[] }, { accessFlags := 10, nameIndex := 84, descriptorIndex := 85, attributes := #[] }, { accessFlags := 25, nameIndex := 362, descriptorIndex := 363, attributes := #[] }, { accessFlags := 25, nameIndex := 370, descriptorIndex := 371, attributes := #[] }, { accessFlags := 25, nameIndex := 374, descriptorIndex := 375, attributes := #[] }])
  fields := #[{ name := "BINARYSEARCH_THRESHOLD", type := .int, accessFlags := 26, slot := 0, constantValue := 0 }, { name := "REVERSE_THRESHOLD", type := .int, accessFlags := 26, slot := 1, constantValue := 0 }, { name := "SHUFFLE_THRESHOLD", type := .int, accessFlags := 26, slot := 2, constantValue := 0 }, { name := "FILL_THRESHOLD", type := .int, accessFlags := 26, slot := 3, constantValue := 0 }, { name := "ROTATE_THRESHOLD", type := .int, accessFlags := 26, slot := 4, constantValue := 0 }, { name := "COPY_THRESHOLD", type := .int, accessFlags := 26, slot := 5, constantValue := 0 }, { name := "REPLACEALL_THRESHOLD", type := .int, accessFlags := 26, slot := 6, constantValue := 0 }, { name := "INDEXOFSUBLIST_THRESHOLD", type := .int, accessFlags := 26, slot := 7, constantValue := 0 }, { name := "r", type := (.object "java/util/Random"), accessFlags := 10, slot := 8, constantValue := 0 }, { name := "EMPTY_SET", type := (.object "java/util/Set"), accessFlags := 25, slot := 9, constantValue := 0 }, { name := "EMPTY_LIST", type := (.object "java/util/List"), accessFlags := 25, slot := 10, constantValue := 0 }, { name := "EMPTY_MAP", type := (.object "java/util/Map"), accessFlags := 25, slot := 11, constantValue := 0 }]
  methods := #[k34m0, k34m1]
  instanceTypes := #[]
  staticTypes := #[.int, .int, .int, .int, .int, .int, .int, .int, (.object "java/util/Random"), (.object "java/util/Set"), (.object "java/util/List"), (.object "java/util/Map")]
  resolved := Array.replicate 933 none
  statics := none }

def pool35 : Array CpInfo := pool [(1, .methodref 2 3), (0, .class_ 4), (0, .nameAndType 5 6), (0, u "java/lang/Object"), (0, u "<init>"), (0, u "()V"), (3, .fieldref 11 12), (0, .class_ 13), (0, .nameAndType 14 15), (0, u "java/util/Collections$UnmodifiableMap"), (0, u "m"), (0, u "Ljava/util/Map;"), (1, .class_ 19), (1, u "java/util/Map"), (22, u "keySet"), (0, u "Ljava/util/Set;"), (4, .class_ 50), (1, u "java/util/Collections"), (4, u "entrySet"), (9, u "values"), (0, u "Ljava/util/Collection;"), (25, .class_ 93), (0, u "java/io/Serializable"), (0, u "serialVersionUID"), (0, u "J"), (8, u "(Ljava/util/Map;)V")] 70

def k35c0 : Code := { maxStack := 2, maxLocals := 2, code := jdk_2500_method_1_code, exceptionTable := #[], attributes := #[] }
def k35m0 : Method := { name := "<init>", desc := "(Ljava/util/Map;)V", sig := { parameters := [(.object "java/util/Map")], returnType := none }, accessFlags := 0, code := some k35c0 }
/-- java/util/Collections$UnmodifiableMap -/
def k35 : Class := { plain "java/util/Collections$UnmodifiableMap" (some 0) with
  accessFlags := 32
  interfaces := #[10, 2]
  cf := some (fileOf pool35 11 #[.nestHost 48] #[{ accessFlags := 0, nameIndex := 5, descriptorIndex := 104, attributes := #[] }] 32 2 #[17, 92] #[{ accessFlags := 26, nameIndex := 94, descriptorIndex := 95, attributes := #[] }, { accessFlags := 16, nameIndex := 14, descriptorIndex := 15, attributes := #[] }, { accessFlags := 130, nameIndex := 42, descriptorIndex := 43, attributes := #[] }, { accessFlags := 130, nameIndex := 55, descriptorIndex := 43, attributes := #[] }, { accessFlags := 130, nameIndex := 65, descriptorIndex := 66, attributes := #[] }])
  fields := #[{ name := "serialVersionUID", type := .long, accessFlags := 26, slot := 0, constantValue := 0 }, { name := "m", type := (.object "java/util/Map"), accessFlags := 16, slot := 0, constantValue := 0 }, { name := "keySet", type := (.object "java/util/Set"), accessFlags := 130, slot := 1, constantValue := 0 }, { name := "entrySet", type := (.object "java/util/Set"), accessFlags := 130, slot := 2, constantValue := 0 }, { name := "values", type := (.object "java/util/Collection"), accessFlags := 130, slot := 3, constantValue := 0 }]
  methods := #[k35m0]
  instanceTypes := #[(.object "java/util/Map"), (.object "java/util/Set"), (.object "java/util/Set"), (.object "java/util/Collection")]
  staticTypes := #[.long]
  resolved := Array.replicate 175 none
  mirror := some 5
  statics := none }

def pool36 : Array CpInfo := pool [(2, .class_ 4), (1, u "java/lang/Object"), (0, u "<init>"), (0, u "()V"), (17, .class_ 26), (1, u "jdk/internal/util/Preconditions"), (28, .class_ 56), (0, u "jdk/internal/util/Preconditions$4"), (57, .class_ 115), (0, u "jdk/internal/util/Preconditions$1"), (7, u "SIOOBE_FORMATTER"), (0, u "Ljava/util/function/BiFunction;"), (0, .class_ 126), (0, u "jdk/internal/util/Preconditions$2"), (3, u "AIOOBE_FORMATTER"), (0, .class_ 132), (0, u "jdk/internal/util/Preconditions$3"), (3, u "IOOBE_FORMATTER")] 57

def k36m0 : Method := { name := "<init>", desc := "()V", sig := { parameters := [], returnType := none }, accessFlags := 1, code := none }
/-- jdk/internal/util/Preconditions -/
def k36 : Class := { plain "jdk/internal/util/Preconditions" (some 0) with
  accessFlags := 33
  interfaces := #[]
  cf := some (fileOf pool36 24 #[.nestMembers #[55, 131, 125, 114]] #[{ accessFlags := 1, nameIndex := 5, descriptorIndex := 6, attributes := #[] }] 33 2 #[] #[{ accessFlags := 25, nameIndex := 123, descriptorIndex := 124, attributes := #[] }, { accessFlags := 25, nameIndex := 130, descriptorIndex := 124, attributes := #[] }, { accessFlags := 25, nameIndex := 136, descriptorIndex := 124, attributes := #[] }])
  fields := #[{ name := "SIOOBE_FORMATTER", type := (.object "java/util/function/BiFunction"), accessFlags := 25, slot := 0, constantValue := 0 }, { name := "AIOOBE_FORMATTER", type := (.object "java/util/function/BiFunction"), accessFlags := 25, slot := 1, constantValue := 0 }, { name := "IOOBE_FORMATTER", type := (.object "java/util/function/BiFunction"), accessFlags := 25, slot := 2, constantValue := 0 }]
  methods := #[k36m0]
  instanceTypes := #[]
  staticTypes := #[(.object "java/util/function/BiFunction"), (.object "java/util/function/BiFunction"), (.object "java/util/function/BiFunction")]
  resolved := Array.replicate 194 none
  statics := some 3 }

def pool37 : Array CpInfo := pool [(9, u "<init>"), (6, .class_ 18), (1, u "java/lang/Object"), (0, u "()V"), (1, .class_ 23), (1, u "jdk/internal/util/ArraysSupport"), (0, u "LOG2_ARRAY_LONG_INDEX_SCALE"), (0, u "I"), (2, u "U"), (0, u "Ljdk/internal/misc/Unsafe;"), (8, u "BIG_ENDIAN"), (0, u "Z"), (8, u "LOG2_BYTE_BIT_SIZE"), (4, u "LOG2_ARRAY_INT_INDEX_SCALE"), (54, u "JLA"), (0, u "Ljdk/internal/access/JavaLangAccess;"), (11, u "LOG2_ARRAY_BOOLEAN_INDEX_SCALE"), (9, u "LOG2_ARRAY_BYTE_INDEX_SCALE"), (5, u "LOG2_ARRAY_CHAR_INDEX_SCALE"), (5, u "LOG2_ARRAY_SHORT_INDEX_SCALE"), (18, u "LOG2_ARRAY_FLOAT_INDEX_SCALE"), (24, u "LOG2_ARRAY_DOUBLE_INDEX_SCALE"), (89, u "T_BOOLEAN"), (2, u "T_CHAR"), (1, u "T_FLOAT"), (1, u "T_DOUBLE"), (1, u "T_BYTE"), (1, u "T_SHORT"), (1, u "T_INT"), (1, u "T_LONG"), (1, u "SOFT_MAX_ARRAY_LENGTH")] 83

def k37m0 : Method := { name := "<init>", desc := "()V", sig := { parameters := [], returnType := none }, accessFlags := 2, code := none }
/-- jdk/internal/util/ArraysSupport -/
def k37 : Class := { plain "jdk/internal/util/ArraysSupport" (some 0) with
  accessFlags := 33
  interfaces := #[]
  cf := some (fileOf pool37 21 #[] #[{ accessFlags := 2, nameIndex := 9, descriptorIndex := 19, attributes := #[] }] 33 16 #[] #[{ accessFlags := 24, nameIndex := 28, descriptorIndex := 29, attributes := #[] }, { accessFlags := 26, nameIndex := 38, descriptorIndex := 39, attributes := #[] }, { accessFlags := 25, nameIndex := 121, descriptorIndex := 25, attributes := #[] }, { accessFlags := 25, nameIndex := 131, descriptorIndex := 25, attributes := #[] }, { accessFlags := 25, nameIndex := 137, descriptorIndex := 25, attributes := #[] }, { accessFlags := 25, nameIndex := 143, descriptorIndex := 25, attributes := #[] }, { accessFlags := 25, nameIndex := 53, descriptorIndex := 25, attributes := #[] }, { accessFlags := 25, nameIndex := 24, descriptorIndex := 25, attributes := #[] }, { accessFlags := 25, nameIndex := 162, descriptorIndex := 25, attributes := #[] }, { accessFlags := 25, nameIndex := 187, descriptorIndex := 25, attributes := #[] }, { accessFlags := 26, nameIndex := 48, descriptorIndex := 25, attributes := #[] }, { accessFlags := 25, nameIndex := 277, descriptorIndex := 25, attributes := #[] }, { accessFlags := 25, nameIndex := 280, descriptorIndex := 25, attributes := #[] }, { accessFlags := 25, nameIndex := 282, descriptorIndex := 25, attributes := #[] }, { accessFlags := 25, nameIndex := 284, descriptorIndex := 25, attributes := #[] }, { accessFlags := 25, nameIndex := 286, descriptorIndex := 25, attributes := #[] }, { accessFlags := 25, nameIndex := 288, descriptorIndex := 25, attributes := #[] }, { accessFlags := 25, nameIndex := 290, descriptorIndex := 25, attributes := #[] }, { accessFlags := 25, nameIndex := 292, descriptorIndex := 25, attributes := #[] }, { accessFlags := 26, nameIndex := 108, descriptorIndex := 109, attributes := #[] }, { accessFlags := 25, nameIndex := 294, descriptorIndex := 25, attributes := #[] }])
  fields := #[{ name := "U", type := (.object "jdk/internal/misc/Unsafe"), accessFlags := 24, slot := 0, constantValue := 0 }, { name := "BIG_ENDIAN", type := .boolean, accessFlags := 26, slot := 1, constantValue := 0 }, { name := "LOG2_ARRAY_BOOLEAN_INDEX_SCALE", type := .int, accessFlags := 25, slot := 2, constantValue := 0 }, { name := "LOG2_ARRAY_BYTE_INDEX_SCALE", type := .int, accessFlags := 25, slot := 3, constantValue := 0 }, { name := "LOG2_ARRAY_CHAR_INDEX_SCALE", type := .int, accessFlags := 25, slot := 4, constantValue := 0 }, { name := "LOG2_ARRAY_SHORT_INDEX_SCALE", type := .int, accessFlags := 25, slot := 5, constantValue := 0 }, { name := "LOG2_ARRAY_INT_INDEX_SCALE", type := .int, accessFlags := 25, slot := 6, constantValue := 0 }, { name := "LOG2_ARRAY_LONG_INDEX_SCALE", type := .int, accessFlags := 25, slot := 7, constantValue := 0 }, { name := "LOG2_ARRAY_FLOAT_INDEX_SCALE", type := .int, accessFlags := 25, slot := 8, constantValue := 0 }, { name := "LOG2_ARRAY_DOUBLE_INDEX_SCALE", type := .int, accessFlags := 25, slot := 9, constantValue := 0 }, { name := "LOG2_BYTE_BIT_SIZE", type := .int, accessFlags := 26, slot := 10, constantValue := 0 }, { name := "T_BOOLEAN", type := .int, accessFlags := 25, slot := 11, constantValue := 0 }, { name := "T_CHAR", type := .int, accessFlags := 25, slot := 12, constantValue := 0 }, { name := "T_FLOAT", type := .int, accessFlags := 25, slot := 13, constantValue := 0 }, { name := "T_DOUBLE", type := .int, accessFlags := 25, slot := 14, constantValue := 0 }, { name := "T_BYTE", type := .int, accessFlags := 25, slot := 15, constantValue := 0 }, { name := "T_SHORT", type := .int, accessFlags := 25, slot := 16, constantValue := 0 }, { name := "T_INT", type := .int, accessFlags := 25, slot := 17, constantValue := 0 }, { name := "T_LONG", type := .int, accessFlags := 25, slot := 18, constantValue := 0 }, { name := "JLA", type := (.object "jdk/internal/access/JavaLangAccess"), accessFlags := 26, slot := 19, constantValue := 0 }, { name := "SOFT_MAX_ARRAY_LENGTH", type := .int, accessFlags := 25, slot := 20, constantValue := 0 }]
  methods := #[k37m0]
  instanceTypes := #[]
  staticTypes := #[(.object "jdk/internal/misc/Unsafe"), .boolean, .int, .int, .int, .int, .int, .int, .int, .int, .int, .int, .int, .int, .int, .int, .int, .int, .int, (.object "jdk/internal/access/JavaLangAccess"), .int]
  resolved := Array.replicate 378 none
  statics := none }

def pool38 : Array CpInfo := pool [(1, u "java/lang/Class"), (0, .class_ 1), (0, u "java/lang/Object"), (0, .class_ 3)] 0

/-- java/lang/Class -/
def k38 : Class := { plain "java/lang/Class" (some 0) with
  accessFlags := 49
  interfaces := #[]
  cf := some (fileOf pool38 2 #[] #[] 49 4 #[] #[])
  fields := #[]
  methods := #[]
  instanceTypes := #[]
  staticTypes := #[]
  resolved := Array.replicate 5 none
  statics := none }

/-- the primitive byte -/
def k39 : Class := { plain "byte" none with kind := .primitive 'B', accessFlags := 0x411 }
/-- [B -/
def k40 : Class := { plain "[B" (some 0) with kind := .array 39 .byte, interfaces := #[12, 2], accessFlags := 1041 }

/-- the primitive char -/
def k41 : Class := { plain "char" none with kind := .primitive 'C', accessFlags := 0x411 }
/-- [C -/
def k42 : Class := { plain "[C" (some 0) with kind := .array 41 .char, interfaces := #[12, 2], accessFlags := 1041 }

/-- the primitive int -/
def k43 : Class := { plain "int" none with kind := .primitive 'I', accessFlags := 0x411 }
/-- [I -/
def k44 : Class := { plain "[I" (some 0) with kind := .array 43 .int, interfaces := #[12, 2], accessFlags := 1041 }

def heap : Heap := #[{ cls := 7, slots := #[.long 0, .int 1, .null, .int 0, .null, .int 0, .int 0], vm := .statics 7 },
  { cls := 17, slots := #[.ref 6, .ref 7, .null], vm := .statics 17 },
  { cls := 22, slots := #[.null, .null, .ref 8, .ref 9, .null], vm := .statics 22 },
  { cls := 36, slots := #[.null, .null, .null], vm := .statics 36 },
  { cls := 38, slots := #[], vm := .mirror 15 },
  { cls := 38, slots := #[], vm := .mirror 35 },
  { cls := 17, slots := #[.null, .int 0, .int 0], vm := .none },
  { cls := 17, slots := #[.null, .int 1, .int 0], vm := .none },
  { cls := 22, slots := #[], vm := .none },
  { cls := 44, slots := #[.int 1207963663, .int 1207963663, .int 1207963663, .int 1207963663, .int 1207963663, .int 1207963663, .int 1207963663, .int 1207963663, .int 1207963663, .int 1476411407, .int 1342193679, .int 1476411407, .int 1610629135, .int 1342193679, .int 1207963663, .int 1207963663, .int 1207963663, .int 1207963663, .int 1207963663, .int 1207963663, .int 1207963663, .int 1207963663, .int 1207963663, .int 1207963663, .int 1207963663, .int 1207963663, .int 1207963663, .int 1207963663, .int 1342193679, .int 1342193679, .int 1342193679, .int 1476411407, .int 1610629132, .int 1744830488, .int 1744830488, .int 671088664, .int 671113242, .int 671088664, .int 1744830488, .int 1744830488, .int (-402653163), .int (-402653162), .int 1744830488, .int 536870937, .int 939524120, .int 536870932, .int 939524120, .int 939524120, .int 402667017, .int 402667017, .int 402667017, .int 402667017, .int 402667017, .int 402667017, .int 402667017, .int 402667017, .int 402667017, .int 402667017, .int 939524120, .int 1744830488, .int (-402653159), .int 1744830489, .int (-402653159), .int 1744830488, .int 1744830488, .int 8552417, .int 8552417, .int 8552417, .int 8552417, .int 8552417, .int 8552417, .int 8552417, .int 8552417, .int 8552417, .int 8552417, .int 8552417, .int 8552417, .int 8552417, .int 8552417, .int 8552417, .int 8552417, .int 8552417, .int 8552417, .int 8552417, .int 8552417, .int 8552417, .int 8552417, .int 8552417, .int 8552417, .int 8552417, .int 8552417, .int (-402653163), .int 1744830488, .int (-402653162), .int 1744830491, .int 1744850967, .int 1744830491, .int 8486882, .int 8486882, .int 8486882, .int 8486882, .int 8486882, .int 8486882, .int 8486882, .int 8486882, .int 8486882, .int 8486882, .int 8486882, .int 8486882, .int 8486882, .int 8486882, .int 8486882, .int 8486882, .int 8486882, .int 8486882, .int 8486882, .int 8486882, .int 8486882, .int 8486882, .int 8486882, .int 8486882, .int 8486882, .int 8486882, .int (-402653163), .int 1744830489, .int (-402653162), .int 1744830489, .int 1207963663, .int 1207963663, .int 1207963663, .int 1207963663, .int 1207963663, .int 1207963663, .int 1342181391, .int 1207963663, .int 1207963663, .int 1207963663, .int 1207963663, .int 1207963663, .int 1207963663, .int 1207963663, .int 1207963663, .int 1207963663, .int 1207963663, .int 1207963663, .int 1207963663, .int 1207963663, .int 1207963663, .int 1207963663, .int 1207963663, .int 1207963663, .int 1207963663, .int 1207963663, .int 1207963663, .int 1207963663, .int 1207963663, .int 1207963663, .int 1207963663, .int 1207963663, .int 1207963663, .int 939524108, .int 1744830488, .int 671113242, .int 671113242, .int 671113242, .int 671113242, .int 1744830492, .int 1744830488, .int 1744830491, .int 1744830492, .int 28677, .int (-402653155), .int 1744830489, .int 1207963664, .int 1744830492, .int 1744830491, .int 671088668, .int 671088665, .int 402654731, .int 402654731, .int 1744830491, .int 134049794, .int 1744830488, .int 1744830488, .int 1744830491, .int 402654475, .int 28677, .int (-402653154), .int 1744832523, .int 1744832523, .int 1744832523, .int 1744830488, .int 8548353, .int 8548353, .int 8548353, .int 8548353, .int 8548353, .int 8548353, .int 8548353, .int 8548353, .int 8548353, .int 8548353, .int 8548353, .int 8548353, .int 8548353, .int 8548353, .int 8548353, .int 8548353, .int 8548353, .int 8548353, .int 8548353, .int 8548353, .int 8548353, .int 8548353, .int 8548353, .int 1744830489, .int 8548353, .int 8548353, .int 8548353, .int 8548353, .int 8548353, .int 8548353, .int 8548353, .int 134049794, .int 8482818, .int 8482818, .int 8482818, .int 8482818, .int 8482818, .int 8482818, .int 8482818, .int 8482818, .int 8482818, .int 8482818, .int 8482818, .int 8482818, .int 8482818, .int 8482818, .int 8482818, .int 8482818, .int 8482818, .int 8482818, .int 8482818, .int 8482818, .int 8482818, .int 8482818, .int 8482818, .int 1744830489, .int 8482818, .int 8482818, .int 8482818, .int 8482818, .int 8482818, .int 8482818, .int 8482818, .int 102592514], vm := .none }]
def classes : Array Class := #[k0, k1, k2, k3, k4, k5, k6, k7, k8, k9, k10, k11, k12, k13, k14, k15, k16, k17, k18, k19, k20, k21, k22, k23, k24, k25, k26, k27, k28, k29, k30, k31, k32, k33, k34, k35, k36, k37, k38, k39, k40, k41, k42, k43, k44]
def interned : List (Array UInt16 × Addr) := []
def slotsUsed : Nat := 280
def theMethod : MethodId := ⟨1, 1⟩
def args0 : Array Value := #[.int 5, .int 5]
def aboutOver (below : List Frame) : State where
  vm := { classes := classes, interned := interned.toArray }
  heap := heap
  slotsUsed := slotsUsed
  threads := #[{ frames := .invoking theMethod args0 :: below }]
def below0 : List Frame := [.native { method := ⟨0, 0⟩, args := #[] }]
def about1 : State := aboutOver below0
def p0 : Program := .bare "" "" ""
def e0 : Env := launch0.env 0 0 0
theorem w_frames : about1.frames = Frame.invoking theMethod args0 :: below0 := rfl
set_option maxRecDepth 65536 in
theorem w_args : argsFit about1.vm theMethod args0 = true := by decide +kernel
set_option maxRecDepth 65536 in
theorem w_heap : heapFits about1 = true := by decide +kernel
set_option maxRecDepth 65536 in
theorem w_runnable : about1.curStatus? = some .runnable := by decide +kernel
set_option maxRecDepth 65536 in
theorem w_alone : about1.alone = true := by decide +kernel
set_option maxRecDepth 65536 in
theorem w_named : about1.methodNamed? x = some theMethod := by decide +kernel
set_option maxRecDepth 65536 in
theorem w_hears : about1.hears theMethod below0 = true := by decide +kernel
set_option maxRecDepth 65536 in
theorem w_ripe : about1.ripe theMethod args0 below0 = true := by decide +kernel
theorem w_running : about1.status = .running := rfl
set_option maxRecDepth 65536 in
theorem w_room : about1.hasRoom e0.platform room_1 = true :=
  launch0.hasRoom_least _ room_1 (by decide +kernel) (by decide +kernel) (by decide +kernel) (by decide +kernel) (by decide +kernel) (by decide +kernel)
theorem allAtoms_all (ts : List Jvm.Cond) (a : Array Jvm.Value) (st : Jvm.State) : (allAtoms ts).before a st = ts.all (fun c => c.before a st) := by
  induction ts with
  | nil => rfl
  | cons c t ih =>
    show (Jvm.Cond.and c (allAtoms t)).before a st = _
    rw [Jvm.Cond.before_and, ih, List.all_cons]
def words1 : List Jvm.Cond := Jvm.Cond.code x code maxLocals ret :: tables_1
/-- a 'code' word, met by the world's own term for the bytes: nothing is compared byte by byte -/
theorem code_word {y : MethodName} {bytes : ByteArray} {mx : Nat} {rt : Option FieldType} {a : Array Value} {s : State} {m : MethodId} {meth : Method} {c : Code} (h1 : s.methodNamed? y = some m) (h2 : s.vm.method? m = some meth) (h3 : meth.code = some c) (h4 : c.code = bytes)
    (h5 : (c.maxLocals == mx && c.exceptionTable.isEmpty && decide (c.maxStack ≤ mostOperands) && decide (meth.sig.returnType = rt) && !meth.locks && decide (parseMethodDescriptor y.desc = some meth.sig)) = true) : (Jvm.Cond.code y bytes mx rt).before a s = true := by
  simp only [Bool.and_eq_true, beq_iff_eq, Bool.not_eq_true', decide_eq_true_eq] at h5
  obtain ⟨⟨⟨⟨⟨g1, g2⟩, g3⟩, g4⟩, g5⟩, g6⟩ := h5
  simp [Cond.before, Cond.holds, Cond.value, h1, h2, h3, h4, g1, g2, g3, g4, g5, g6]
def isCode : Jvm.Cond → Bool
  | .code _ _ _ _ => true
  | _ => false
theorem all_split {L : List Jvm.Cond} {P : Jvm.Cond → Bool} (h1 : L.all (fun c => isCode c || P c) = true) (h2 : ∀ c ∈ L.filter isCode, P c = true) : L.all P = true := by
  refine List.all_eq_true.mpr fun c hc => ?_
  have h := List.all_eq_true.mp h1 c hc
  rcases Bool.eq_false_or_eq_true (isCode c) with hi | hi
  · exact h2 c (List.mem_filter.mpr ⟨hc, hi⟩)
  · simpa [hi] using h
set_option maxRecDepth 65536 in
theorem w_c0 : (Jvm.Cond.code x code maxLocals ret).before args0 about1 = true := code_word (m := ⟨1, 1⟩) (meth := k1m1) (c := k1c1) (by decide +kernel) rfl rfl rfl (by decide +kernel)
set_option maxRecDepth 65536 in
theorem w_c1 : (Jvm.Cond.code ({ cls := "java/lang/String", name := "<init>", desc := "([C)V" } : Jvm.MethodName) jdk_42_method_3_code (2 : Nat) (Option.none : Option Jvm.ClassFile.FieldType)).before args0 about1 = true := code_word (m := ⟨7, 1⟩) (meth := k7m1) (c := k7c1) (by decide +kernel) rfl rfl rfl (by decide +kernel)
set_option maxRecDepth 65536 in
theorem w_c2 : (Jvm.Cond.code ({ cls := "java/lang/String", name := "<init>", desc := "([CIILjava/lang/Void;)V" } : Jvm.MethodName) jdk_42_method_149_code (6 : Nat) (Option.none : Option Jvm.ClassFile.FieldType)).before args0 about1 = true := code_word (m := ⟨7, 6⟩) (meth := k7m6) (c := k7c6) (by decide +kernel) rfl rfl rfl (by decide +kernel)
set_option maxRecDepth 65536 in
theorem w_c3 : (Jvm.Cond.code ({ cls := "java/lang/Object", name := "<init>", desc := "()V" } : Jvm.MethodName) object_method_1_code (1 : Nat) (Option.none : Option Jvm.ClassFile.FieldType)).before args0 about1 = true := code_word (m := ⟨0, 0⟩) (meth := k0m0) (c := k0c0) (by decide +kernel) rfl rfl rfl (by decide +kernel)
set_option maxRecDepth 65536 in
theorem w_c4 : (Jvm.Cond.code ({ cls := "java/lang/StringUTF16", name := "compress", desc := "([CII)[B" } : Jvm.MethodName) jdk_52_method_16_code (6 : Nat) (Option.some (Jvm.ClassFile.FieldType.array Jvm.ClassFile.FieldType.byte))).before args0 about1 = true := code_word (m := ⟨8, 2⟩) (meth := k8m2) (c := k8c2) (by decide +kernel) rfl rfl rfl (by decide +kernel)
set_option maxRecDepth 65536 in
theorem w_c5 : (Jvm.Cond.code ({ cls := "java/lang/StringUTF16", name := "compress", desc := "([CI[BII)I" } : Jvm.MethodName) jdk_52_method_21_code (7 : Nat) (Option.some Jvm.ClassFile.FieldType.int)).before args0 about1 = true := code_word (m := ⟨8, 3⟩) (meth := k8m3) (c := k8c3) (by decide +kernel) rfl rfl rfl (by decide +kernel)
set_option maxRecDepth 65536 in
theorem w_c6 : (Jvm.Cond.code ({ cls := "java/lang/StringUTF16", name := "coderFromArrayLen", desc := "([BI)B" } : Jvm.MethodName) jdk_52_method_15_code (2 : Nat) (Option.some Jvm.ClassFile.FieldType.byte)).before args0 about1 = true := code_word (m := ⟨8, 1⟩) (meth := k8m1) (c := k8c1) (by decide +kernel) rfl rfl rfl (by decide +kernel)
set_option maxRecDepth 65536 in
theorem w_c7 : (Jvm.Cond.code ({ cls := "com/example/steady_pulse/steadypulse/HealthCheckResponse$Builder", name := "<init>", desc := "(Ljava/lang/String;)V" } : Jvm.MethodName) prog_22_method_1_code (2 : Nat) (Option.none : Option Jvm.ClassFile.FieldType)).before args0 about1 = true := code_word (m := ⟨9, 0⟩) (meth := k9m0) (c := k9c0) (by decide +kernel) rfl rfl rfl (by decide +kernel)
set_option maxRecDepth 65536 in
theorem w_c8 : (Jvm.Cond.code ({ cls := "java/util/LinkedHashMap", name := "<init>", desc := "()V" } : Jvm.MethodName) jdk_94_method_16_code (1 : Nat) (Option.none : Option Jvm.ClassFile.FieldType)).before args0 about1 = true := code_word (m := ⟨15, 0⟩) (meth := k15m0) (c := k15c0) (by decide +kernel) rfl rfl rfl (by decide +kernel)
set_option maxRecDepth 65536 in
theorem w_c9 : (Jvm.Cond.code ({ cls := "java/util/HashMap", name := "<init>", desc := "()V" } : Jvm.MethodName) jdk_69_method_7_code (1 : Nat) (Option.none : Option Jvm.ClassFile.FieldType)).before args0 about1 = true := code_word (m := ⟨13, 0⟩) (meth := k13m0) (c := k13c0) (by decide +kernel) rfl rfl rfl (by decide +kernel)
set_option maxRecDepth 65536 in
theorem w_c10 : (Jvm.Cond.code ({ cls := "java/util/AbstractMap", name := "<init>", desc := "()V" } : Jvm.MethodName) jdk_71_method_1_code (1 : Nat) (Option.none : Option Jvm.ClassFile.FieldType)).before args0 about1 = true := code_word (m := ⟨11, 0⟩) (meth := k11m0) (c := k11c0) (by decide +kernel) rfl rfl rfl (by decide +kernel)
set_option maxRecDepth 65536 in
theorem w_c11 : (Jvm.Cond.code ({ cls := "com/example/steady_pulse/steadypulse/HealthCheckResponse$Builder", name := "status", desc := "(Z)Lcom/example/steady_pulse/steadypulse/HealthCheckResponse$Builder;" } : Jvm.MethodName) prog_22_method_8_code (2 : Nat) (Option.some (Jvm.ClassFile.FieldType.object "com/example/steady_pulse/steadypulse/HealthCheckResponse$Builder"))).before args0 about1 = true := code_word (m := ⟨9, 1⟩) (meth := k9m1) (c := k9c1) (by decide +kernel) rfl rfl rfl (by decide +kernel)
set_option maxRecDepth 65536 in
theorem w_c12 : (Jvm.Cond.code ({ cls := "com/example/steady_pulse/steadypulse/HealthCheckResponse$Builder", name := "build", desc := "()Lcom/example/steady_pulse/steadypulse/HealthCheckResponse;" } : Jvm.MethodName) prog_22_method_9_code (1 : Nat) (Option.some (Jvm.ClassFile.FieldType.object "com/example/steady_pulse/steadypulse/HealthCheckResponse"))).before args0 about1 = true := code_word (m := ⟨9, 2⟩) (meth := k9m2) (c := k9c2) (by decide +kernel) rfl rfl rfl (by decide +kernel)
set_option maxRecDepth 65536 in
theorem w_c13 : (Jvm.Cond.code ({ cls := "com/example/steady_pulse/steadypulse/HealthCheckResponse", name := "<init>", desc := "(Ljava/lang/String;Lcom/example/steady_pulse/steadypulse/HealthCheckResponse$Status;Ljava/util/Map;)V" } : Jvm.MethodName) prog_21_method_1_code (9 : Nat) (Option.none : Option Jvm.ClassFile.FieldType)).before args0 about1 = true := code_word (m := ⟨18, 0⟩) (meth := k18m0) (c := k18c0) (by decide +kernel) rfl rfl rfl (by decide +kernel)
set_option maxRecDepth 65536 in
theorem w_c14 : (Jvm.Cond.code ({ cls := "java/util/Objects", name := "requireNonNull", desc := "(Ljava/lang/Object;Ljava/lang/String;)Ljava/lang/Object;" } : Jvm.MethodName) jdk_31_method_11_code (2 : Nat) (Option.some (Jvm.ClassFile.FieldType.object "java/lang/Object"))).before args0 about1 = true := code_word (m := ⟨19, 1⟩) (meth := k19m1) (c := k19c1) (by decide +kernel) rfl rfl rfl (by decide +kernel)
set_option maxRecDepth 65536 in
theorem w_c15 : (Jvm.Cond.code ({ cls := "java/lang/String", name := "isBlank", desc := "()Z" } : Jvm.MethodName) jdk_42_method_117_code (1 : Nat) (Option.some Jvm.ClassFile.FieldType.boolean)).before args0 about1 = true := code_word (m := ⟨7, 4⟩) (meth := k7m4) (c := k7c4) (by decide +kernel) rfl rfl rfl (by decide +kernel)
set_option maxRecDepth 65536 in
theorem w_c16 : (Jvm.Cond.code ({ cls := "java/lang/String", name := "indexOfNonWhitespace", desc := "()I" } : Jvm.MethodName) jdk_42_method_120_code (1 : Nat) (Option.some Jvm.ClassFile.FieldType.int)).before args0 about1 = true := code_word (m := ⟨7, 5⟩) (meth := k7m5) (c := k7c5) (by decide +kernel) rfl rfl rfl (by decide +kernel)
set_option maxRecDepth 65536 in
theorem w_c17 : (Jvm.Cond.code ({ cls := "java/lang/String", name := "isLatin1", desc := "()Z" } : Jvm.MethodName) jdk_42_method_154_code (1 : Nat) (Option.some Jvm.ClassFile.FieldType.boolean)).before args0 about1 = true := code_word (m := ⟨7, 8⟩) (meth := k7m8) (c := k7c8) (by decide +kernel) rfl rfl rfl (by decide +kernel)
set_option maxRecDepth 65536 in
theorem w_c18 : (Jvm.Cond.code ({ cls := "java/lang/StringLatin1", name := "indexOfNonWhitespace", desc := "([B)I" } : Jvm.MethodName) jdk_43_method_37_code (4 : Nat) (Option.some Jvm.ClassFile.FieldType.int)).before args0 about1 = true := code_word (m := ⟨20, 1⟩) (meth := k20m1) (c := k20c1) (by decide +kernel) rfl rfl rfl (by decide +kernel)
set_option maxRecDepth 65536 in
theorem w_c19 : (Jvm.Cond.code ({ cls := "java/lang/StringLatin1", name := "getChar", desc := "([BI)C" } : Jvm.MethodName) jdk_43_method_44_code (2 : Nat) (Option.some Jvm.ClassFile.FieldType.char)).before args0 about1 = true := code_word (m := ⟨20, 2⟩) (meth := k20m2) (c := k20c2) (by decide +kernel) rfl rfl rfl (by decide +kernel)
set_option maxRecDepth 65536 in
theorem w_c20 : (Jvm.Cond.code ({ cls := "java/lang/CharacterDataLatin1", name := "isWhitespace", desc := "(I)Z" } : Jvm.MethodName) jdk_116_method_26_code (3 : Nat) (Option.some Jvm.ClassFile.FieldType.boolean)).before args0 about1 = true := code_word (m := ⟨22, 1⟩) (meth := k22m1) (c := k22c1) (by decide +kernel) rfl rfl rfl (by decide +kernel)
set_option maxRecDepth 65536 in
theorem w_c21 : (Jvm.Cond.code ({ cls := "java/lang/CharacterDataLatin1", name := "getProperties", desc := "(I)I" } : Jvm.MethodName) jdk_116_method_1_code (4 : Nat) (Option.some Jvm.ClassFile.FieldType.int)).before args0 about1 = true := code_word (m := ⟨22, 0⟩) (meth := k22m0) (c := k22c0) (by decide +kernel) rfl rfl rfl (by decide +kernel)
set_option maxRecDepth 65536 in
theorem w_c22 : (Jvm.Cond.code ({ cls := "java/lang/String", name := "length", desc := "()I" } : Jvm.MethodName) jdk_42_method_54_code (1 : Nat) (Option.some Jvm.ClassFile.FieldType.int)).before args0 about1 = true := code_word (m := ⟨7, 2⟩) (meth := k7m2) (c := k7c2) (by decide +kernel) rfl rfl rfl (by decide +kernel)
set_option maxRecDepth 65536 in
theorem w_c23 : (Jvm.Cond.code ({ cls := "java/lang/String", name := "coder", desc := "()B" } : Jvm.MethodName) jdk_42_method_152_code (1 : Nat) (Option.some Jvm.ClassFile.FieldType.byte)).before args0 about1 = true := code_word (m := ⟨7, 7⟩) (meth := k7m7) (c := k7c7) (by decide +kernel) rfl rfl rfl (by decide +kernel)
set_option maxRecDepth 65536 in
theorem w_c24 : (Jvm.Cond.code ({ cls := "java/util/LinkedHashMap", name := "entrySet", desc := "()Ljava/util/Set;" } : Jvm.MethodName) jdk_94_method_32_code (1 : Nat) (Option.some (Jvm.ClassFile.FieldType.object "java/util/Set"))).before args0 about1 = true := code_word (m := ⟨15, 1⟩) (meth := k15m1) (c := k15c1) (by decide +kernel) rfl rfl rfl (by decide +kernel)
set_option maxRecDepth 65536 in
theorem w_c25 : (Jvm.Cond.code ({ cls := "java/util/LinkedHashMap", name := "sequencedEntrySet", desc := "()Ljava/util/SequencedSet;" } : Jvm.MethodName) jdk_94_method_33_code (3 : Nat) (Option.some (Jvm.ClassFile.FieldType.object "java/util/SequencedSet"))).before args0 about1 = true := code_word (m := ⟨15, 2⟩) (meth := k15m2) (c := k15c2) (by decide +kernel) rfl rfl rfl (by decide +kernel)
set_option maxRecDepth 65536 in
theorem w_c26 : (Jvm.Cond.code ({ cls := "java/util/LinkedHashMap$LinkedEntrySet", name := "<init>", desc := "(Ljava/util/LinkedHashMap;Z)V" } : Jvm.MethodName) jdk_113_method_1_code (3 : Nat) (Option.none : Option Jvm.ClassFile.FieldType)).before args0 about1 = true := code_word (m := ⟨30, 0⟩) (meth := k30m0) (c := k30c0) (by decide +kernel) rfl rfl rfl (by decide +kernel)
set_option maxRecDepth 65536 in
theorem w_c27 : (Jvm.Cond.code ({ cls := "java/util/AbstractSet", name := "<init>", desc := "()V" } : Jvm.MethodName) jdk_91_method_1_code (1 : Nat) (Option.none : Option Jvm.ClassFile.FieldType)).before args0 about1 = true := code_word (m := ⟨27, 0⟩) (meth := k27m0) (c := k27c0) (by decide +kernel) rfl rfl rfl (by decide +kernel)
set_option maxRecDepth 65536 in
theorem w_c28 : (Jvm.Cond.code ({ cls := "java/util/AbstractCollection", name := "<init>", desc := "()V" } : Jvm.MethodName) jdk_22_method_1_code (1 : Nat) (Option.none : Option Jvm.ClassFile.FieldType)).before args0 about1 = true := code_word (m := ⟨25, 0⟩) (meth := k25m0) (c := k25c0) (by decide +kernel) rfl rfl rfl (by decide +kernel)
set_option maxRecDepth 65536 in
theorem w_c29 : (Jvm.Cond.code ({ cls := "java/util/LinkedHashMap$LinkedEntrySet", name := "iterator", desc := "()Ljava/util/Iterator;" } : Jvm.MethodName) jdk_113_method_4_code (1 : Nat) (Option.some (Jvm.ClassFile.FieldType.object "java/util/Iterator"))).before args0 about1 = true := code_word (m := ⟨30, 1⟩) (meth := k30m1) (c := k30c1) (by decide +kernel) rfl rfl rfl (by decide +kernel)
set_option maxRecDepth 65536 in
theorem w_c30 : (Jvm.Cond.code ({ cls := "java/util/LinkedHashMap$LinkedEntryIterator", name := "<init>", desc := "(Ljava/util/LinkedHashMap;Z)V" } : Jvm.MethodName) jdk_2615_method_1_code (3 : Nat) (Option.none : Option Jvm.ClassFile.FieldType)).before args0 about1 = true := code_word (m := ⟨33, 0⟩) (meth := k33m0) (c := k33c0) (by decide +kernel) rfl rfl rfl (by decide +kernel)
set_option maxRecDepth 65536 in
theorem w_c31 : (Jvm.Cond.code ({ cls := "java/util/LinkedHashMap$LinkedHashIterator", name := "<init>", desc := "(Ljava/util/LinkedHashMap;Z)V" } : Jvm.MethodName) jdk_2616_method_1_code (3 : Nat) (Option.none : Option Jvm.ClassFile.FieldType)).before args0 about1 = true := code_word (m := ⟨31, 0⟩) (meth := k31m0) (c := k31c0) (by decide +kernel) rfl rfl rfl (by decide +kernel)
set_option maxRecDepth 65536 in
theorem w_c32 : (Jvm.Cond.code ({ cls := "java/util/LinkedHashMap$LinkedHashIterator", name := "hasNext", desc := "()Z" } : Jvm.MethodName) jdk_2616_method_2_code (1 : Nat) (Option.some Jvm.ClassFile.FieldType.boolean)).before args0 about1 = true := code_word (m := ⟨31, 1⟩) (meth := k31m1) (c := k31c1) (by decide +kernel) rfl rfl rfl (by decide +kernel)
set_option maxRecDepth 65536 in
theorem w_c33 : (Jvm.Cond.code ({ cls := "java/util/Collections", name := "unmodifiableMap", desc := "(Ljava/util/Map;)Ljava/util/Map;" } : Jvm.MethodName) jdk_79_method_36_code (1 : Nat) (Option.some (Jvm.ClassFile.FieldType.object "java/util/Map"))).before args0 about1 = true := code_word (m := ⟨34, 1⟩) (meth := k34m1) (c := k34c1) (by decide +kernel) rfl rfl rfl (by decide +kernel)
set_option maxRecDepth 65536 in
theorem w_c34 : (Jvm.Cond.code ({ cls := "java/util/Collections$UnmodifiableMap", name := "<init>", desc := "(Ljava/util/Map;)V" } : Jvm.MethodName) jdk_2500_method_1_code (2 : Nat) (Option.none : Option Jvm.ClassFile.FieldType)).before args0 about1 = true := code_word (m := ⟨35, 0⟩) (meth := k35m0) (c := k35c0) (by decide +kernel) rfl rfl rfl (by decide +kernel)
set_option maxRecDepth 65536 in
theorem w_c35 : (Jvm.Cond.code ({ cls := "com/example/steady_pulse/steadypulse/HealthCheckResponse", name := "getStatus", desc := "()Lcom/example/steady_pulse/steadypulse/HealthCheckResponse$Status;" } : Jvm.MethodName) prog_21_method_7_code (1 : Nat) (Option.some (Jvm.ClassFile.FieldType.object "com/example/steady_pulse/steadypulse/HealthCheckResponse$Status"))).before args0 about1 = true := code_word (m := ⟨18, 2⟩) (meth := k18m2) (c := k18c2) (by decide +kernel) rfl rfl rfl (by decide +kernel)
set_option maxRecDepth 65536 in
theorem w_c36 : (Jvm.Cond.code ({ cls := "com/example/steady_pulse/steadypulse/HealthCheckResponse", name := "getName", desc := "()Ljava/lang/String;" } : Jvm.MethodName) prog_21_method_6_code (1 : Nat) (Option.some (Jvm.ClassFile.FieldType.object "java/lang/String"))).before args0 about1 = true := code_word (m := ⟨18, 1⟩) (meth := k18m1) (c := k18c1) (by decide +kernel) rfl rfl rfl (by decide +kernel)
set_option maxRecDepth 65536 in
theorem w_c37 : (Jvm.Cond.code ({ cls := "java/lang/String", name := "equals", desc := "(Ljava/lang/Object;)Z" } : Jvm.MethodName) jdk_42_method_66_code (3 : Nat) (Option.some Jvm.ClassFile.FieldType.boolean)).before args0 about1 = true := code_word (m := ⟨7, 3⟩) (meth := k7m3) (c := k7c3) (by decide +kernel) rfl rfl rfl (by decide +kernel)
def codes1 : List Jvm.Cond := [Jvm.Cond.code x code maxLocals ret, Jvm.Cond.code ({ cls := "java/lang/String", name := "<init>", desc := "([C)V" } : Jvm.MethodName) jdk_42_method_3_code (2 : Nat) (Option.none : Option Jvm.ClassFile.FieldType), Jvm.Cond.code ({ cls := "java/lang/String", name := "<init>", desc := "([CIILjava/lang/Void;)V" } : Jvm.MethodName) jdk_42_method_149_code (6 : Nat) (Option.none : Option Jvm.ClassFile.FieldType), Jvm.Cond.code ({ cls := "java/lang/Object", name := "<init>", desc := "()V" } : Jvm.MethodName) object_method_1_code (1 : Nat) (Option.none : Option Jvm.ClassFile.FieldType), Jvm.Cond.code ({ cls := "java/lang/StringUTF16", name := "compress", desc := "([CII)[B" } : Jvm.MethodName) jdk_52_method_16_code (6 : Nat) (Option.some (Jvm.ClassFile.FieldType.array Jvm.ClassFile.FieldType.byte)), Jvm.Cond.code ({ cls := "java/lang/StringUTF16", name := "compress", desc := "([CI[BII)I" } : Jvm.MethodName) jdk_52_method_21_code (7 : Nat) (Option.some Jvm.ClassFile.FieldType.int), Jvm.Cond.code ({ cls := "java/lang/StringUTF16", name := "coderFromArrayLen", desc := "([BI)B" } : Jvm.MethodName) jdk_52_method_15_code (2 : Nat) (Option.some Jvm.ClassFile.FieldType.byte), Jvm.Cond.code ({ cls := "com/example/steady_pulse/steadypulse/HealthCheckResponse$Builder", name := "<init>", desc := "(Ljava/lang/String;)V" } : Jvm.MethodName) prog_22_method_1_code (2 : Nat) (Option.none : Option Jvm.ClassFile.FieldType), Jvm.Cond.code ({ cls := "java/util/LinkedHashMap", name := "<init>", desc := "()V" } : Jvm.MethodName) jdk_94_method_16_code (1 : Nat) (Option.none : Option Jvm.ClassFile.FieldType), Jvm.Cond.code ({ cls := "java/util/HashMap", name := "<init>", desc := "()V" } : Jvm.MethodName) jdk_69_method_7_code (1 : Nat) (Option.none : Option Jvm.ClassFile.FieldType), Jvm.Cond.code ({ cls := "java/util/AbstractMap", name := "<init>", desc := "()V" } : Jvm.MethodName) jdk_71_method_1_code (1 : Nat) (Option.none : Option Jvm.ClassFile.FieldType), Jvm.Cond.code ({ cls := "com/example/steady_pulse/steadypulse/HealthCheckResponse$Builder", name := "status", desc := "(Z)Lcom/example/steady_pulse/steadypulse/HealthCheckResponse$Builder;" } : Jvm.MethodName) prog_22_method_8_code (2 : Nat) (Option.some (Jvm.ClassFile.FieldType.object "com/example/steady_pulse/steadypulse/HealthCheckResponse$Builder")), Jvm.Cond.code ({ cls := "com/example/steady_pulse/steadypulse/HealthCheckResponse$Builder", name := "build", desc := "()Lcom/example/steady_pulse/steadypulse/HealthCheckResponse;" } : Jvm.MethodName) prog_22_method_9_code (1 : Nat) (Option.some (Jvm.ClassFile.FieldType.object "com/example/steady_pulse/steadypulse/HealthCheckResponse")), Jvm.Cond.code ({ cls := "com/example/steady_pulse/steadypulse/HealthCheckResponse", name := "<init>", desc := "(Ljava/lang/String;Lcom/example/steady_pulse/steadypulse/HealthCheckResponse$Status;Ljava/util/Map;)V" } : Jvm.MethodName) prog_21_method_1_code (9 : Nat) (Option.none : Option Jvm.ClassFile.FieldType), Jvm.Cond.code ({ cls := "java/util/Objects", name := "requireNonNull", desc := "(Ljava/lang/Object;Ljava/lang/String;)Ljava/lang/Object;" } : Jvm.MethodName) jdk_31_method_11_code (2 : Nat) (Option.some (Jvm.ClassFile.FieldType.object "java/lang/Object")), Jvm.Cond.code ({ cls := "java/lang/String", name := "isBlank", desc := "()Z" } : Jvm.MethodName) jdk_42_method_117_code (1 : Nat) (Option.some Jvm.ClassFile.FieldType.boolean), Jvm.Cond.code ({ cls := "java/lang/String", name := "indexOfNonWhitespace", desc := "()I" } : Jvm.MethodName) jdk_42_method_120_code (1 : Nat) (Option.some Jvm.ClassFile.FieldType.int), Jvm.Cond.code ({ cls := "java/lang/String", name := "isLatin1", desc := "()Z" } : Jvm.MethodName) jdk_42_method_154_code (1 : Nat) (Option.some Jvm.ClassFile.FieldType.boolean), Jvm.Cond.code ({ cls := "java/lang/StringLatin1", name := "indexOfNonWhitespace", desc := "([B)I" } : Jvm.MethodName) jdk_43_method_37_code (4 : Nat) (Option.some Jvm.ClassFile.FieldType.int), Jvm.Cond.code ({ cls := "java/lang/StringLatin1", name := "getChar", desc := "([BI)C" } : Jvm.MethodName) jdk_43_method_44_code (2 : Nat) (Option.some Jvm.ClassFile.FieldType.char), Jvm.Cond.code ({ cls := "java/lang/CharacterDataLatin1", name := "isWhitespace", desc := "(I)Z" } : Jvm.MethodName) jdk_116_method_26_code (3 : Nat) (Option.some Jvm.ClassFile.FieldType.boolean), Jvm.Cond.code ({ cls := "java/lang/CharacterDataLatin1", name := "getProperties", desc := "(I)I" } : Jvm.MethodName) jdk_116_method_1_code (4 : Nat) (Option.some Jvm.ClassFile.FieldType.int), Jvm.Cond.code ({ cls := "java/lang/String", name := "length", desc := "()I" } : Jvm.MethodName) jdk_42_method_54_code (1 : Nat) (Option.some Jvm.ClassFile.FieldType.int), Jvm.Cond.code ({ cls := "java/lang/String", name := "coder", desc := "()B" } : Jvm.MethodName) jdk_42_method_152_code (1 : Nat) (Option.some Jvm.ClassFile.FieldType.byte), Jvm.Cond.code ({ cls := "java/util/LinkedHashMap", name := "entrySet", desc := "()Ljava/util/Set;" } : Jvm.MethodName) jdk_94_method_32_code (1 : Nat) (Option.some (Jvm.ClassFile.FieldType.object "java/util/Set")), Jvm.Cond.code ({ cls := "java/util/LinkedHashMap", name := "sequencedEntrySet", desc := "()Ljava/util/SequencedSet;" } : Jvm.MethodName) jdk_94_method_33_code (3 : Nat) (Option.some (Jvm.ClassFile.FieldType.object "java/util/SequencedSet")), Jvm.Cond.code ({ cls := "java/util/LinkedHashMap$LinkedEntrySet", name := "<init>", desc := "(Ljava/util/LinkedHashMap;Z)V" } : Jvm.MethodName) jdk_113_method_1_code (3 : Nat) (Option.none : Option Jvm.ClassFile.FieldType), Jvm.Cond.code ({ cls := "java/util/AbstractSet", name := "<init>", desc := "()V" } : Jvm.MethodName) jdk_91_method_1_code (1 : Nat) (Option.none : Option Jvm.ClassFile.FieldType), Jvm.Cond.code ({ cls := "java/util/AbstractCollection", name := "<init>", desc := "()V" } : Jvm.MethodName) jdk_22_method_1_code (1 : Nat) (Option.none : Option Jvm.ClassFile.FieldType), Jvm.Cond.code ({ cls := "java/util/LinkedHashMap$LinkedEntrySet", name := "iterator", desc := "()Ljava/util/Iterator;" } : Jvm.MethodName) jdk_113_method_4_code (1 : Nat) (Option.some (Jvm.ClassFile.FieldType.object "java/util/Iterator")), Jvm.Cond.code ({ cls := "java/util/LinkedHashMap$LinkedEntryIterator", name := "<init>", desc := "(Ljava/util/LinkedHashMap;Z)V" } : Jvm.MethodName) jdk_2615_method_1_code (3 : Nat) (Option.none : Option Jvm.ClassFile.FieldType), Jvm.Cond.code ({ cls := "java/util/LinkedHashMap$LinkedHashIterator", name := "<init>", desc := "(Ljava/util/LinkedHashMap;Z)V" } : Jvm.MethodName) jdk_2616_method_1_code (3 : Nat) (Option.none : Option Jvm.ClassFile.FieldType), Jvm.Cond.code ({ cls := "java/util/LinkedHashMap$LinkedHashIterator", name := "hasNext", desc := "()Z" } : Jvm.MethodName) jdk_2616_method_2_code (1 : Nat) (Option.some Jvm.ClassFile.FieldType.boolean), Jvm.Cond.code ({ cls := "java/util/Collections", name := "unmodifiableMap", desc := "(Ljava/util/Map;)Ljava/util/Map;" } : Jvm.MethodName) jdk_79_method_36_code (1 : Nat) (Option.some (Jvm.ClassFile.FieldType.object "java/util/Map")), Jvm.Cond.code ({ cls := "java/util/Collections$UnmodifiableMap", name := "<init>", desc := "(Ljava/util/Map;)V" } : Jvm.MethodName) jdk_2500_method_1_code (2 : Nat) (Option.none : Option Jvm.ClassFile.FieldType), Jvm.Cond.code ({ cls := "com/example/steady_pulse/steadypulse/HealthCheckResponse", name := "getStatus", desc := "()Lcom/example/steady_pulse/steadypulse/HealthCheckResponse$Status;" } : Jvm.MethodName) prog_21_method_7_code (1 : Nat) (Option.some (Jvm.ClassFile.FieldType.object "com/example/steady_pulse/steadypulse/HealthCheckResponse$Status")), Jvm.Cond.code ({ cls := "com/example/steady_pulse/steadypulse/HealthCheckResponse", name := "getName", desc := "()Ljava/lang/String;" } : Jvm.MethodName) prog_21_method_6_code (1 : Nat) (Option.some (Jvm.ClassFile.FieldType.object "java/lang/String")), Jvm.Cond.code ({ cls := "java/lang/String", name := "equals", desc := "(Ljava/lang/Object;)Z" } : Jvm.MethodName) jdk_42_method_66_code (3 : Nat) (Option.some Jvm.ClassFile.FieldType.boolean)]
set_option maxRecDepth 65536 in
theorem codes_eq : words1.filter isCode = codes1 := rfl
theorem w_codes : ∀ c ∈ words1.filter isCode, c.before args0 about1 = true := by
  rw [codes_eq]
  intro c hc
  simp only [codes1, List.mem_cons, List.not_mem_nil, or_false] at hc
  rcases hc with rfl | rfl | rfl | rfl | rfl | rfl | rfl | rfl | rfl | rfl | rfl | rfl | rfl | rfl | rfl | rfl | rfl | rfl | rfl | rfl | rfl | rfl | rfl | rfl | rfl | rfl | rfl | rfl | rfl | rfl | rfl | rfl | rfl | rfl | rfl | rfl | rfl | rfl
  · exact w_c0
  · exact w_c1
  · exact w_c2
  · exact w_c3
  · exact w_c4
  · exact w_c5
  · exact w_c6
  · exact w_c7
  · exact w_c8
  · exact w_c9
  · exact w_c10
  · exact w_c11
  · exact w_c12
  · exact w_c13
  · exact w_c14
  · exact w_c15
  · exact w_c16
  · exact w_c17
  · exact w_c18
  · exact w_c19
  · exact w_c20
  · exact w_c21
  · exact w_c22
  · exact w_c23
  · exact w_c24
  · exact w_c25
  · exact w_c26
  · exact w_c27
  · exact w_c28
  · exact w_c29
  · exact w_c30
  · exact w_c31
  · exact w_c32
  · exact w_c33
  · exact w_c34
  · exact w_c35
  · exact w_c36
  · exact w_c37
set_option maxRecDepth 65536 in
theorem w_t1 : (words1.take 24).all (fun c => isCode c || c.before args0 about1) = true := by decide +kernel
set_option maxRecDepth 65536 in
theorem w_t2 : ((words1.drop 24).take 24).all (fun c => isCode c || c.before args0 about1) = true := by decide +kernel
set_option maxRecDepth 65536 in
theorem w_t3 : (((words1.drop 24).drop 24).take 24).all (fun c => isCode c || c.before args0 about1) = true := by decide +kernel
set_option maxRecDepth 65536 in
theorem w_t4 : ((((words1.drop 24).drop 24).drop 24).take 24).all (fun c => isCode c || c.before args0 about1) = true := by decide +kernel
set_option maxRecDepth 65536 in
theorem w_t5 : (((((words1.drop 24).drop 24).drop 24).drop 24).take 24).all (fun c => isCode c || c.before args0 about1) = true := by decide +kernel
set_option maxRecDepth 65536 in
theorem w_t6 : ((((((words1.drop 24).drop 24).drop 24).drop 24).drop 24).take 24).all (fun c => isCode c || c.before args0 about1) = true := by decide +kernel
set_option maxRecDepth 65536 in
theorem w_t7 : (((((((words1.drop 24).drop 24).drop 24).drop 24).drop 24).drop 24).take 24).all (fun c => isCode c || c.before args0 about1) = true := by decide +kernel
set_option maxRecDepth 65536 in
theorem w_t8 : ((((((((words1.drop 24).drop 24).drop 24).drop 24).drop 24).drop 24).drop 24).take 24).all (fun c => isCode c || c.before args0 about1) = true := by decide +kernel
set_option maxRecDepth 65536 in
theorem w_t9 : (((((((((words1.drop 24).drop 24).drop 24).drop 24).drop 24).drop 24).drop 24).drop 24).take 24).all (fun c => isCode c || c.before args0 about1) = true := by decide +kernel
set_option maxRecDepth 65536 in
theorem w_t10 : ((((((((((words1.drop 24).drop 24).drop 24).drop 24).drop 24).drop 24).drop 24).drop 24).drop 24).take 24).all (fun c => isCode c || c.before args0 about1) = true := by decide +kernel
set_option maxRecDepth 65536 in
theorem w_t11 : (((((((((((words1.drop 24).drop 24).drop 24).drop 24).drop 24).drop 24).drop 24).drop 24).drop 24).drop 24).take 24).all (fun c => isCode c || c.before args0 about1) = true := by decide +kernel
set_option maxRecDepth 65536 in
theorem w_t12 : (((((((((((words1.drop 24).drop 24).drop 24).drop 24).drop 24).drop 24).drop 24).drop 24).drop 24).drop 24).drop 24).all (fun c => isCode c || c.before args0 about1) = true := by decide +kernel
theorem w_tables : (allAtoms (Jvm.Cond.code x code maxLocals ret :: tables_1)).before args0 about1 = true := by
  rw [allAtoms_all]
  show words1.all (fun c => c.before args0 about1) = true
  refine all_split ?_ w_codes
  rw [← List.take_append_drop 24 words1, List.all_append, w_t1, ← List.take_append_drop 24 (words1.drop 24), List.all_append, w_t2, ← List.take_append_drop 24 ((words1.drop 24).drop 24), List.all_append, w_t3, ← List.take_append_drop 24 (((words1.drop 24).drop 24).drop 24), List.all_append, w_t4, ← List.take_append_drop 24 ((((words1.drop 24).drop 24).drop 24).drop 24), List.all_append, w_t5, ← List.take_append_drop 24 (((((words1.drop 24).drop 24).drop 24).drop 24).drop 24), List.all_append, w_t6, ← List.take_append_drop 24 ((((((words1.drop 24).drop 24).drop 24).drop 24).drop 24).drop 24), List.all_append, w_t7, ← List.take_append_drop 24 (((((((words1.drop 24).drop 24).drop 24).drop 24).drop 24).drop 24).drop 24), List.all_append, w_t8, ← List.take_append_drop 24 ((((((((words1.drop 24).drop 24).drop 24).drop 24).drop 24).drop 24).drop 24).drop 24), List.all_append, w_t9, ← List.take_append_drop 24 (((((((((words1.drop 24).drop 24).drop 24).drop 24).drop 24).drop 24).drop 24).drop 24).drop 24), List.all_append, w_t10, ← List.take_append_drop 24 ((((((((((words1.drop 24).drop 24).drop 24).drop 24).drop 24).drop 24).drop 24).drop 24).drop 24).drop 24), List.all_append, w_t11, w_t12]
  rfl
set_option maxRecDepth 65536 in
theorem w_rest : rest_1_c.before args0 about1 = true := by decide +kernel
set_option maxRecDepth 65536 in
theorem w_case : (Jvm.Cond.and given_1 narrow_1).before args0 about1 = true := by decide +kernel
theorem w_applies : (headSpec (Jvm.Cond.code x code maxLocals ret :: tables_1) room_1).applies x e0.platform about1 = true :=
  (Spec.applies_iff w_frames).mpr ⟨w_running, w_runnable, w_alone, w_named, w_hears, w_ripe, w_room, w_tables⟩
theorem atStart : AtStart classFile x code maxLocals ret World_1 tables_1 room_1 Calls_1 rest_1 Pre_1 launch0 p0 e0 about1 theMethod args0 below0 :=
  ⟨lists_1, trivial, launch0.admits_env _ _ _, launch0.least_env, fairChoices_fair.cas, fairChoices_fair.clock, w_frames, w_args, w_heap, w_applies, ⟨⟨15, k15, 4, by decide +kernel, rfl, rfl, _, rfl, rfl⟩, ⟨⟨35, k35, 5, by decide +kernel, rfl, rfl, _, rfl, rfl⟩, trivial⟩⟩, w_rest, w_case⟩
end start1
theorem witness_1 : WitnessClaimed_1 := ⟨start1.p0, start1.e0, start1.about1, start1.theMethod, start1.args0, start1.below0, start1.atStart⟩
end Jvm.Pilot.@@N@@
