import JvmDerived
import JvmDerived.Pilot.@@N@@Statement
import JvmDerived.Pilot.@@N@@Code
set_option linter.unusedVariables false
set_option linter.unusedSimpArgs false
namespace Jvm.RoadKit
section OwnHeaps
variable {h h' h2 hm : Heap} {ws : List Addr}
theorem Ext.oRefl (h : Heap) : Ext h h := ⟨Nat.le_refl _, fun _ _ q => q⟩
theorem Ext.oTrans (A : Ext h h') (B : Ext h' h2) : Ext h h2 := ⟨Nat.le_trans A.1 B.1, fun x c q => B.2 x c (A.2 x c q)⟩
theorem Keep.oExt (K : Keep h h' []) : Ext h h' := ⟨K.1, fun x c q => K.2.1 x c q (fun z => nomatch z)⟩
theorem Ext.oKeepOf (E : Ext h h') (ws : List Addr) : Keep h h' ws := (Keep.refl h ws).ext E
theorem Ext.oKeep (A : Ext hm h) (K : Keep h h' ws) (q : ∀ x ∈ ws, hm.size ≤ x) : Ext hm h' :=
  ⟨Nat.le_trans A.1 K.1, fun x c hx => K.2.1 x c (A.2 x c hx) fun z => absurd (Array.getElem?_eq_some_iff.mp hx).1 (Nat.not_lt.mpr (q x z))⟩
end OwnHeaps
end Jvm.RoadKit
namespace Jvm.OwnKit
open Sem ClassFile Op Lib Jvm.Stand Jvm.Free Jvm.LawKit Jvm.RoadKit Bundle
/-! the author's own layer: a walk as a chain of goals 'from this frame the body ends right' -/
/-- from this frame on the body comes to an end of which Q holds -/
def Goes (tb : Tables) (e : Env) (below : List Frame) (Q : Outcome → State → Prop) (T : State) (g : JFrame) : Prop :=
  ∃ s₂ o, Steps tb e below (T.setTop g) s₂ ∧ s₂.status = .running ∧ Ended s₂ below o ∧ Q o s₂
section Core
variable {tb : Tables} {e : Env} {below : List Frame} {Q : Outcome → State → Prop} {T T' : State} {g g' : JFrame}
theorem Goes.go (st : ∀ t, Steps tb e below (T'.setTop g') t → Steps tb e below (T.setTop g) t) (k : Goes tb e below Q T' g') : Goes tb e below Q T g := by
  obtain ⟨s₂, o, h1, h2⟩ := k
  exact ⟨s₂, o, st _ h1, h2⟩
theorem Goes.via (st : Steps tb e below (T.setTop g) (T'.setTop g')) (k : Goes tb e below Q T' g') : Goes tb e below Q T g := Goes.go (fun _ h => st.trans h) k
theorem Goes.cast {g1 : JFrame} (q : g = g1) (k : Goes tb e below Q T g1) : Goes tb e below Q T g := q ▸ k
end Core
/-! heaps -/
section Heaps
variable {Z : State} {EL : List (String × Nat)} {vm vm0 : Vm} {h h' h0 h2 hm : Heap} {ws : List Addr} {a b : Addr}
/-- safe under whatever alike tables -/
def SafeA (Z : State) (EL : List (String × Nat)) (h : Heap) (x : Addr) : Prop := ∀ vm : Vm, Z.vm.Alike vm → Safe Z EL vm h x
theorem SafeA.exa {C : String} (E : Exa Z h a C) (h1 : C ≠ "java/lang/String") (h2 : C ≠ "[B") : SafeA Z EL h a := fun _ hal => Safe.exa hal E h1 h2
theorem SafeA.arv {k : ClassId} {ty : FieldType} {z : Int32} {vs : List Value} {dv : Value} (A : Arv Z h a k ty z vs dv) (ht : ty ≠ .byte) : SafeA Z EL h a := fun _ hal => Safe.arv hal A ht
theorem SafeA.nil : SafeA Z [] h a := fun _ _ B => by obtain ⟨p, hp, -⟩ := B; cases hp
/-- how the mark goes on: it stays where only younger cells were written; or it is set anew, where what was written is younger or safe -/
def Mark (Z : State) (EL : List (String × Nat)) (hm h : Heap) (ws : List Addr) (h' hm' : Heap) : Prop :=
  (hm' = hm ∧ ∀ x ∈ ws, hm.size ≤ x) ∨ (hm' = h' ∧ ∀ x ∈ ws, hm.size ≤ x ∨ SafeA Z EL h x)
theorem Mark.stay (q : ∀ x ∈ ws, hm.size ≤ x) : Mark Z EL hm h ws h' hm := Or.inl ⟨rfl, q⟩
theorem Mark.anew (q : ∀ x ∈ ws, hm.size ≤ x ∨ SafeA Z EL h x) : Mark Z EL hm h ws h' h' := Or.inr ⟨rfl, q⟩
theorem mark_go {vs : Vm} {hs hm' : Heap} (hal : Z.vm.Alike vm0) (C : CHr Z EL vs hs vm0 hm) (E : Ext hm h) (K : Keep h h' ws) (M : Mark Z EL hm h ws h' hm') : CHr Z EL vs hs vm0 hm' ∧ Ext hm' h' := by
  rcases M with ⟨rfl, q⟩ | ⟨rfl, q⟩
  · exact ⟨C, E.oKeep K q⟩
  · have C1 := C.trans (CHr.ext E C.1)
    exact ⟨C1.trans (CHr.keep K (fun x hx => (q x hx).elim (fun y => Safe.ext E C.1 (Safe.new y)) (fun y => y _ hal)) C1.1), Ext.oRefl _⟩
end Heaps
/-! the walk -/
/-- where a walk stands: N: it may not have interned; hm: the mark (literals that the tables book lie in it); h: the heap -/
def Wk (N : Prop) (p : Program) (l : Launch) (e : Env) (R : Room) (s : State) (m : MethodId) (args : Array Value) (below : List Frame) (meth : Method) (c : Code) (Z : State) (own : String) (EL : List (String × Nat)) (hm : Heap) (T : State) (h : Heap) (cells slots : Nat) : Prop :=
  ∃ (vm0 : Vm) (locs : List Loc) (k0 : Nat), (N → vm0 = s.vm) ∧ Stand p l e R (s.setVm vm0) m args below meth c T locs cells slots ∧ T.heap = h ∧ p.tables.exec = Jvm.exec ∧ Z.Warmed39 vm0 ∧ vm0.findClass own = some m.cls ∧ Fr Z.heap.size locs ∧ s.Since vm0 k0 ∧ k0 ≤ h.size ∧ CHr Z EL s.vm s.heap vm0 hm ∧ Ext hm h ∧ Ext Z.heap h
/-- the two kinds of end -/
def EndN (Z s : State) (C S : Nat) (Qv : Option Value → Heap → Prop) (o : Outcome) (U : State) : Prop := ∃ v L, o = .returned v ∧ (Qv v U.heap ∧ Fr Z.heap.size L) ∧ FrameEnd s o U L C S
def EndS (Z s : State) (EL : List (String × Nat)) (C S : Nat) (Qv : Option Value → Heap → Prop) (o : Outcome) (U : State) : Prop := ∃ v L, o = .returned v ∧ (Qv v U.heap ∧ Fr Z.heap.size L) ∧ CHr Z EL s.vm s.heap U.vm U.heap ∧ ReturnedEndW s o U L C S
/-- a callee's contract: it interns nothing -/
def CtrN (l : Launch) (Z : State) (y : MethodName) (bytes : ByteArray) (maxL : Nat) (ret : Option FieldType) (rm : Room) (as' : Array Value) (h0 : Heap) (Qv : Option Value → Heap → Prop) : Prop :=
  ∀ ws, MetFree l y (head1 (Cond.code y bytes maxL ret :: ws) rm) (fun a U => a = as' ∧ Z.Warmed39 U.vm ∧ U.heap = h0) (fun _ _ _ _ _ => True) (fun _ U o U' => EndN Z U rm.cells rm.slots Qv o U')
/-- a callee's contract: it may intern -/
def CtrS (l : Launch) (Z : State) (EL : List (String × Nat)) (y : MethodName) (bytes : ByteArray) (maxL : Nat) (ret : Option FieldType) (rm : Room) (as' : Array Value) (h0 : Heap) (Qv : Option Value → Heap → Prop) : Prop :=
  ∀ ws, MetFree l y (head1 (Cond.code y bytes maxL ret :: ws) rm) (fun a U => a = as' ∧ Z.Warmed39 U.vm ∧ U.heap = h0 ∧ CHv Z EL U.vm h0) (fun _ _ _ _ _ => True) (fun _ U o U' => EndS Z U EL rm.cells rm.slots Qv o U')
section Walk
variable {N : Prop} {p : Program} {l : Launch} {e : Env} {R : Room} {s : State} {m : MethodId} {args : Array Value} {below : List Frame} {meth : Method} {c : Code} {Z : State} {a0 : Array Value} {own : String} {EL : List (String × Nat)} {hm : Heap} {T : State} {h : Heap} {cells slots : Nat} {Q : Outcome → State → Prop} {g : JFrame}
theorem Wk.here (X : Wk N p l e R s m args below meth c Z own EL hm T h cells slots) : At T m c below := by obtain ⟨_, _, _, _, X, _⟩ := X; exact X.here
theorem Wk.ex (X : Wk N p l e R s m args below meth c Z own EL hm T h cells slots) : p.tables.exec = Jvm.exec := by obtain ⟨_, _, _, _, _, _, q, _⟩ := X; exact q
theorem Wk.ext (X : Wk N p l e R s m args below meth c Z own EL hm T h cells slots) : Ext hm h := by obtain ⟨_, _, _, _, _, _, _, _, _, _, _, _, _, q, _⟩ := X; exact q
theorem Wk.old (X : Wk N p l e R s m args below meth c Z own EL hm T h cells slots) : Ext Z.heap h := by obtain ⟨_, _, _, _, _, _, _, _, _, _, _, _, _, _, q⟩ := X; exact q
theorem Wk.free (X : Wk N p l e R s m args below meth c Z own EL hm T h cells slots) : Wk False p l e R s m args below meth c Z own EL hm T h cells slots := by
  obtain ⟨vm0, locs, k0, _, r⟩ := X; exact ⟨vm0, locs, k0, fun q => q.elim, r⟩
/-- the mark may be set anew at any time -/
theorem Wk.mark (X : Wk N p l e R s m args below meth c Z own EL hm T h cells slots) : Wk N p l e R s m args below meth c Z own EL h T h cells slots := by
  obtain ⟨vm0, locs, k0, h1, h2, h3, h4, h5, h6, h7, h8, h9, h10, h11, h12⟩ := X
  exact ⟨vm0, locs, k0, h1, h2, h3, h4, h5, h6, h7, h8, h9, h10.trans (CHr.ext h11 h10.1), Ext.oRefl _, h12⟩
theorem Wk.mono {c' n' : Nat} (X : Wk N p l e R s m args below meth c Z own EL hm T h cells slots) (hc : cells ≤ c') (hn : slots ≤ n') : Wk N p l e R s m args below meth c Z own EL hm T h c' n' := by
  obtain ⟨vm0, locs, k0, h1, h2, r⟩ := X
  exact ⟨vm0, locs, k0, h1, h2.mono hc hn, r⟩
theorem Wk.start {s₁ : State} {h0 : Heap} (X : Stand p l e R s m args below meth c s₁ [] 0 0) (e0 : s₁.heap = h0) (es : s.heap = h0) (hx : p.tables.exec = Jvm.exec) (hZ : Z.Warmed39 s.vm) (hown : s.vm.findClass own = some m.cls) (H : CHv Z EL s.vm h0) (hO : Ext Z.heap h0) :
    Wk N p l e R s m args below meth c Z own EL h0 s₁ h0 0 0 :=
  ⟨s.vm, [], s.heap.size, fun _ => rfl, X, e0, hx, hZ, hown, Fr.nil _, (State.WarmedH.refl s).since _, by rw [es]; exact Nat.le_refl _, by rw [es]; exact CHr.refl H, Ext.oRefl _, hO⟩
/-! leaving -/
theorem Goes.outN {C S : Nat} {Qv : Option Value → Heap → Prop} (X : Wk True p l e R s m args below meth c Z own EL hm T h cells slots) {v : Option Value} (hv : meth.sig.returnType = none → v = none) (hlk : meth.locks = false)
    (st : ∀ fs, (∀ (f : JFrame) (acts : List Action), f.method = m → f.locked = none → f.entered = [] → (doReturn e (T.setTop f) acts v).1 = T.setFrames fs) → Steps p.tables e below (T.setTop g) (T.setFrames fs))
    (hq : Qv v h) (hc : cells ≤ C) (hs : slots ≤ S) : Goes p.tables e below (EndN Z s C S Qv) T g := by
  obtain ⟨vm0, locs, k0, h1, X, h3, h4, h5, h6, h7, h8, h9, h10, h11, h12⟩ := X
  obtain rfl := h1 trivial
  obtain ⟨fs, hr, hrun, hended, hW, hsame⟩ := X.leave (v := v) hv hlk
  exact ⟨_, _, st fs hr, hrun, hended, v, locs, rfl, ⟨by rw [← h3] at hq; exact hq, h7⟩, ⟨v, rfl⟩, hW, hsame.mono hc hs⟩
theorem Goes.outS {C S : Nat} {Qv : Option Value → Heap → Prop} (X : Wk N p l e R s m args below meth c Z own EL hm T h cells slots) (hEL : EW Z a0 EL) {v : Option Value} (hv : meth.sig.returnType = none → v = none) (hlk : meth.locks = false)
    (st : ∀ fs, (∀ (f : JFrame) (acts : List Action), f.method = m → f.locked = none → f.entered = [] → (doReturn e (T.setTop f) acts v).1 = T.setFrames fs) → Steps p.tables e below (T.setTop g) (T.setFrames fs))
    (hq : Qv v h) (hc : cells ≤ C) (hs : slots ≤ S) : Goes p.tables e below (EndS Z s EL C S Qv) T g := by
  obtain ⟨vm0, locs, k0, h1, X, h3, h4, h5, h6, h7, h8, h9, h10, h11, h12⟩ := X
  have h9' : k0 ≤ T.heap.size := by rw [h3]; exact h9
  obtain ⟨fs, hr, hrun, hended, r1, r2, r3, r4⟩ := X.leaveW h8 h9' (v := v) hv hlk
  have C1 := h10.trans (CHr.ext h11 h10.1)
  have C2 : CHr Z EL vm0 h T.vm h := CHv.at X h5 hEL C1.1
  refine ⟨_, _, st fs hr, hrun, hended, v, locs, rfl, ⟨by rw [← h3] at hq; exact hq, h7⟩, ?_, r1, r2, r3, r4.mono hc hs⟩
  have C3 := C1.trans C2
  rw [← h3] at C3
  exact C3
/-- the six returns; t: what is owed at the end (EndN or EndS) by outN, outS -/
theorem st_int {vm0 : Vm} {locs : List Loc} (X : Stand p l e R (s.setVm vm0) m args below meth c T locs cells slots) (hx : p.tables.exec = Jvm.exec) {pc : Nat} {Ls : Array Slot} {z : Int32} {rest : List Value} (hret : meth.sig.returnType = some .int) (hd : decode c.code pc = .ok (.ireturn, 1)) :
    ∀ fs, (∀ (f : JFrame) (acts : List Action), f.method = m → f.locked = none → f.entered = [] → (doReturn e (T.setTop f) acts (some (.int z))).1 = T.setFrames fs) → Steps p.tables e below (T.setTop (mkF m pc Ls (.int z :: rest))) (T.setFrames fs) :=
  fun fs hl => retOut X hx hret rfl (Or.inl ⟨rfl, Or.inl rfl, z, rfl⟩) hd hl
theorem Wk.rI (X : Wk N p l e R s m args below meth c Z own EL hm T h cells slots) {pc : Nat} {Ls : Array Slot} {z : Int32} {rest : List Value} (hret : meth.sig.returnType = some .int) (hd : decode c.code pc = .ok (.ireturn, 1)) :
    ∀ fs, (∀ (f : JFrame) (acts : List Action), f.method = m → f.locked = none → f.entered = [] → (doReturn e (T.setTop f) acts (some (.int z))).1 = T.setFrames fs) → Steps p.tables e below (T.setTop (mkF m pc Ls (.int z :: rest))) (T.setFrames fs) := by
  obtain ⟨vm0, locs, k0, h1, X', h3, h4, r⟩ := X
  exact fun fs hl => retOut X' h4 hret rfl (Or.inl ⟨rfl, Or.inl rfl, z, rfl⟩) hd hl
theorem Wk.rB (X : Wk N p l e R s m args below meth c Z own EL hm T h cells slots) {t : FieldType} {pc : Nat} {Ls : Array Slot} {z : Int32} {rest : List Value} (hret : meth.sig.returnType = some t) (ht : t = .boolean ∨ t = .byte ∨ t = .char ∨ t = .short) (hd : decode c.code pc = .ok (.ireturn, 1)) :
    ∀ fs, (∀ (f : JFrame) (acts : List Action), f.method = m → f.locked = none → f.entered = [] → (doReturn e (T.setTop f) acts (some (.int (nar t z)))).1 = T.setFrames fs) → Steps p.tables e below (T.setTop (mkF m pc Ls (.int z :: rest))) (T.setFrames fs) := by
  obtain ⟨vm0, locs, k0, h1, X', h3, h4, r⟩ := X
  exact fun fs hl => retN X' h4 hret ht hd hl
theorem Wk.rJ (X : Wk N p l e R s m args below meth c Z own EL hm T h cells slots) {pc : Nat} {Ls : Array Slot} {z : Int64} {rest : List Value} (hret : meth.sig.returnType = some .long) (hd : decode c.code pc = .ok (.lreturn, 1)) :
    ∀ fs, (∀ (f : JFrame) (acts : List Action), f.method = m → f.locked = none → f.entered = [] → (doReturn e (T.setTop f) acts (some (.long z))).1 = T.setFrames fs) → Steps p.tables e below (T.setTop (mkF m pc Ls (.long z :: rest))) (T.setFrames fs) := by
  obtain ⟨vm0, locs, k0, h1, X', h3, h4, r⟩ := X
  exact fun fs hl => retOut X' h4 hret rfl (Or.inr (Or.inl ⟨rfl, rfl, z, rfl⟩)) hd hl
theorem Wk.rA (X : Wk N p l e R s m args below meth c Z own EL hm T h cells slots) {t : FieldType} {pc : Nat} {Ls : Array Slot} {w : Value} {rest : List Value} (hret : meth.sig.returnType = some t) (ht : t.isReference = true) (hw : w.isRef = true) (hd : decode c.code pc = .ok (.areturn, 1)) :
    ∀ fs, (∀ (f : JFrame) (acts : List Action), f.method = m → f.locked = none → f.entered = [] → (doReturn e (T.setTop f) acts (some w)).1 = T.setFrames fs) → Steps p.tables e below (T.setTop (mkF m pc Ls (w :: rest))) (T.setFrames fs) := by
  obtain ⟨vm0, locs, k0, h1, X', h3, h4, r⟩ := X
  have hn : narrow t w = w := by
    rcases ref_cases hw with rfl | ⟨_, rfl⟩ <;> cases t <;> first | rfl | exact absurd ht (by decide)
  exact fun fs hl => retOut X' h4 hret hn (Or.inr (Or.inr (Or.inr (Or.inr ⟨rfl, ht, hw⟩)))) hd hl
theorem Wk.rV (X : Wk N p l e R s m args below meth c Z own EL hm T h cells slots) {pc : Nat} {Ls : Array Slot} (hret : meth.sig.returnType = none) (hd : decode c.code pc = .ok (.return_, 1)) :
    ∀ fs, (∀ (f : JFrame) (acts : List Action), f.method = m → f.locked = none → f.entered = [] → (doReturn e (T.setTop f) acts none).1 = T.setFrames fs) → Steps p.tables e below (T.setTop (mkF m pc Ls [])) (T.setFrames fs) := by
  obtain ⟨vm0, locs, k0, h1, X', h3, h4, r⟩ := X
  exact fun fs hl => X'.returnOut h4 hret hd hl
/-! steps that move the tables or the heap -/
theorem Wk.getF (X : Wk N p l e R s m args below meth c Z own EL hm T h cells slots) {R0 O n d host : String} {index : Nat} (w : (Cond.fieldLink own index R0 n d).before a0 Z = true ∨ (Cond.fieldLinkNest own index R0 n d host).before a0 Z = true) (via : Via Z R0 O n d) {a : Addr} {v : Value} (F : Fld Z h a O n d v)
    {g : JFrame} (hg : g.method = m) {rest : List Value} (hs : g.stack = .ref a :: rest) (hd : decode c.code g.pc = .ok (.getfield index, 3))
    (k : ∀ T', Wk N p l e R s m args below meth c Z own EL hm T' h cells slots → Goes p.tables e below Q T' { g with pc := g.pc + 3, stack := v :: rest }) : Goes p.tables e below Q T g := by
  obtain ⟨vm0, locs, k0, h1, X', h3, h4, h5, h6, r⟩ := X
  obtain ⟨T', X2, e2, st⟩ := RoadKit.getF (s := s.setVm vm0) X' h4 h5 h6 w via h3 F hg hs hd
  exact Goes.go st (k T' ⟨vm0, locs, k0, h1, X2, e2, h4, h5, h6, r⟩)
theorem Wk.getS (X : Wk N p l e R s m args below meth c Z own EL hm T h cells slots) {R0 O n d host : String} {index : Nat} (w : (Cond.fieldLink own index R0 n d).before a0 Z = true ∨ (Cond.fieldLinkNest own index R0 n d host).before a0 Z = true) (via : Via Z R0 O n d) {v : Value} (F : Sta Z Z.heap O n d v)
    {g : JFrame} (hg : g.method = m) (hd : decode c.code g.pc = .ok (.getstatic index, 3))
    (k : ∀ T', Wk N p l e R s m args below meth c Z own EL hm T' h cells slots → Goes p.tables e below Q T' { g with pc := g.pc + 3, stack := v :: g.stack }) : Goes p.tables e below Q T g := by
  have hOld := X.old
  obtain ⟨vm0, locs, k0, h1, X', h3, h4, h5, h6, r⟩ := X
  obtain ⟨T', X2, e2, st⟩ := getS2 (s := s.setVm vm0) X' h4 h5 h6 w via h3 (F.ext hOld) hg hd
  exact Goes.go st (k T' ⟨vm0, locs, k0, h1, X2, e2, h4, h5, h6, r⟩)
theorem Wk.new (X : Wk N p l e R s m args below meth c Z own EL hm T h cells slots) {C : String} {index n : Nat} (w : (Cond.classLink own index C).before a0 Z = true) (wi : (Cond.instantiable C n).before a0 Z = true) (wz : (Cond.initialized C).before a0 Z = true)
    {g : JFrame} (hg : g.method = m) (hd : decode c.code g.pc = .ok (.new index, 3)) (hc : cells + 1 ≤ R.cells) (hl : slots + n ≤ R.slots)
    (k : ∀ (T' : State) (h' : Heap) (a : Addr), a = h.size → Wk N p l e R s m args below meth c Z own EL hm T' h' (cells + 1) (slots + n) → Ext h h' → Exa Z h' a C → (∀ {O nm d : String} {ty : FieldType}, Laid Z a0 C O nm d → parseFieldDescriptor d = some ty → Fld Z h' a O nm d (defaultValue ty)) →
      Goes p.tables e below Q T' { g with pc := g.pc + 3, stack := .ref a :: g.stack }) : Goes p.tables e below Q T g := by
  obtain ⟨vm0, locs, k0, h1, X', h3, h4, h5, h6, h7, h8, h9, h10, h11, h12⟩ := X
  obtain ⟨T', h', X2, e2, E, A, D, -, st⟩ := newO (s := s.setVm vm0) X' h4 h5 h6 w wi wz h3 hg hd hc hl
  exact Goes.go st (k T' h' _ rfl ⟨vm0, locs, k0, h1, X2, e2, h4, h5, h6, h7, h8, Nat.le_trans h9 E.1, h10, h11.oTrans E, h12.oTrans E⟩ E A D)
theorem Wk.newA (X : Wk N p l e R s m args below meth c Z own EL hm T h cells slots) {aty : ArrayType} (w : (Cond.arrayClass (newarray.typeOf aty)).before a0 Z = true)
    {g : JFrame} (hg : g.method = m) (hd : decode c.code g.pc = .ok (.newarray aty, 2)) {n : Int32} {rest : List Value} (hs : g.stack = .int n :: rest) (hn : ¬ n < 0) {cap : Nat} (hcap : n.toNatClampNeg ≤ cap) (hb : cap * 8 ≤ 536870912) (hc : cells + 1 ≤ R.cells) (hl : slots + cap ≤ R.slots)
    (k : ∀ (T' : State) (h' : Heap) (a : Addr) (kA : ClassId), a = h.size → Wk N p l e R s m args below meth c Z own EL hm T' h' (cells + 1) (slots + cap) → Ext h h' → Arv Z h' a kA (newarray.typeOf aty) n [] (defaultValue (newarray.typeOf aty)) → Exa Z h' a ("[" ++ (newarray.typeOf aty).toString) →
      Goes p.tables e below Q T' { g with pc := g.pc + 2, stack := .ref a :: rest }) : Goes p.tables e below Q T g := by
  obtain ⟨vm0, locs, k0, h1, X', h3, h4, h5, h6, h7, h8, h9, h10, h11, h12⟩ := X
  obtain ⟨T', h', kA, X2, e2, E, A, B, st⟩ := newPE (s := s.setVm vm0) X' h4 h5 w h3 hg hd hs hn hcap hb hc hl rfl
  exact Goes.go st (k T' h' _ kA rfl ⟨vm0, locs, k0, h1, X2, e2, h4, h5, h6, h7, h8, Nat.le_trans h9 E.1, h10, h11.oTrans E, h12.oTrans E⟩ E (Arv.new A hn) B)
theorem own_fitC {a : Addr} {kA : ClassId} {ty : FieldType} {z : Int32} {vs : List Value} {dv : Value} {cl : Cell} (A : Arr Z h a cl ty) (Hh : Has cl vs dv) (G : ∀ i, i < cl.slots.size → fits ty (vs.getD i dv) = true) : FitC Z cl := by
  intro i v hv
  obtain ⟨-, kk, hk, comp, hkind⟩ := A.2.1
  have hi : i < cl.slots.size := (Array.getElem?_eq_some_iff.mp hv).1
  have e := Hh i hi
  rw [hv] at e
  cases e
  have e2 : Z.slotType? cl.cls .none i = some ty := by simp [State.slotType?, hk, hkind]
  simpa [State.fitsSlot, e2] using G i hi
theorem Wk.cloneV (X : Wk N p l e R s m args below meth c Z own EL hm T h cells slots) {ad : String} {index : Nat}
    (w1 : (Cond.methodLink own index ⟨ad, "clone", "()Ljava/lang/Object;"⟩).before a0 Z = true) (w2 : (Cond.sameMethod ad "java/lang/Object" "clone" "()Ljava/lang/Object;").before a0 Z = true) (w3 : (Cond.native ⟨"java/lang/Object", "clone", "()Ljava/lang/Object;"⟩).before a0 Z = true)
    (w4 : (Cond.instanceMethod ⟨"java/lang/Object", "clone", "()Ljava/lang/Object;"⟩).before a0 Z = true) (w5 : (Cond.selects ad ⟨ad, "clone", "()Ljava/lang/Object;"⟩ ⟨"java/lang/Object", "clone", "()Ljava/lang/Object;"⟩).before a0 Z = true) (w6 : (Cond.castable ad "java/lang/Cloneable").before a0 Z = true)
    {a : Addr} {kA : ClassId} {ty : FieldType} {z : Int32} {vs : List Value} {dv : Value} (A : Arv Z h a kA ty z vs dv) (E : Exa Z h a ad) {g : JFrame} (hg : g.method = m) (hsize : g.locals.size = c.maxLocals) {rest : List Value} (hs : g.stack = .ref a :: rest) (hd : decode c.code g.pc = .ok (.invokevirtual index, 3))
    (hf : 1 ≤ R.frames) {W cap : Nat} (hW : 2 * g.monitorRoom + (rest.map fun v => v.category).sum ≤ W) (hl : W + 14 ≤ R.locals) (hcap : z.toNatClampNeg ≤ cap) (hc : cells + 1 ≤ R.cells) (hsl : slots + cap ≤ R.slots)
    (k : ∀ (T' : State) (h' : Heap) (b : Addr), b = h.size → Wk N p l e R s m args below meth c Z own EL hm T' h' (cells + 1) (slots + cap) → Ext h h' → Arv Z h' b kA ty z vs dv → Exa Z h' b ad →
      Goes p.tables e below Q T' { g with pc := g.pc + 3, stack := .ref b :: rest }) : Goes p.tables e below Q T g := by
  obtain ⟨vm0, locs, k0, h1, X', h3, h4, h5, h6, h7, h8, h9, h10, h11, h12⟩ := X
  obtain ⟨cl, Ar, q, Sz, Nn, Hh, G⟩ := A
  obtain ⟨T', h', X2, e2, E2, A2, B2, st⟩ := cloneA (s := s.setVm vm0) X' h4 h5 h6 w1 w2 w3 w4 w5 w6 h3 Ar E (own_fitC (kA := kA) (z := z) Ar Hh G) hg hsize hs hd hf hW hl (cap := cap) (by rw [Sz]; exact hcap) hc hsl
  exact Goes.go st (k T' h' _ rfl ⟨vm0, locs, k0, h1, X2, e2, h4, h5, h6, h7, h8, Nat.le_trans h9 E2.1, h10, h11.oTrans E2, h12.oTrans E2⟩ E2 ⟨_, A2, q, Sz, Nn, Hh, G⟩ B2)
/-- the core of every write of one slot -/
theorem Wk.wrote {vm0 : Vm} {locs : List Loc} {k0 : Nat} {T' : State} {h' hm' : Heap} {a : Addr} {sl : Nat} {v : Value} (h1 : N → vm0 = s.vm) (h4 : p.tables.exec = Jvm.exec) (h5 : Z.Warmed39 vm0) (h6 : vm0.findClass own = some m.cls) (h7 : Fr Z.heap.size locs) (h8 : s.Since vm0 k0) (h9 : k0 ≤ h.size) (h10 : CHr Z EL s.vm s.heap vm0 hm) (h11 : Ext hm h) (h12 : Ext Z.heap h)
    (X2 : Stand p l e R (s.setVm vm0) m args below meth c T' (locs ++ [⟨a, sl⟩]) cells slots) (e2 : T'.heap = h') (W : Wr h h' a sl v) (ga : Z.heap.size ≤ a) (M : Mark Z EL hm h [a] h' hm') : Wk N p l e R s m args below meth c Z own EL hm' T' h' cells slots := by
  have K := Keep.of_wr W
  obtain ⟨C, E⟩ := mark_go h5.alike h10 h11 K M
  exact ⟨vm0, _, k0, h1, X2, e2, h4, h5, h6, Fr.snoc X2 h7 ga, h8, Nat.le_trans h9 K.1, C, E, h12.oKeep K (fun x hx => by cases List.mem_singleton.mp hx; exact ga)⟩
theorem Wk.putF {hm' : Heap → Heap} (X : Wk N p l e R s m args below meth c Z own EL hm T h cells slots) {R0 O n d host C : String} {index kk : Nat} {ty : FieldType} (w : (Cond.fieldLink own index R0 n d).before a0 Z = true ∨ (Cond.fieldLinkNest own index R0 n d host).before a0 Z = true) (via : Via Z R0 O n d)
    {a : Addr} {v old : Value} (F : Fld Z h a O n d old) (E : Exa Z h a C) (L : (Cond.lays C O n d).before a0 Z = true ∨ ((Cond.laysFinal C O n d).before a0 Z = true ∧ own = O ∧ meth.name = "<init>")) (wi : (Cond.instantiable C kk).before a0 Z = true)
    (hty : parseFieldDescriptor d = some ty) (hn : narrow ty v = v) (hf : fits ty v = true) (ga : Z.heap.size ≤ a) (M : ∀ h', Mark Z EL hm h [a] h' (hm' h')) {g : JFrame} (hg : g.method = m) {rest : List Value} (hs : g.stack = v :: .ref a :: rest) (hd : decode c.code g.pc = .ok (.putfield index, 3))
    (k : ∀ (T' : State) (h' : Heap), Wk N p l e R s m args below meth c Z own EL (hm' h') T' h' cells slots → Wr h h' a (Jvm.RoadKit.slotOf Z O n d) v → Goes p.tables e below Q T' { g with pc := g.pc + 3, stack := rest }) : Goes p.tables e below Q T g := by
  obtain ⟨vm0, locs, k0, h1, X', h3, h4, h5, h6, h7, h8, h9, h10, h11, h12⟩ := X
  obtain ⟨T', h', X2, e2, W, st⟩ := RoadKit.putF (s := s.setVm vm0) X' h4 h5 h6 w via h3 F E L wi hty hn hf hg hs hd
  exact Goes.go st (k T' h' (Wk.wrote h1 h4 h5 h6 h7 h8 h9 h10 h11 h12 X2 e2 W ga (M h')) W)
theorem Wk.putFN {hm' : Heap → Heap} (X : Wk N p l e R s m args below meth c Z own EL hm T h cells slots) {R0 O n d C : String} {index kk : Nat} {ty : FieldType} (w : (Cond.fieldLink own index R0 n d).before a0 Z = true) (via : Via Z R0 O n d)
    {a : Addr} {v v' old : Value} (F : Fld Z h a O n d old) (E : Exa Z h a C) (L : (Cond.lays C O n d).before a0 Z = true ∨ ((Cond.laysFinal C O n d).before a0 Z = true ∧ own = O ∧ meth.name = "<init>")) (wi : (Cond.instantiable C kk).before a0 Z = true)
    (hty : parseFieldDescriptor d = some ty) (hn : narrow ty v = v') (hf : fits ty v' = true) (ga : Z.heap.size ≤ a) (M : ∀ h', Mark Z EL hm h [a] h' (hm' h')) {g : JFrame} (hg : g.method = m) {rest : List Value} (hs : g.stack = v :: .ref a :: rest) (hd : decode c.code g.pc = .ok (.putfield index, 3))
    (k : ∀ (T' : State) (h' : Heap), Wk N p l e R s m args below meth c Z own EL (hm' h') T' h' cells slots → Wr h h' a (Jvm.RoadKit.slotOf Z O n d) v' → Goes p.tables e below Q T' { g with pc := g.pc + 3, stack := rest }) : Goes p.tables e below Q T g := by
  obtain ⟨vm0, locs, k0, h1, X', h3, h4, h5, h6, h7, h8, h9, h10, h11, h12⟩ := X
  obtain ⟨T', h', X2, e2, W, st⟩ := RoadKit.putFN (s := s.setVm vm0) X' h4 h5 h6 w via h3 F E L wi hty hn hf hg hs hd
  exact Goes.go st (k T' h' (Wk.wrote h1 h4 h5 h6 h7 h8 h9 h10 h11 h12 X2 e2 W ga (M h')) W)
theorem wr_same {O n d : String} {h' : Heap} {a : Addr} {v : Value} (W : Wr h h' a (Jvm.RoadKit.slotOf Z O n d) v) (F : Fld Z h a O n d v) : h' = h := by
  obtain ⟨cell, h1, -, hlt, rfl⟩ := W
  obtain ⟨c2, cf, k, i, f, g1, g2, -, -, -, -, g7⟩ := F
  cases h1.symm.trans g1
  have es : Jvm.RoadKit.slotOf Z O n d = f.slot := by simp [Jvm.RoadKit.slotOf, g2]
  have e1 : cell.setSlot f.slot v = cell := by
    have e2 : cell.slots.setIfInBounds f.slot v = cell.slots := by
      apply Array.ext_getElem?
      intro j
      by_cases q : f.slot = j
      · subst q
        rw [Array.getElem?_setIfInBounds_self_of_lt (Array.getElem?_eq_some_iff.mp g7).1, g7]
      · rw [Array.getElem?_setIfInBounds_ne q]
    show { cell with slots := cell.slots.setIfInBounds f.slot v } = cell
    rw [e2]
  rw [es, e1]
  apply Array.ext_getElem?
  intro j
  by_cases q : a = j
  · subst q
    rw [Array.getElem?_setIfInBounds_self_of_lt (Array.getElem?_eq_some_iff.mp h1).1, h1]
  · rw [Array.getElem?_setIfInBounds_ne q]
theorem Wk.putFNsame (X : Wk N p l e R s m args below meth c Z own EL hm T h cells slots) {R0 O n d C : String} {index kk : Nat} {ty : FieldType} (w : (Cond.fieldLink own index R0 n d).before a0 Z = true) (via : Via Z R0 O n d)
    {a : Addr} {v v' : Value} (F : Fld Z h a O n d v') (E : Exa Z h a C) (L : (Cond.lays C O n d).before a0 Z = true ∨ ((Cond.laysFinal C O n d).before a0 Z = true ∧ own = O ∧ meth.name = "<init>")) (wi : (Cond.instantiable C kk).before a0 Z = true)
    (hty : parseFieldDescriptor d = some ty) (hn : narrow ty v = v') (hf : fits ty v' = true) (ga : Z.heap.size ≤ a) {g : JFrame} (hg : g.method = m) {rest : List Value} (hs : g.stack = v :: .ref a :: rest) (hd : decode c.code g.pc = .ok (.putfield index, 3))
    (k : ∀ (T' : State), Wk N p l e R s m args below meth c Z own EL hm T' h cells slots → Goes p.tables e below Q T' { g with pc := g.pc + 3, stack := rest }) : Goes p.tables e below Q T g := by
  obtain ⟨vm0, locs, k0, h1, X', h3, h4, h5, h6, h7, h8, h9, h10, h11, h12⟩ := X
  obtain ⟨T', h', X2, e2, W, st⟩ := RoadKit.putFN (s := s.setVm vm0) X' h4 h5 h6 w via h3 F E L wi hty hn hf hg hs hd
  obtain rfl := wr_same W F
  exact Goes.go st (k T' ⟨vm0, _, k0, h1, X2, e2, h4, h5, h6, Fr.snoc X2 h7 ga, h8, h9, h10, h11, h12⟩)
theorem Wk.castore {hm' : Heap → Heap} (X : Wk N p l e R s m args below meth c Z own EL hm T h cells slots) {a : Addr} {kA : ClassId} {z j x : Int32} {vs : List Value} {dv : Value} (A : Arv Z h a kA .char z vs dv) (hj : ¬ j < 0 ∧ j < z) {i : Nat} (hi : j.toNatClampNeg = i) (hl : i < vs.length) (ga : Z.heap.size ≤ a) (M : ∀ h', Mark Z EL hm h [a] h' (hm' h'))
    {g : JFrame} (hg : g.method = m) {rest : List Value} (hs : g.stack = .int x :: .int j :: .ref a :: rest) (hd : decode c.code g.pc = .ok (.castore, 1))
    (k : ∀ (T' : State) (h' : Heap), Wk N p l e R s m args below meth c Z own EL (hm' h') T' h' cells slots → Wr h h' a j.toNatClampNeg (.int (nar .char x)) → Arv Z h' a kA .char z (vs.set i (.int (nar .char x))) dv → Goes p.tables e below Q T' { g with pc := g.pc + 1, stack := rest }) : Goes p.tables e below Q T g := by
  obtain ⟨vm0, locs, k0, h1, X', h3, h4, h5, h6, h7, h8, h9, h10, h11, h12⟩ := X
  obtain ⟨cl, Ar, q, Sz, Nn, Hh, G⟩ := A
  obtain ⟨T', h', X2, e2, W, st⟩ := stC (s := s.setVm vm0) X' h4 h5 h3 Ar (j := j) (inb_of Sz hj) hg hs hd
  exact Goes.go st (k T' h' (Wk.wrote h1 h4 h5 h6 h7 h8 h9 h10 h11 h12 X2 e2 W ga (M h')) W (Arv.set Ar q Sz Nn Hh G (fits_nar_char _) W i hi hl))
theorem Wk.lastore {hm' : Heap → Heap} (X : Wk N p l e R s m args below meth c Z own EL hm T h cells slots) {a : Addr} {kA : ClassId} {z j : Int32} {x : Int64} {vs : List Value} {dv : Value} (A : Arv Z h a kA .long z vs dv) (hj : ¬ j < 0 ∧ j < z) {i : Nat} (hi : j.toNatClampNeg = i) (hl : i < vs.length) (ga : Z.heap.size ≤ a) (M : ∀ h', Mark Z EL hm h [a] h' (hm' h'))
    {g : JFrame} (hg : g.method = m) {rest : List Value} (hs : g.stack = .long x :: .int j :: .ref a :: rest) (hd : decode c.code g.pc = .ok (.lastore, 1))
    (k : ∀ (T' : State) (h' : Heap), Wk N p l e R s m args below meth c Z own EL (hm' h') T' h' cells slots → Wr h h' a j.toNatClampNeg (.long x) → Arv Z h' a kA .long z (vs.set i (.long x)) dv → Goes p.tables e below Q T' { g with pc := g.pc + 1, stack := rest }) : Goes p.tables e below Q T g := by
  obtain ⟨vm0, locs, k0, h1, X', h3, h4, h5, h6, h7, h8, h9, h10, h11, h12⟩ := X
  obtain ⟨cl, Ar, q, Sz, Nn, Hh, G⟩ := A
  obtain ⟨T', h', X2, e2, W, st⟩ := stJ (s := s.setVm vm0) X' h4 h5 h3 Ar (j := j) (inb_of Sz hj) hg hs hd
  exact Goes.go st (k T' h' (Wk.wrote h1 h4 h5 h6 h7 h8 h9 h10 h11 h12 X2 e2 W ga (M h')) W (Arv.set Ar q Sz Nn Hh G rfl W i hi hl))
theorem Wk.bastore {hm' : Heap → Heap} (X : Wk N p l e R s m args below meth c Z own EL hm T h cells slots) {a : Addr} {kA : ClassId} {z j x : Int32} {vs : List Value} {dv : Value} (A : Arv Z h a kA .byte z vs dv) (hj : ¬ j < 0 ∧ j < z) {i : Nat} (hi : j.toNatClampNeg = i) (hl : i < vs.length) (ga : Z.heap.size ≤ a) (M : ∀ h', Mark Z EL hm h [a] h' (hm' h'))
    {g : JFrame} (hg : g.method = m) {rest : List Value} (hs : g.stack = .int x :: .int j :: .ref a :: rest) (hd : decode c.code g.pc = .ok (.bastore, 1))
    (k : ∀ (T' : State) (h' : Heap), Wk N p l e R s m args below meth c Z own EL (hm' h') T' h' cells slots → Wr h h' a j.toNatClampNeg (.int (nar .byte x)) → Arv Z h' a kA .byte z (vs.set i (.int (nar .byte x))) dv → Goes p.tables e below Q T' { g with pc := g.pc + 1, stack := rest }) : Goes p.tables e below Q T g := by
  obtain ⟨vm0, locs, k0, h1, X', h3, h4, h5, h6, h7, h8, h9, h10, h11, h12⟩ := X
  obtain ⟨cl, Ar, q, Sz, Nn, Hh, G⟩ := A
  obtain ⟨T', h', X2, e2, W, st⟩ := stB (s := s.setVm vm0) X' h4 h5 h3 Ar (j := j) (inb_of Sz hj) hg hs hd
  exact Goes.go st (k T' h' (Wk.wrote h1 h4 h5 h6 h7 h8 h9 h10 h11 h12 X2 e2 W ga (M h')) W (Arv.set Ar q Sz Nn Hh G (fits_nar_byte _) W i hi hl))
/-! loads out of arrays, lengths -/
theorem Wk.caload (X : Wk N p l e R s m args below meth c Z own EL hm T h cells slots) {a : Addr} {kA : ClassId} {z j : Int32} {vs : List Value} {dv v : Value} (A : Arv Z h a kA .char z vs dv) (hj : ¬ j < 0 ∧ j < z) (hv : vs.getD j.toNatClampNeg dv = v)
    {g : JFrame} (hg : g.method = m) {rest : List Value} (hs : g.stack = .int j :: .ref a :: rest) (hd : decode c.code g.pc = .ok (.caload, 1)) : ∀ t, Steps p.tables e below (T.setTop { g with pc := g.pc + 1, stack := v :: rest }) t → Steps p.tables e below (T.setTop g) t := by
  obtain ⟨vm0, locs, k0, h1, X', h3, h4, h5, r⟩ := X
  obtain ⟨cl, Ar, q, Sz, Nn, Hh, G⟩ := A
  intro t k
  exact X'.caload h4 (j := j) (v := v) (by rw [h3]; exact Ar.1) (State.isArrayOf_alike h5.alike Ar.2.1) Ar.2.2 (inb_of Sz hj) (Hh.at (inb_of Sz hj) hv) hg hs hd t k
theorem Wk.laload (X : Wk N p l e R s m args below meth c Z own EL hm T h cells slots) {a : Addr} {kA : ClassId} {z j : Int32} {vs : List Value} {dv v : Value} (A : Arv Z h a kA .long z vs dv) (hj : ¬ j < 0 ∧ j < z) (hv : vs.getD j.toNatClampNeg dv = v)
    {g : JFrame} (hg : g.method = m) {rest : List Value} (hs : g.stack = .int j :: .ref a :: rest) (hd : decode c.code g.pc = .ok (.laload, 1)) : ∀ t, Steps p.tables e below (T.setTop { g with pc := g.pc + 1, stack := v :: rest }) t → Steps p.tables e below (T.setTop g) t := by
  obtain ⟨vm0, locs, k0, h1, X', h3, h4, h5, r⟩ := X
  obtain ⟨cl, Ar, q, Sz, Nn, Hh, G⟩ := A
  intro t k
  exact X'.laload h4 (j := j) (v := v) (by rw [h3]; exact Ar.1) (State.isArrayOf_alike h5.alike Ar.2.1) Ar.2.2 (inb_of Sz hj) (Hh.at (inb_of Sz hj) hv) hg hs hd t k
theorem Wk.baload (X : Wk N p l e R s m args below meth c Z own EL hm T h cells slots) {a : Addr} {kA : ClassId} {z j : Int32} {vs : List Value} {dv v : Value} (A : Arv Z h a kA .byte z vs dv) (hj : ¬ j < 0 ∧ j < z) (hv : vs.getD j.toNatClampNeg dv = v)
    {g : JFrame} (hg : g.method = m) {rest : List Value} (hs : g.stack = .int j :: .ref a :: rest) (hd : decode c.code g.pc = .ok (.baload, 1)) : ∀ t, Steps p.tables e below (T.setTop { g with pc := g.pc + 1, stack := v :: rest }) t → Steps p.tables e below (T.setTop g) t := by
  obtain ⟨vm0, locs, k0, h1, X', h3, h4, h5, r⟩ := X
  obtain ⟨cl, Ar, q, Sz, Nn, Hh, G⟩ := A
  intro t k
  exact X'.baloadBytes h4 (j := j) (v := v) (by rw [h3]; exact Ar.1) (State.isArrayOf_alike h5.alike Ar.2.1) Ar.2.2 (inb_of Sz hj) (Hh.at (inb_of Sz hj) hv) hg hs hd t k
theorem Wk.alen (X : Wk N p l e R s m args below meth c Z own EL hm T h cells slots) {a : Addr} {kA : ClassId} {ty : FieldType} {z : Int32} {vs : List Value} {dv : Value} (A : Arv Z h a kA ty z vs dv)
    {g : JFrame} (hg : g.method = m) {rest : List Value} (hs : g.stack = .ref a :: rest) (hd : decode c.code g.pc = .ok (.arraylength, 1)) : ∀ t, Steps p.tables e below (T.setTop { g with pc := g.pc + 1, stack := .int z :: rest }) t → Steps p.tables e below (T.setTop g) t := by
  obtain ⟨vm0, locs, k0, h1, X', h3, h4, h5, r⟩ := X
  obtain ⟨cl, Ar, q, Sz, Nn, Hh, G⟩ := A
  intro t k
  rw [← len_of Sz Nn] at k
  exact X'.arraylength h4 (by rw [h3]; exact Ar.1) (State.isArrayOf_alike h5.alike Ar.2.1) hg hs hd t k
theorem Wk.acopy {hm' : Heap → Heap} (X : Wk N p l e R s m args below meth c Z own EL hm T h cells slots) {index : Nat}
    (w1 : (Cond.methodLink own index Jvm.Stand.acN).before a0 Z = true) (w2 : (Cond.native Jvm.Stand.acN).before a0 Z = true) (w3 : (Cond.static Jvm.Stand.acN).before a0 Z = true) (w4 : (Cond.initialized "java/lang/System").before a0 Z = true)
    {a b : Addr} {k' kA : ClassId} {ty ty' : FieldType} {z z' sp dp nn : Int32} {vs vd us : List Value} {dv dd : Value} (A : Arv Z h a kA ty z vs dv) (B : Arv Z h b k' ty' z' vd dd) (hty : ty = ty' ∧ refKind ty = false)
    (h1 : ¬ sp < 0) (h2 : ¬ dp < 0) (h3 : ¬ nn < 0) (h4 : sp.toNatClampNeg + nn.toNatClampNeg ≤ z.toNatClampNeg) (h5 : dp.toNatClampNeg + nn.toNatClampNeg ≤ z'.toNatClampNeg)
    (hus : us = (List.range nn.toNatClampNeg).map fun i => vs.getD (sp.toNatClampNeg + i) dv) (hl : dp.toNatClampNeg + nn.toNatClampNeg ≤ vd.length) (gb : Z.heap.size ≤ b) (M : ∀ h', Mark Z EL hm h [b] h' (hm' h'))
    {g : JFrame} (hg : g.method = m) (hsize : g.locals.size = c.maxLocals) {rest : List Value} (hs : g.stack = .int nn :: .int dp :: .ref b :: .int sp :: .ref a :: rest) (hd : decode c.code g.pc = .ok (.invokestatic index, 3))
    (hf : 1 ≤ R.frames) {W : Nat} (hW : 2 * g.monitorRoom + (rest.map fun v => v.category).sum ≤ W) (hlo : W + (nativeFrameWords "java/lang/System" "arraycopy" 5 + 11) ≤ R.locals)
    (k : ∀ (T' : State) (h' : Heap), Wk N p l e R s m args below meth c Z own EL (hm' h') T' h' cells slots → Keep h h' [b] → Arv Z h' b k' ty' z' (vd.take dp.toNatClampNeg ++ us ++ vd.drop (dp.toNatClampNeg + nn.toNatClampNeg)) dd → Goes p.tables e below Q T' { g with pc := g.pc + 3, stack := rest }) : Goes p.tables e below Q T g := by
  obtain ⟨vm0, locs, k0, x1, X', x3, x4, x5, x6, x7, x8, x9, x10, x11, x12⟩ := X
  obtain ⟨T', h', L, X2, e2, FL, K, A2, st⟩ := cpA (s := s.setVm vm0) X' x4 x5 x6 w1 w2 w3 w4 x3 A B (Or.inl hty) h1 h2 h3 h4 h5 hus hl x7 gb hg hsize hs hd hf hW hlo
  obtain ⟨C, E⟩ := mark_go x5.alike x10 x11 K (M h')
  exact Goes.go st (k T' h' ⟨vm0, L, k0, x1, X2, e2, x4, x5, x6, FL, x8, Nat.le_trans x9 K.1, C, E, x12.oKeep K (fun x hx => by cases List.mem_singleton.mp hx; exact gb)⟩ K A2)
theorem Wk.ldcI (X : Wk N p l e R s m args below meth c Z own EL hm T h cells slots) {index : Nat} {v : Int32} (w : (Cond.constant own index v).before a0 Z = true) {g : JFrame} (hg : g.method = m) (hd : decode c.code g.pc = .ok (.ldc index, 2)) : ∀ t, Steps p.tables e below (T.setTop { g with pc := g.pc + 2, stack := .int v :: g.stack }) t → Steps p.tables e below (T.setTop g) t := by
  obtain ⟨vm0, locs, k0, h1, X', h3, h4, h5, h6, r⟩ := X
  exact X'.ldcInt h4 h6 (mv (s := s.setVm vm0) h5 w) hg hd
theorem Wk.ldcL (X : Wk N p l e R s m args below meth c Z own EL hm T h cells slots) {index : Nat} {v : Int64} (w : (Cond.constantLong own index v).before a0 Z = true) {g : JFrame} (hg : g.method = m) (hd : decode c.code g.pc = .ok (.ldc2_w index, 3)) : ∀ t, Steps p.tables e below (T.setTop { g with pc := g.pc + 3, stack := .long v :: g.stack }) t → Steps p.tables e below (T.setTop g) t := by
  obtain ⟨vm0, locs, k0, h1, X', h3, h4, h5, h6, r⟩ := X
  exact X'.ldc2Long h4 h6 (mv (s := s.setVm vm0) h5 w) hg hd
theorem Wk.castY (X : Wk N p l e R s m args below meth c Z own EL hm T h cells slots) {K : String} {index : Nat} (w : (Cond.classLink own index K).before a0 Z = true) {a : Addr} (F : Ins Z h a K true) {g : JFrame} (hg : g.method = m) {rest : List Value} (hs : g.stack = .ref a :: rest) (hd : decode c.code g.pc = .ok (.checkcast index, 3))
    (k : ∀ T', Wk N p l e R s m args below meth c Z own EL hm T' h cells slots → Goes p.tables e below Q T' { g with pc := g.pc + 3 }) : Goes p.tables e below Q T g := by
  obtain ⟨vm0, locs, k0, h1, X', h3, h4, h5, h6, r⟩ := X
  obtain ⟨T', X2, e2, st⟩ := RoadKit.castY (s := s.setVm vm0) X' h4 h5 h6 w h3 F hg hs hd
  exact Goes.go st (k T' ⟨vm0, locs, k0, h1, X2, e2, h4, h5, h6, r⟩)
theorem Wk.instY (X : Wk N p l e R s m args below meth c Z own EL hm T h cells slots) {K : String} {index : Nat} (w : (Cond.classLink own index K).before a0 Z = true) {a : Addr} (F : Ins Z h a K true) {g : JFrame} (hg : g.method = m) {rest : List Value} (hs : g.stack = .ref a :: rest) (hd : decode c.code g.pc = .ok (.instanceof index, 3))
    (k : ∀ T', Wk N p l e R s m args below meth c Z own EL hm T' h cells slots → Goes p.tables e below Q T' { g with pc := g.pc + 3, stack := .int 1 :: rest }) : Goes p.tables e below Q T g := by
  obtain ⟨vm0, locs, k0, h1, X', h3, h4, h5, h6, r⟩ := X
  obtain ⟨T', X2, e2, st⟩ := RoadKit.instY (s := s.setVm vm0) X' h4 h5 h6 w h3 F hg hs hd
  exact Goes.go st (k T' ⟨vm0, locs, k0, h1, X2, e2, h4, h5, h6, r⟩)
theorem Wk.instNo (X : Wk N p l e R s m args below meth c Z own EL hm T h cells slots) {C K : String} {index : Nat} (w : (Cond.classLink own index K).before a0 Z = true) {a : Addr} (E : Exa Z h a C) (F : ∃ c t, Z.vm.findClass C = some c ∧ Z.vm.findClass K = some t ∧ Z.vm.assignable c t = false) {g : JFrame} (hg : g.method = m) {rest : List Value} (hs : g.stack = .ref a :: rest) (hd : decode c.code g.pc = .ok (.instanceof index, 3))
    (k : ∀ T', Wk N p l e R s m args below meth c Z own EL hm T' h cells slots → Goes p.tables e below Q T' { g with pc := g.pc + 3, stack := .int 0 :: rest }) : Goes p.tables e below Q T g := by
  obtain ⟨vm0, locs, k0, h1, X', h3, h4, h5, h6, r⟩ := X
  obtain ⟨T', X2, e2, st⟩ := RoadKit.instNo (s := s.setVm vm0) X' h4 h5 h6 w h3 E F hg hs hd
  exact Goes.go st (k T' ⟨vm0, locs, k0, h1, X2, e2, h4, h5, h6, r⟩)
theorem Wk.instNull (X : Wk N p l e R s m args below meth c Z own EL hm T h cells slots) {index : Nat} {g : JFrame} (hg : g.method = m) {rest : List Value} (hs : g.stack = .null :: rest) (hd : decode c.code g.pc = .ok (.instanceof index, 3)) : ∀ t, Steps p.tables e below (T.setTop { g with pc := g.pc + 3, stack := .int 0 :: rest }) t → Steps p.tables e below (T.setTop g) t := by
  obtain ⟨vm0, locs, k0, h1, X', h3, h4, r⟩ := X
  exact X'.instanceofNull h4 hg hs hd
theorem own_noinst {C S K : String} {n : Nat} (w : (Cond.superclass C S).before a0 Z = true) (wr : (Cond.noSuperclass S).before a0 Z = true) (wi : (Cond.instantiable K n).before a0 Z = true) (n1 : C ≠ K) (n2 : S ≠ K) : ∃ c t, Z.vm.findClass C = some c ∧ Z.vm.findClass K = some t ∧ Z.vm.assignable c t = false := by
  obtain ⟨cS, kS, s1, s2, s3, -, -⟩ := Cond.noSuperclass_spec wr
  obtain ⟨t, kt, t1, t2, t3, t4, -⟩ := Cond.instantiable_spec wi
  have ne2 := ids_ne s1 t1 n2
  have nS : NS Z S K := ⟨cS, t, s1, t1, fun fuel => by
    cases fuel with
    | zero => rfl
    | succ f => simp [Vm.isSubclassAux, ne2, s2, s3]⟩
  obtain ⟨c, t', h0, g0, n3⟩ := NS.step w nS n1
  cases g0.symm.trans t1
  obtain ⟨p', k, kp, h1, h2, h3, h4, h5, -, h7⟩ := Cond.superclass_spec h0 w
  have ne := ids_ne h0 g0 n1
  simp only [Bool.or_eq_false_iff] at t4
  refine ⟨c, _, h0, t1, ?_⟩
  show Z.vm.assignableAux (255 + 1) c _ = false
  simp [Vm.assignableAux, ne, h2, t2, h5, t3, t4.1, Vm.isSubclass, n3]
/-! Object.<init>, literals -/
theorem Wk.initO (X : Wk N p l e R s m args below meth c Z own EL hm T h cells slots) {idx : Nat} (w1 : (Cond.methodLink own idx Lib.objectInit).before a0 Z = true) (w2 : (Cond.instanceMethod Lib.objectInit).before a0 Z = true) (w3 : (Cond.code Lib.objectInit ⟨#[0xb1]⟩ 1 none).before a0 Z = true)
    {g : JFrame} (hg : g.method = m) (hsize : g.locals.size = c.maxLocals) {a : Addr} {rest : List Value} (hs : g.stack = .ref a :: rest) (hd : decode c.code g.pc = .ok (.invokespecial idx, 3)) (hf : 1 ≤ R.frames) {W : Nat} (hW : 2 * g.monitorRoom + (rest.map fun v => v.category).sum ≤ W) (hl : W + 12 ≤ R.locals)
    (k : ∀ T', Wk N p l e R s m args below meth c Z own EL hm T' h cells slots → Goes p.tables e below Q T' { g with pc := g.pc + 3, stack := rest }) : Goes p.tables e below Q T g := by
  obtain ⟨vm0, locs, k0, h1, X', h3, h4, h5, h6, r⟩ := X
  obtain ⟨T', X2, e2, st⟩ := RoadKit.initO (s := s.setVm vm0) X' h4 h5 h6 w1 w2 w3 h3 hg hsize hs hd hf hW hl
  exact Goes.go st (k T' ⟨vm0, locs, k0, h1, X2, e2, h4, h5, h6, r⟩)
theorem Wk.ldcR (X : Wk N p l e R s m args below meth c Z own EL hm T h cells slots) {text : String} {index : Nat} (w : (Cond.stringLink own index text).before a0 Z = true) (wS : ∀ a ∈ Bundle.stringAtoms, a.before a0 Z = true) (hEL : EW Z a0 EL) (hmem : (own, index) ∈ EL)
    {vs : List Value} {z : Int32} (ht : (∀ c ∈ text.toList, c.toNat < 256) ∧ text.toList.map (fun c => Value.int (Jvm.Lit.byteI c.toNat.toUInt16)) = vs) (hz : ¬ z < 0) (hl : z.toNatClampNeg = vs.length)
    {g : JFrame} (hg : g.method = m) (hd : decode c.code g.pc = .ok (.ldc index, 2)) {n : Nat} (hn : 4 * text.toList.length ≤ n) (hbig : n ≤ 536870912) (hc : cells + 2 ≤ R.cells) (hl' : slots + (n + 4) ≤ R.slots)
    (k : ∀ (T' : State) (h' : Heap) (a b : Addr) (kB : ClassId), Wk False p l e R s m args below meth c Z own EL h' T' h' (cells + 2) (slots + (n + 4)) → Ext h h' → Exa Z h' a "java/lang/String" → Fld Z h' a "java/lang/String" "coder" "B" (.int 0) → Fld Z h' a "java/lang/String" "value" "[B" (.ref b) → Arv Z h' b kB .byte z vs (.int 0) →
      Goes p.tables e below Q T' { g with pc := g.pc + 2, stack := .ref a :: g.stack }) : Goes p.tables e below Q T g := by
  obtain ⟨vm0, locs, k0, h1, X', h3, h4, h5, h6, h7, h8, h9, h10, h11, h12⟩ := X
  have C1 := h10.trans (CHr.ext h11 h10.1)
  obtain ⟨a, T', h', k1, b, kB, X2, e2, E, S2, hk2, hW, hf, r1, r2, r3, r4, -, -, C2, -, -, st⟩ := ldcCH X' h4 h5 h6 w wS h3 h8 h9 hEL hmem C1.1 ht hz hl hg hd hn hbig hc hl'
  exact Goes.go st (k T' h' a b kB ⟨T'.vm, locs, k1, fun q => q.elim, X2, e2, h4, hW, hf, h7, S2, hk2, C1.trans C2, Ext.oRefl _, h12.oTrans E⟩ E r1 r2 r3 r4)
theorem Wk.ldcO (X : Wk N p l e R s m args below meth c Z own EL hm T h cells slots) {text : String} {index : Nat} (w : (Cond.stringLink own index text).before a0 Z = true) (wS : ∀ a ∈ Bundle.stringAtoms, a.before a0 Z = true) (hEL : EW Z a0 EL)
    {g : JFrame} (hg : g.method = m) (hd : decode c.code g.pc = .ok (.ldc index, 2)) {n : Nat} (hn : 4 * text.toList.length ≤ n) (hbig : n ≤ 536870912) (hc : cells + 2 ≤ R.cells) (hl' : slots + (n + 4) ≤ R.slots)
    (k : ∀ (T' : State) (h' : Heap) (a : Addr), Wk False p l e R s m args below meth c Z own EL h' T' h' (cells + 2) (slots + (n + 4)) → Ext h h' →
      Goes p.tables e below Q T' { g with pc := g.pc + 2, stack := .ref a :: g.stack }) : Goes p.tables e below Q T g := by
  obtain ⟨vm0, locs, k0, h1, X', h3, h4, h5, h6, h7, h8, h9, h10, h11, h12⟩ := X
  have C1 := h10.trans (CHr.ext h11 h10.1)
  obtain ⟨a, T', h', k1, X2, e2, E, S2, hk2, hW, hf, C2, -, st⟩ := ldcOH X' h4 h5 h6 w wS h3 h8 h9 hEL C1.1 hg hd hn hbig hc hl'
  exact Goes.go st (k T' h' a ⟨T'.vm, locs, k1, fun q => q.elim, X2, e2, h4, hW, hf, h7, S2, hk2, C1.trans C2, Ext.oRefl _, h12.oTrans E⟩ E)
/-! calls -/
theorem CtrN.back {y : MethodName} {bytes : ByteArray} {maxL : Nat} {ret : Option FieldType} {rm : Room} {as' : Array Value} {Qv : Option Value → Heap → Prop} {len W : Nat} (K : CtrN l Z y bytes maxL ret rm as' h Qv) {vm0 : Vm} (hZ : Z.Warmed39 vm0) (wc : (Cond.code y bytes maxL ret).before a0 Z = true) (wz : (Cond.initialized y.cls).before a0 Z = true) (hf : rm.frames + 1 ≤ R.frames) (hl : W + (maxL + 11) + rm.locals ≤ R.locals) :
    Back l R p e below (s.setVm vm0) args y len W (fun A a => a = as' ∧ A.U.heap = h ∧ A.cells + rm.cells ≤ R.cells ∧ A.slots + rm.slots ≤ R.slots) (fun A _ v B => ∃ L, (Qv v B.U.heap ∧ Fr Z.heap.size L) ∧ B.locs = A.locs ++ L ∧ B.cells = A.cells + rm.cells ∧ B.slots = A.slots + rm.slots) :=
  backOf (s := s.setVm vm0) (Q := fun v h' L => Qv v h' ∧ Fr Z.heap.size L) (K []) hZ wc wz hf hl
theorem CtrS.back {y : MethodName} {bytes : ByteArray} {maxL : Nat} {ret : Option FieldType} {rm : Room} {as' : Array Value} {Qv : Option Value → Heap → Prop} {len W : Nat} (K : CtrS l Z EL y bytes maxL ret rm as' h Qv) {vm0 : Vm} (hZ : Z.Warmed39 vm0) (wc : (Cond.code y bytes maxL ret).before a0 Z = true) (wz : (Cond.initialized y.cls).before a0 Z = true) (hf : rm.frames + 1 ≤ R.frames) (hl : W + (maxL + 11) + rm.locals ≤ R.locals) (hEL : EW Z a0 EL) (H : CHv Z EL vm0 h) :
    BackS l R p e below (s.setVm vm0) args y len W (fun A a => a = as' ∧ A.U.heap = h ∧ A.cells + rm.cells ≤ R.cells ∧ A.slots + rm.slots ≤ R.slots) (fun A _ v B => ∃ L, (Qv v B.U.heap ∧ Fr Z.heap.size L) ∧ B.locs = A.locs ++ L ∧ B.cells = A.cells + rm.cells ∧ B.slots = A.slots + rm.slots ∧ CHr Z EL vm0 h B.U.vm B.U.heap) :=
  backOfSH (Q := fun v h' L => Qv v h' ∧ Fr Z.heap.size L) (K []) hZ wc wz hf hl hEL H
/-- what a payer says that interns nothing -/
def Pays (l : Launch) (R : Room) (p : Program) (e : Env) (below : List Frame) (s : State) (args : Array Value) (Z : State) (y : MethodName) (len W : Nat) (as' : Array Value) (h : Heap) (kc ks : Nat) (QQ : Option Value → Heap → List Loc → Prop) : Prop :=
  ∀ vm0, Z.Warmed39 vm0 → Back l R p e below (s.setVm vm0) args y len W (fun A a => a = as' ∧ A.U.heap = h ∧ A.cells + kc ≤ R.cells ∧ A.slots + ks ≤ R.slots) (fun A _ v B => ∃ L, QQ v B.U.heap L ∧ B.locs = A.locs ++ L ∧ B.cells = A.cells + kc ∧ B.slots = A.slots + ks)
def PaysS (l : Launch) (R : Room) (p : Program) (e : Env) (below : List Frame) (s : State) (args : Array Value) (Z : State) (EL : List (String × Nat)) (y : MethodName) (len W : Nat) (as' : Array Value) (h : Heap) (kc ks : Nat) (QQ : Option Value → Heap → List Loc → Prop) : Prop :=
  ∀ vm0, Z.Warmed39 vm0 → CHv Z EL vm0 h → BackS l R p e below (s.setVm vm0) args y len W (fun A a => a = as' ∧ A.U.heap = h ∧ A.cells + kc ≤ R.cells ∧ A.slots + ks ≤ R.slots) (fun A _ v B => ∃ L, QQ v B.U.heap L ∧ B.locs = A.locs ++ L ∧ B.cells = A.cells + kc ∧ B.slots = A.slots + ks ∧ CHr Z EL vm0 h B.U.vm B.U.heap)
theorem CtrN.pays {y : MethodName} {bytes : ByteArray} {maxL : Nat} {ret : Option FieldType} {rm : Room} {as' : Array Value} {Qv : Option Value → Heap → Prop} {len W : Nat} (K : CtrN l Z y bytes maxL ret rm as' h Qv) (wc : (Cond.code y bytes maxL ret).before a0 Z = true) (wz : (Cond.initialized y.cls).before a0 Z = true) (hf : rm.frames + 1 ≤ R.frames) (hl : W + (maxL + 11) + rm.locals ≤ R.locals) :
    Pays l R p e below s args Z y len W as' h rm.cells rm.slots (fun v h' L => Qv v h' ∧ Fr Z.heap.size L) := fun _ hZ => CtrN.back K hZ wc wz hf hl
theorem CtrS.pays {y : MethodName} {bytes : ByteArray} {maxL : Nat} {ret : Option FieldType} {rm : Room} {as' : Array Value} {Qv : Option Value → Heap → Prop} {len W : Nat} (K : CtrS l Z EL y bytes maxL ret rm as' h Qv) (wc : (Cond.code y bytes maxL ret).before a0 Z = true) (wz : (Cond.initialized y.cls).before a0 Z = true) (hf : rm.frames + 1 ≤ R.frames) (hl : W + (maxL + 11) + rm.locals ≤ R.locals) (hEL : EW Z a0 EL) :
    PaysS l R p e below s args Z EL y len W as' h rm.cells rm.slots (fun v h' L => Qv v h' ∧ Fr Z.heap.size L) := fun _ hZ H => CtrS.back K hZ wc wz hf hl hEL H
theorem Wk.came {vm0 : Vm} {locs L : List Loc} {k0 kc ks : Nat} {T' : State} {hm' : Heap} {ws : List Addr} (h1 : N → vm0 = s.vm) (h4 : p.tables.exec = Jvm.exec) (h5 : Z.Warmed39 vm0) (h6 : vm0.findClass own = some m.cls) (h7 : Fr Z.heap.size locs) (h8 : s.Since vm0 k0) (h9 : k0 ≤ h.size) (h10 : CHr Z EL s.vm s.heap vm0 hm) (h11 : Ext hm h) (h12 : Ext Z.heap h)
    (X2 : Stand p l e R (s.setVm vm0) m args below meth c T' (locs ++ L) (cells + kc) (slots + ks)) (F : Fr Z.heap.size L) (K : Keep h T'.heap ws) (hws : ∀ x ∈ ws, Z.heap.size ≤ x) (M : Mark Z EL hm h ws T'.heap hm') : Wk N p l e R s m args below meth c Z own EL hm' T' T'.heap (cells + kc) (slots + ks) := by
  obtain ⟨C, E⟩ := mark_go h5.alike h10 h11 K M
  exact ⟨vm0, _, k0, h1, X2, rfl, h4, h5, h6, Fr.app h7 F, h8, Nat.le_trans h9 K.1, C, E, h12.oKeep K hws⟩
theorem Wk.cameS {vm0 : Vm} {locs L : List Loc} {k0 kc ks : Nat} {T' : State} {ws : List Addr} (h4 : p.tables.exec = Jvm.exec) (h5 : Z.Warmed39 vm0) (h6 : vm0.findClass own = some m.cls) (h7 : Fr Z.heap.size locs) (h8 : s.Since vm0 k0) (h9 : k0 ≤ h.size) (C1 : CHr Z EL s.vm s.heap vm0 h) (h12 : Ext Z.heap h)
    (X2 : Stand p l e R ((s.setVm vm0).setVm T'.vm) m args below meth c T' (locs ++ L) (cells + kc) (slots + ks)) (S2 : (s.setVm vm0).Since T'.vm T'.heap.size) (F : Fr Z.heap.size L) (K : Keep h T'.heap ws) (hws : ∀ x ∈ ws, Z.heap.size ≤ x) (C2 : CHr Z EL vm0 h T'.vm T'.heap) : Wk False p l e R s m args below meth c Z own EL T'.heap T' T'.heap (cells + kc) (slots + ks) :=
  ⟨T'.vm, _, T'.heap.size, fun q => q.elim, X2, rfl, h4, State.Warmed39.trans (t := s.setVm vm0) h5 S2.1, (S2.1.alike.findClass _ _).trans h6, Fr.app h7 F, h8.trans S2 (Nat.le_trans h9 K.1), Nat.le_refl _, C1.trans C2, Ext.oRefl _, h12.oKeep K hws⟩
theorem Wk.static {hm' : Heap → Heap} {y : MethodName} {bytes : ByteArray} {maxL : Nat} {ret : Option FieldType} {index W kc ks : Nat} {QQ : Option Value → Heap → List Loc → Prop} {argsL rest : List Value} {as' : Array Value} {ws : List Addr} (X : Wk N p l e R s m args below meth c Z own EL hm T h cells slots)
    (w1 : (Cond.methodLink own index y).before a0 Z = true) (w2 : (Cond.static y).before a0 Z = true) (w3 : (Cond.initialized y.cls).before a0 Z = true) (w4 : (Cond.code y bytes maxL ret).before a0 Z = true) (hy : y.cls ≠ "java/lang/invoke/MethodHandle" ∧ y.cls ≠ "java/lang/invoke/VarHandle")
    (hK : Pays l R p e below s args Z y 3 W as' h kc ks QQ) (hQ : ∀ v h' L, QQ v h' L → Fr Z.heap.size L ∧ Keep h h' ws) (hws : ∀ x ∈ ws, Z.heap.size ≤ x) (M : ∀ h', Mark Z EL hm h ws h' (hm' h'))
    {g : JFrame} (hg : g.method = m) (hsize : g.locals.size = c.maxLocals) (hlen : ∀ sig, parseMethodDescriptor y.desc = some sig → argsL.length = sig.parameters.length) (has : argsL.toArray = as') (hstack : g.stack = argsL.reverse ++ rest) (hW : 2 * g.monitorRoom + (rest.map fun v => v.category).sum ≤ W)
    (hdg : decode c.code g.pc = .ok (.invokestatic index, 3)) (hc : cells + kc ≤ R.cells) (hs : slots + ks ≤ R.slots)
    (k : ∀ (T' : State) (h' : Heap) (v : Option Value) (L : List Loc), Wk N p l e R s m args below meth c Z own EL (hm' h') T' h' (cells + kc) (slots + ks) → QQ v h' L → Keep h h' ws → Goes p.tables e below Q T' { g with pc := g.pc + 3, stack := v.toList ++ rest }) : Goes p.tables e below Q T g := by
  obtain ⟨vm0, locs, k0, h1, X', h3, h4, h5, h6, h7, h8, h9, h10, h11, h12⟩ := X
  obtain ⟨v, vm₁, ⟨T', L', k', n'⟩, -, X2, ⟨L, q, l2, y2, z2⟩, st⟩ := Jvm.LawKit.callS (s := s.setVm vm0) X' h4 h6 (mvT (s := s.setVm vm0) h5 w1) (mvT (s := s.setVm vm0) h5 w2) (mvT (s := s.setVm vm0) h5 w3) (mvT (s := s.setVm vm0) h5 w4) hy (hK vm0 h5) hg hsize hlen hstack hW hdg (fun _ _ => ⟨has, h3, hc, hs⟩)
  dsimp only [Pt.U, Pt.locs, Pt.cells, Pt.slots] at X2 l2 y2 z2 st q
  subst l2 y2 z2
  obtain ⟨F, K⟩ := hQ _ _ _ q
  exact Goes.go st (k T' T'.heap v L (Wk.came h1 h4 h5 h6 h7 h8 h9 h10 h11 h12 X2 F K hws (M _)) q K)
theorem Wk.special {hm' : Heap → Heap} {y : MethodName} {bytes : ByteArray} {maxL : Nat} {index W kc ks : Nat} {QQ : Option Value → Heap → List Loc → Prop} {a : Addr} {argsL rest : List Value} {as' : Array Value} {ws : List Addr} (X : Wk N p l e R s m args below meth c Z own EL hm T h cells slots)
    (hy1 : y.name = "<init>") (w1 : (Cond.methodLink own index y).before a0 Z = true) (w2 : (Cond.instanceMethod y).before a0 Z = true) (w4 : (Cond.code y bytes maxL none).before a0 Z = true) (hy : y.cls ≠ "java/lang/invoke/MethodHandle" ∧ y.cls ≠ "java/lang/invoke/VarHandle")
    (hK : Pays l R p e below s args Z y 3 W as' h kc ks QQ) (hQ : ∀ v h' L, QQ v h' L → Fr Z.heap.size L ∧ Keep h h' ws) (hws : ∀ x ∈ ws, Z.heap.size ≤ x) (M : ∀ h', Mark Z EL hm h ws h' (hm' h'))
    {g : JFrame} (hg : g.method = m) (hsize : g.locals.size = c.maxLocals) (hlen : ∀ sig, parseMethodDescriptor y.desc = some sig → argsL.length = sig.parameters.length) (has : (.ref a :: argsL).toArray = as') (hstack : g.stack = argsL.reverse ++ .ref a :: rest) (hW : 2 * g.monitorRoom + (rest.map fun v => v.category).sum ≤ W)
    (hdg : decode c.code g.pc = .ok (.invokespecial index, 3)) (hc : cells + kc ≤ R.cells) (hs : slots + ks ≤ R.slots)
    (k : ∀ (T' : State) (h' : Heap) (v : Option Value) (L : List Loc), Wk N p l e R s m args below meth c Z own EL (hm' h') T' h' (cells + kc) (slots + ks) → QQ v h' L → Keep h h' ws → Goes p.tables e below Q T' { g with pc := g.pc + 3, stack := v.toList ++ rest }) : Goes p.tables e below Q T g := by
  obtain ⟨vm0, locs, k0, h1, X', h3, h4, h5, h6, h7, h8, h9, h10, h11, h12⟩ := X
  obtain ⟨v, vm₁, ⟨T', L', k', n'⟩, -, X2, ⟨L, q, l2, y2, z2⟩, st⟩ := Stand.specialBack (s := s.setVm vm0) X' h4 hy1 h6 (mvT (s := s.setVm vm0) h5 w1) (mvT (s := s.setVm vm0) h5 w2) (mvT (s := s.setVm vm0) h5 w4) hy (hK vm0 h5) hg hsize (Steps.refl _) hlen hstack hW hdg (fun _ _ => ⟨has, h3, hc, hs⟩)
  dsimp only [Pt.U, Pt.locs, Pt.cells, Pt.slots] at X2 l2 y2 z2 st q
  subst l2 y2 z2
  obtain ⟨F, K⟩ := hQ _ _ _ q
  exact Goes.via st (k T' T'.heap v L (Wk.came h1 h4 h5 h6 h7 h8 h9 h10 h11 h12 X2 F K hws (M _)) q K)
theorem Wk.virtual {hm' : Heap → Heap} {C : String} {y z : MethodName} {index W kc ks : Nat} {QQ : Option Value → Heap → List Loc → Prop} {b : Addr} {argsL rest : List Value} {as' : Array Value} {ws : List Addr} (X : Wk N p l e R s m args below meth c Z own EL hm T h cells slots)
    (w1 : (Cond.methodLink own index y).before a0 Z = true) (w2 : (Cond.declares y).before a0 Z = true) (w3 : (Cond.selects C y z).before a0 Z = true) (w4 : (Cond.instanceMethod z).before a0 Z = true) (hy : y.cls ≠ "java/lang/invoke/MethodHandle" ∧ y.cls ≠ "java/lang/invoke/VarHandle") (E : Exa Z h b C)
    (hnf : ∀ vm0, Z.Warmed39 vm0 → NotFace (s.setVm vm0) y)
    (hK : Pays l R p e below s args Z z 3 W as' h kc ks QQ) (hQ : ∀ v h' L, QQ v h' L → Fr Z.heap.size L ∧ Keep h h' ws) (hws : ∀ x ∈ ws, Z.heap.size ≤ x) (M : ∀ h', Mark Z EL hm h ws h' (hm' h'))
    {g : JFrame} (hg : g.method = m) (hsize : g.locals.size = c.maxLocals) (hlen : ∀ sig, parseMethodDescriptor y.desc = some sig → argsL.length = sig.parameters.length) (has : (.ref b :: argsL).toArray = as') (hstack : g.stack = argsL.reverse ++ .ref b :: rest) (hW : 2 * g.monitorRoom + (rest.map fun v => v.category).sum ≤ W)
    (hdg : decode c.code g.pc = .ok (.invokevirtual index, 3)) (hc : cells + kc ≤ R.cells) (hs : slots + ks ≤ R.slots)
    (k : ∀ (T' : State) (h' : Heap) (v : Option Value) (L : List Loc), Wk N p l e R s m args below meth c Z own EL (hm' h') T' h' (cells + kc) (slots + ks) → QQ v h' L → Keep h h' ws → Goes p.tables e below Q T' { g with pc := g.pc + 3, stack := v.toList ++ rest }) : Goes p.tables e below Q T g := by
  obtain ⟨vm0, locs, k0, h1, X', h3, h4, h5, h6, h7, h8, h9, h10, h11, h12⟩ := X
  obtain ⟨cq, kq, qa, qb, qc⟩ := isOf (s := s.setVm vm0) h5 h3 E
  obtain ⟨v, vm₁, ⟨T', L', k', n'⟩, -, X2, ⟨L, q, l2, y2, z2⟩, st⟩ := Stand.virtualBack (s := s.setVm vm0) X' h4 h6 (mvT (s := s.setVm vm0) h5 w1) (mvT (s := s.setVm vm0) h5 w2) (hnf vm0 h5) (mvT (s := s.setVm vm0) h5 w3) (mvT (s := s.setVm vm0) h5 w4) hy (hK vm0 h5) qa qc hg hsize (Steps.refl _) hlen hstack hW hdg (fun _ _ => ⟨has, h3, hc, hs⟩)
  dsimp only [Pt.U, Pt.locs, Pt.cells, Pt.slots] at X2 l2 y2 z2 st q
  subst l2 y2 z2
  obtain ⟨F, K⟩ := hQ _ _ _ q
  exact Goes.via st (k T' T'.heap v L (Wk.came h1 h4 h5 h6 h7 h8 h9 h10 h11 h12 X2 F K hws (M _)) q K)
theorem Wk.staticS {y : MethodName} {bytes : ByteArray} {maxL : Nat} {ret : Option FieldType} {index W kc ks : Nat} {QQ : Option Value → Heap → List Loc → Prop} {argsL rest : List Value} {as' : Array Value} {ws : List Addr} (X : Wk N p l e R s m args below meth c Z own EL hm T h cells slots)
    (w1 : (Cond.methodLink own index y).before a0 Z = true) (w2 : (Cond.static y).before a0 Z = true) (w3 : (Cond.initialized y.cls).before a0 Z = true) (w4 : (Cond.code y bytes maxL ret).before a0 Z = true) (hy : y.cls ≠ "java/lang/invoke/MethodHandle" ∧ y.cls ≠ "java/lang/invoke/VarHandle")
    (hK : PaysS l R p e below s args Z EL y 3 W as' h kc ks QQ) (hQ : ∀ v h' L, QQ v h' L → Fr Z.heap.size L ∧ Keep h h' ws) (hws : ∀ x ∈ ws, Z.heap.size ≤ x)
    {g : JFrame} (hg : g.method = m) (hsize : g.locals.size = c.maxLocals) (hlen : ∀ sig, parseMethodDescriptor y.desc = some sig → argsL.length = sig.parameters.length) (has : argsL.toArray = as') (hstack : g.stack = argsL.reverse ++ rest) (hW : 2 * g.monitorRoom + (rest.map fun v => v.category).sum ≤ W)
    (hdg : decode c.code g.pc = .ok (.invokestatic index, 3)) (hc : cells + kc ≤ R.cells) (hs : slots + ks ≤ R.slots)
    (k : ∀ (T' : State) (h' : Heap) (v : Option Value) (L : List Loc), Wk False p l e R s m args below meth c Z own EL h' T' h' (cells + kc) (slots + ks) → QQ v h' L → Keep h h' ws → Goes p.tables e below Q T' { g with pc := g.pc + 3, stack := v.toList ++ rest }) : Goes p.tables e below Q T g := by
  obtain ⟨vm0, locs, k0, h1, X', h3, h4, h5, h6, h7, h8, h9, h10, h11, h12⟩ := X
  have C1 := h10.trans (CHr.ext h11 h10.1)
  obtain ⟨v, vm₁, ⟨T', L', k', n'⟩, -, X2, S2, -, ⟨L, q, l2, y2, z2, C2⟩, st⟩ := callSS (s := s.setVm vm0) X' h4 h6 (mvT (s := s.setVm vm0) h5 w1) (mvT (s := s.setVm vm0) h5 w2) (mvT (s := s.setVm vm0) h5 w3) (mvT (s := s.setVm vm0) h5 w4) hy (hK vm0 h5 C1.1) hg hsize hlen hstack hW hdg (fun _ _ => ⟨has, h3, hc, hs⟩)
  dsimp only [Pt.U, Pt.locs, Pt.cells, Pt.slots] at X2 S2 l2 y2 z2 st q C2
  subst l2 y2 z2
  obtain ⟨F, K⟩ := hQ _ _ _ q
  exact Goes.via st (k T' T'.heap v L (Wk.cameS h4 h5 h6 h7 h8 h9 C1 h12 X2 S2 F K hws C2) q K)
theorem Wk.specialS {y : MethodName} {bytes : ByteArray} {maxL : Nat} {index W kc ks : Nat} {QQ : Option Value → Heap → List Loc → Prop} {a : Addr} {argsL rest : List Value} {as' : Array Value} {ws : List Addr} (X : Wk N p l e R s m args below meth c Z own EL hm T h cells slots)
    (hy1 : y.name = "<init>") (w1 : (Cond.methodLink own index y).before a0 Z = true) (w2 : (Cond.instanceMethod y).before a0 Z = true) (w4 : (Cond.code y bytes maxL none).before a0 Z = true) (hy : y.cls ≠ "java/lang/invoke/MethodHandle" ∧ y.cls ≠ "java/lang/invoke/VarHandle")
    (hK : PaysS l R p e below s args Z EL y 3 W as' h kc ks QQ) (hQ : ∀ v h' L, QQ v h' L → Fr Z.heap.size L ∧ Keep h h' ws) (hws : ∀ x ∈ ws, Z.heap.size ≤ x)
    {g : JFrame} (hg : g.method = m) (hsize : g.locals.size = c.maxLocals) (hlen : ∀ sig, parseMethodDescriptor y.desc = some sig → argsL.length = sig.parameters.length) (has : (.ref a :: argsL).toArray = as') (hstack : g.stack = argsL.reverse ++ .ref a :: rest) (hW : 2 * g.monitorRoom + (rest.map fun v => v.category).sum ≤ W)
    (hdg : decode c.code g.pc = .ok (.invokespecial index, 3)) (hc : cells + kc ≤ R.cells) (hs : slots + ks ≤ R.slots)
    (k : ∀ (T' : State) (h' : Heap) (v : Option Value) (L : List Loc), Wk False p l e R s m args below meth c Z own EL h' T' h' (cells + kc) (slots + ks) → QQ v h' L → Keep h h' ws → Goes p.tables e below Q T' { g with pc := g.pc + 3, stack := v.toList ++ rest }) : Goes p.tables e below Q T g := by
  obtain ⟨vm0, locs, k0, h1, X', h3, h4, h5, h6, h7, h8, h9, h10, h11, h12⟩ := X
  have C1 := h10.trans (CHr.ext h11 h10.1)
  obtain ⟨v, vm₁, ⟨T', L', k', n'⟩, -, X2, S2, -, ⟨L, q, l2, y2, z2, C2⟩, st⟩ := Stand.specialBackS (s := s.setVm vm0) X' h4 hy1 h6 (mvT (s := s.setVm vm0) h5 w1) (mvT (s := s.setVm vm0) h5 w2) (mvT (s := s.setVm vm0) h5 w4) hy (hK vm0 h5 C1.1) hg hsize (Steps.refl _) hlen hstack hW hdg (fun _ _ => ⟨has, h3, hc, hs⟩)
  dsimp only [Pt.U, Pt.locs, Pt.cells, Pt.slots] at X2 S2 l2 y2 z2 st q C2
  subst l2 y2 z2
  obtain ⟨F, K⟩ := hQ _ _ _ q
  exact Goes.via st (k T' T'.heap v L (Wk.cameS h4 h5 h6 h7 h8 h9 C1 h12 X2 S2 F K hws C2) q K)
theorem Wk.virtualS {C : String} {y z : MethodName} {index W kc ks : Nat} {QQ : Option Value → Heap → List Loc → Prop} {b : Addr} {argsL rest : List Value} {as' : Array Value} {ws : List Addr} (X : Wk N p l e R s m args below meth c Z own EL hm T h cells slots)
    (w1 : (Cond.methodLink own index y).before a0 Z = true) (w2 : (Cond.declares y).before a0 Z = true) (w3 : (Cond.selects C y z).before a0 Z = true) (w4 : (Cond.instanceMethod z).before a0 Z = true) (hy : y.cls ≠ "java/lang/invoke/MethodHandle" ∧ y.cls ≠ "java/lang/invoke/VarHandle") (E : Exa Z h b C)
    (hnf : ∀ vm0, Z.Warmed39 vm0 → NotFace (s.setVm vm0) y)
    (hK : PaysS l R p e below s args Z EL z 3 W as' h kc ks QQ) (hQ : ∀ v h' L, QQ v h' L → Fr Z.heap.size L ∧ Keep h h' ws) (hws : ∀ x ∈ ws, Z.heap.size ≤ x)
    {g : JFrame} (hg : g.method = m) (hsize : g.locals.size = c.maxLocals) (hlen : ∀ sig, parseMethodDescriptor y.desc = some sig → argsL.length = sig.parameters.length) (has : (.ref b :: argsL).toArray = as') (hstack : g.stack = argsL.reverse ++ .ref b :: rest) (hW : 2 * g.monitorRoom + (rest.map fun v => v.category).sum ≤ W)
    (hdg : decode c.code g.pc = .ok (.invokevirtual index, 3)) (hc : cells + kc ≤ R.cells) (hs : slots + ks ≤ R.slots)
    (k : ∀ (T' : State) (h' : Heap) (v : Option Value) (L : List Loc), Wk False p l e R s m args below meth c Z own EL h' T' h' (cells + kc) (slots + ks) → QQ v h' L → Keep h h' ws → Goes p.tables e below Q T' { g with pc := g.pc + 3, stack := v.toList ++ rest }) : Goes p.tables e below Q T g := by
  obtain ⟨vm0, locs, k0, h1, X', h3, h4, h5, h6, h7, h8, h9, h10, h11, h12⟩ := X
  obtain ⟨cq, kq, qa, qb, qc⟩ := isOf (s := s.setVm vm0) h5 h3 E
  have C1 := h10.trans (CHr.ext h11 h10.1)
  obtain ⟨v, vm₁, ⟨T', L', k', n'⟩, -, X2, S2, -, ⟨L, q, l2, y2, z2, C2⟩, st⟩ := Stand.virtualBackS (s := s.setVm vm0) X' h4 h6 (mvT (s := s.setVm vm0) h5 w1) (mvT (s := s.setVm vm0) h5 w2) (hnf vm0 h5) (mvT (s := s.setVm vm0) h5 w3) (mvT (s := s.setVm vm0) h5 w4) hy (hK vm0 h5 C1.1) qa qc hg hsize (Steps.refl _) hlen hstack hW hdg (fun _ _ => ⟨has, h3, hc, hs⟩)
  dsimp only [Pt.U, Pt.locs, Pt.cells, Pt.slots] at X2 S2 l2 y2 z2 st q C2
  subst l2 y2 z2
  obtain ⟨F, K⟩ := hQ _ _ _ q
  exact Goes.via st (k T' T'.heap v L (Wk.cameS h4 h5 h6 h7 h8 h9 C1 h12 X2 S2 F K hws C2) q K)
theorem nf_sel {C : String} {y : MethodName} (w3 : (Cond.selects C y y).before a0 Z = true) : ∀ vm0, Z.Warmed39 vm0 → NotFace (s.setVm vm0) y := fun vm0 h5 => notFace_of_selects (args := #[]) (mvT (s := s.setVm vm0) h5 w3)
/-! entering a body -/
theorem CHv.none {vm : Vm} : CHv Z [] vm h := fun _ hp => by cases hp
theorem CtrN.of {y : MethodName} {bytes : ByteArray} {maxL : Nat} {ret : Option FieldType} {rm : Room} {as' : Array Value} {h0 : Heap} {Qv : Option Value → Heap → Prop} (hpn : plainFor y = true) (hO : Ext Z.heap h0)
    (body : ∀ (p : Program) (e : Env) (s : State) (m : MethodId) (below : List Frame) (meth : Method) (c : Code) (T : State), Wk True p l e rm s m as' below meth c Z y.cls [] h0 T h0 0 0 → s.heap = h0 → c.code = bytes → c.maxLocals = maxL → meth.sig.returnType = ret → meth.locks = false → meth.name = y.name →
      Goes p.tables e below (EndN Z s rm.cells rm.slots Qv) T (entryFrame m as' maxL)) : CtrN l Z y bytes maxL ret rm as' h0 Qv := by
  intro ws
  refine MetFree.of_bodySF hpn hisR ?_
  intro p e s m args below meth c s₁ Bd hml0 hP hK
  obtain ⟨rfl, hZ, hh⟩ := hP
  have hown := findClass_of_methodNamed Bd.named
  have hnm := (name_of_methodNamed Bd.named Bd.method).1
  have e0 : s₁.heap = h0 := by rw [← hh, Bd.state]; rfl
  exact body p e s m below meth c s₁ (Wk.start (Stand.of_body Bd) e0 hh Bd.exec hZ hown CHv.none hO) hh Bd.bytes hml0 Bd.returns Bd.notSynchronized hnm
theorem CtrS.of {y : MethodName} {bytes : ByteArray} {maxL : Nat} {ret : Option FieldType} {rm : Room} {as' : Array Value} {h0 : Heap} {Qv : Option Value → Heap → Prop} (hpn : plainFor y = true) (hO : Ext Z.heap h0)
    (body : ∀ (p : Program) (e : Env) (s : State) (m : MethodId) (below : List Frame) (meth : Method) (c : Code) (T : State), Wk False p l e rm s m as' below meth c Z y.cls EL h0 T h0 0 0 → s.heap = h0 → c.code = bytes → c.maxLocals = maxL → meth.sig.returnType = ret → meth.locks = false → meth.name = y.name →
      Goes p.tables e below (EndS Z s EL rm.cells rm.slots Qv) T (entryFrame m as' maxL)) : CtrS l Z EL y bytes maxL ret rm as' h0 Qv := by
  intro ws
  refine MetFree.of_bodySF hpn hisR ?_
  intro p e s m args below meth c s₁ Bd hml0 hP hK
  obtain ⟨rfl, hZ, hh, hC⟩ := hP
  have hown := findClass_of_methodNamed Bd.named
  have hnm := (name_of_methodNamed Bd.named Bd.method).1
  have e0 : s₁.heap = h0 := by rw [← hh, Bd.state]; rfl
  exact body p e s m below meth c s₁ (Wk.start (Stand.of_body Bd) e0 hh Bd.exec hZ hown hC hO) hh Bd.bytes hml0 Bd.returns Bd.notSynchronized hnm
end Walk
/-! branches -/
section Branch
variable {tb : Tables} [Ours tb] {e : Env} {below : List Frame} {Q : Outcome → State → Prop} {T : State} {m : MethodId} {c : Code} {Ls : Array Slot} {rest : List Value} {pc pc' : Nat} {o : Int} {x y : Int32} {cd : ClassFile.Cond}
abbrev cdP (cd : ClassFile.Cond) (x y : Int32) : Prop := match cd with
  | .eq => x = y
  | .ne => ¬ x = y
  | .lt => x < y
  | .ge => ¬ x < y
  | .gt => y < x
  | .le => ¬ y < x
theorem cd_t (h : cdP cd x y) : if_icmp.holds cd x y = true := by
  cases cd
  · exact (teq h).1
  · exact (feq h).2
  · exact (tlt h).1
  · exact (flt h).2.1
  · exact (tlt h).2.2.1
  · exact (flt h).2.2.2
theorem cd_f (h : ¬ cdP cd x y) : if_icmp.holds cd x y = false := by
  cases cd
  · exact (feq h).1
  · exact (teq (Classical.not_not.mp h)).2
  · exact (flt h).1
  · exact (tlt (Classical.not_not.mp h)).2.1
  · exact (flt h).2.2.1
  · exact (tlt (Classical.not_not.mp h)).2.2.2
theorem Goes.icmp (h : At T m c below) (hx : tb.exec = Jvm.exec) (hd : decode c.code pc = .ok (.if_icmp cd o, 3)) (ho : 0 ≤ (pc : Int) + o) (hp : ((pc : Int) + o).toNat = pc')
    (kt : cdP cd x y → Goes tb e below Q T (mkF m pc' Ls rest)) (kf : ¬ cdP cd x y → Goes tb e below Q T (mkF m (pc + 3) Ls rest)) : Goes tb e below Q T (mkF m pc Ls (.int y :: .int x :: rest)) := by
  by_cases q : cdP cd x y
  · exact Goes.go (fun _ => XS.icmpYes h hx rfl rfl hd rfl (cd_t q) ho hp) (kt q)
  · exact Goes.go (fun _ => XS.icmpNo h hx rfl hd rfl (cd_f q)) (kf q)
theorem Goes.ifc (h : At T m c below) (hx : tb.exec = Jvm.exec) (hd : decode c.code pc = .ok (.ifCond cd o, 3)) (ho : 0 ≤ (pc : Int) + o) (hp : ((pc : Int) + o).toNat = pc')
    (kt : cdP cd x 0 → Goes tb e below Q T (mkF m pc' Ls rest)) (kf : ¬ cdP cd x 0 → Goes tb e below Q T (mkF m (pc + 3) Ls rest)) : Goes tb e below Q T (mkF m pc Ls (.int x :: rest)) := by
  by_cases q : cdP cd x 0
  · exact Goes.go (fun _ => XS.ifYes h hx rfl rfl hd rfl ((if0 _ _).trans (cd_t q)) ho hp) (kt q)
  · exact Goes.go (fun _ => XS.ifNo h hx rfl hd rfl ((if0 _ _).trans (cd_f q))) (kf q)
theorem Goes.acmp {ac : ClassFile.ACond} {u v : Value} (h : At T m c below) (hx : tb.exec = Jvm.exec) (hd : decode c.code pc = .ok (.if_acmp ac o, 3)) (r1 : u.isRef = true) (r2 : v.isRef = true) (ho : 0 ≤ (pc : Int) + o) (hp : ((pc : Int) + o).toNat = pc')
    (kt : Jvm.Free.XT.acmp ac u v = true → Goes tb e below Q T (mkF m pc' Ls rest)) (kf : Jvm.Free.XT.acmp ac u v = false → Goes tb e below Q T (mkF m (pc + 3) Ls rest)) : Goes tb e below Q T (mkF m pc Ls (v :: u :: rest)) := by
  cases q : Jvm.Free.XT.acmp ac u v
  · exact Goes.go (fun _ => Jvm.Free.XT.acmpNo h hx rfl hd rfl r1 r2 q) (kf q)
  · exact Goes.go (fun _ => Jvm.Free.XT.acmpYes h hx rfl rfl hd rfl r1 r2 q ho hp) (kt q)
end Branch
/-! Strings of Latin-1 chars -/
section Strs
variable {Z : State} {a0 : Array Value} {h h' : Heap} {a x : Addr} {cs : List Int32}
/-- a String whose chars are cs, each 0 to 255 -/
def LStr (Z : State) (h : Heap) (a : Addr) (cs : List Int32) : Prop :=
  Exa Z h a "java/lang/String" ∧ Fld Z h a "java/lang/String" "coder" "B" (.int 0) ∧ (∃ (t : Addr) (kb : ClassId), Fld Z h a "java/lang/String" "value" "[B" (.ref t) ∧ Arv Z h t kb .byte (Int32.ofNat cs.length) ((cs.map fun c => c.toInt8.toInt32).map Value.int) (.int 0)) ∧ (∀ c ∈ cs, ¬ c < 0 ∧ ¬ (255 : Int32) < c) ∧ cs.length ≤ 4000
theorem LStr.ext (S : LStr Z h a cs) (E : Ext h h') : LStr Z h' a cs := by
  obtain ⟨h1, h2, ⟨t, kb, h3, h4⟩, h5⟩ := S
  exact ⟨h1.ext E, h2.ext E, ⟨t, kb, h3.ext E, h4.ext E⟩, h5⟩
theorem LStr.keep {C : String} {n : Nat} (S : LStr Z h a cs) (K : Keep h h' [x]) (E : Exa Z h x C) (hC : C ≠ "java/lang/String") (wi : (Cond.instantiable C n).before a0 Z = true) : LStr Z h' a cs := by
  obtain ⟨h1, h2, ⟨t, kb, h3, h4⟩, h5⟩ := S
  have n1 : a ∉ [x] := fun q => by cases List.mem_singleton.mp q; exact Exa.ne h1 E (Ne.symm hC) rfl
  have n2 : t ∉ [x] := fun q => by cases List.mem_singleton.mp q; exact Exa.neArv E h4 wi rfl
  exact ⟨h1.keep K, h2.keep K n1, ⟨t, kb, h3.keep K n1, h4.keep K n2⟩, h5⟩
theorem LStr.keep2 {C D : String} {n k : Nat} {y : Addr} (S : LStr Z h a cs) (K : Keep h h' [x, y]) (E : Exa Z h x C) (hC : C ≠ "java/lang/String") (wi : (Cond.instantiable C n).before a0 Z = true) (E' : Exa Z h y D) (hD : D ≠ "java/lang/String") (wi' : (Cond.instantiable D k).before a0 Z = true) : LStr Z h' a cs := by
  obtain ⟨h1, h2, ⟨t, kb, h3, h4⟩, h5⟩ := S
  have n1 : a ∉ [x, y] := ninS (Exa.ne h1 E (Ne.symm hC)) (ninS (Exa.ne h1 E' (Ne.symm hD)) nin0)
  have n2 : t ∉ [x, y] := ninS (Exa.neArv E h4 wi).symm (ninS (Exa.neArv E' h4 wi').symm nin0)
  exact ⟨h1.keep K, h2.keep K n1, ⟨t, kb, h3.keep K n1, h4.keep K n2⟩, h5⟩
/-- a String under construction (its value still null) is no literal's -/
theorem SafeA.null {EL : List (String × Nat)} (E : Exa Z h x "java/lang/String") (V : Fld Z h x "java/lang/String" "value" "[B" .null) : SafeA Z EL h x := fun vm hal B => by
  obtain ⟨p, -, u, a, -, q, -, F, hy⟩ := B
  have Fa := F.ha
  have Fd := F.hd
  obtain ⟨cS, ⟨⟨s1, s2, s3, ⟨cv, kv, iv, s4, s4'⟩, ⟨cc, kc, ic, s5, s5'⟩, s6, s7, s8, s9, s10, s11, s12, s13, s14, s15, s16⟩, hfS, hcS⟩, ⟨kS, k1, k2, k3⟩, hB, hbyt⟩ := F
  obtain ⟨c1, kx, e1, e2, e3, e4, e5⟩ := E
  obtain ⟨c2, cf, k, i, f, v1, v2, v3, v4, v5, v6, v7⟩ := V
  cases e1.symm.trans v1
  rcases hy with rfl | rfl
  · obtain ⟨kv', z4⟩ := ff_back (U := Wst Z vm h) hal s4
    have z4 : Z.fieldFound? "java/lang/String" "value" "[B" = _ := z4
    rw [v2] at z4
    simp only [Option.some.injEq, Prod.mk.injEq] at z4
    cases (show h[q.sa]? = some q.sC from s1).symm.trans e1
    rw [z4.2.2.2, s8] at v7
    cases v7
  · cases (show h[q.sd]? = some q.SA from s10).symm.trans e1
    obtain ⟨-, kA, hkA, comp, hkind⟩ := s11
    have hfS' : vm.findClass "java/lang/String" = some cS := hfS
    rw [hal.findClass] at hfS'
    cases hfS'.symm.trans e2
    cases (show vm.classes[q.SA.cls]? = some kS from k1).symm.trans (show vm.classes[q.SA.cls]? = some kA from hkA)
    rw [k2] at hkind
    cases hkind
theorem LStr.lt (S : LStr Z h a cs) : a < h.size := S.1.lt
end Strs
end Jvm.OwnKit
/- laws to paste: Road.backV, Road.eqW, Road.codOf (cut by pick.py; bodies as the Statement names them) -/
namespace Jvm.Pilot.@@N@@
namespace StrChars
open Jvm Sem ClassFile Op Lib Jvm.Stand Jvm.Free.XT Jvm.Free.ALB Jvm.Free.JM Jvm.Free
open Jvm.Lib.Cold (StaticIs)
/-- a char array whose places are chars -/
def Ch (a : Addr) (A : Cell) (U : State) : Prop := Arr .char a A U ∧ Typed .char A
theorem Ch.mv {a : Addr} {A : Cell} {U U' : State} (h : Ch a A U) (hal : U.vm.Alike U'.vm) (hh : U'.heap = U.heap) : Ch a A U' := ⟨h.1.mv hal hh, h.2⟩
theorem Ch.keep {a : Addr} {A : Cell} {U U' : State} (h : Ch a A U) (hal : U.vm.Alike U'.vm) (hk : U'.heap[a]? = some A) : Ch a A U' := ⟨h.1.keep hal hk, h.2⟩
/-- what place i of a char[]'s cell holds -/
def cv (A : Cell) (i : Nat) : Int32 := match A.slots[i]? with | some (.int x) => x | _ => 0
theorem Ch.get {a : Addr} {A : Cell} {U : State} (h : Ch a A U) {i : Nat} (hi : i < A.slots.size) : A.slots[i]? = some (.int (cv A i)) := by
  have e := Array.getElem?_eq_getElem hi
  have f := h.2 i _ e
  unfold cv; rw [e]
  generalize A.slots[i] = v at f
  cases v <;> simp [fits] at f ⊢
/-- the byte that i2b leaves of a char -/
def lo8 (x : Int32) : Int32 := x.toInt8.toInt32
theorem fits_lo8 (y : Int32) : fits .byte (.int (lo8 y)) = true := by
  have h1 := y.toInt8.le_toInt
  have h2 := y.toInt8.toInt_lt
  simp only [lo8, fits, Bool.and_eq_true, decide_eq_true_eq, Int32.le_iff_toInt_le, Int8.toInt_toInt32, show (-128 : Int32).toInt = -128 from by decide, show (127 : Int32).toInt = 127 from by decide]
  omega
/-- A' is A but that each place j of lo .. hi - 1 holds f j -/
def Laid (A A' : Cell) (lo hi : Nat) (f : Nat → Value) : Prop := A'.cls = A.cls ∧ A'.vm = A.vm ∧ A'.slots.size = A.slots.size ∧ ∀ i, A'.slots[i]? = if lo ≤ i ∧ i < hi then some (f i) else A.slots[i]?
theorem Laid.zero (A : Cell) (lo : Nat) (f : Nat → Value) : Laid A A lo (lo + 0) f := ⟨rfl, rfl, rfl, fun i => by rw [if_neg (by omega)]⟩
theorem Laid.step {A Ak : Cell} {lo k : Nat} {f : Nat → Value} {v : Value} (h : Laid A Ak lo k f) (hlo : lo ≤ k) (hk : k < Ak.slots.size) (hv : v = f k) : Laid A (Ak.setSlot k v) lo (k + 1) f := by
  refine ⟨h.1, h.2.1, by simpa [Cell.setSlot] using h.2.2.1, fun i => ?_⟩
  by_cases e : k = i
  · subst e; rw [Cell.slots_setSlot_self v hk, if_pos (by omega), hv]
  · rw [Cell.slots_setSlot_ne v e, h.2.2.2 i]
    by_cases q : lo ≤ i ∧ i < k
    · rw [if_pos q, if_pos (by omega)]
    · rw [if_neg q, if_neg (by omega)]
def U16 : String := "java/lang/StringUTF16"
namespace Cmp5
def yN : MethodName := ⟨"java/lang/StringUTF16", "compress", "([CI[BII)I"⟩
abbrev yB : ByteArray := jdk_52_method_21_code
theorem d0 : decode yB 0 = .ok (.iconst 0, 1) := by decide +kernel
theorem d1 : decode yB 1 = .ok (.istore 5, 2) := by decide +kernel
theorem d3 : decode yB 3 = .ok (.iload 5, 2) := by decide +kernel
theorem d5 : decode yB 5 = .ok (.iload 4, 2) := by decide +kernel
theorem d7 : decode yB 7 = .ok (.if_icmp (.ge) 37, 3) := by decide +kernel
theorem d10 : decode yB 10 = .ok (.aload_n 0, 1) := by decide +kernel
theorem d11 : decode yB 11 = .ok (.iload_n 1, 1) := by decide +kernel
theorem d12 : decode yB 12 = .ok (.caload, 1) := by decide +kernel
theorem d13 : decode yB 13 = .ok (.istore 6, 2) := by decide +kernel
theorem d15 : decode yB 15 = .ok (.iload 6, 2) := by decide +kernel
theorem d17 : decode yB 17 = .ok (.sipush 255, 3) := by decide +kernel
theorem d20 : decode yB 20 = .ok (.if_icmp (.le) 6, 3) := by decide +kernel
theorem d26 : decode yB 26 = .ok (.aload_n 2, 1) := by decide +kernel
theorem d27 : decode yB 27 = .ok (.iload_n 3, 1) := by decide +kernel
theorem d28 : decode yB 28 = .ok (.iload 6, 2) := by decide +kernel
theorem d30 : decode yB 30 = .ok (.i2b, 1) := by decide +kernel
theorem d31 : decode yB 31 = .ok (.bastore, 1) := by decide +kernel
theorem d32 : decode yB 32 = .ok (.iinc 1 1, 3) := by decide +kernel
theorem d35 : decode yB 35 = .ok (.iinc 3 1, 3) := by decide +kernel
theorem d38 : decode yB 38 = .ok (.iinc 5 1, 3) := by decide +kernel
theorem d41 : decode yB 41 = .ok (.goto (-38), 3) := by decide +kernel
theorem d44 : decode yB 44 = .ok (.iload 4, 2) := by decide +kernel
theorem d46 : decode yB 46 = .ok (.ireturn, 1) := by decide +kernel
def site : List Cond := []
def tab : Cond := tabOf yN yB 7 (some .int) site
def P (b : Addr) (A : Cell) (d : Addr) (B : Cell) (o q len : Nat) (args : Array Value) (s : State) : Prop := args = #[.ref b, .int (Int32.ofNat o), .ref d, .int (Int32.ofNat q), .int (Int32.ofNat len)] ∧ Ch b A s ∧ Arr .byte d B s ∧ b ≠ d ∧ o + len ≤ A.slots.size ∧ q + len ≤ B.slots.size ∧ ∀ i, i < len → ¬ 255 < cv A (o + i)
def E (b : Addr) (A : Cell) (d : Addr) (B : Cell) (o q len : Nat) (r : Option Value) (s u : State) : Prop := r = some (.int (Int32.ofNat len)) ∧ ∃ B', Put d B' s u ∧ Laid B B' q (q + len) (fun j => Value.int (lo8 (cv A (o + (j - q)))))
/-- no char of the range above 255: len; the places written hold each char's low byte -/
theorem law (l : Launch) (b : Addr) (A : Cell) (d : Addr) (B : Cell) (o q len : Nat) : Law l yN 5 5 0 0 yB 7 (some .int) site (P b A d B o q len) (E b A d B o q len) (copyLocs d q len) 0 0 := by
  refine Law.of_walk (plainFor_of_name (by decide +kernel)) (by decide +kernel) (by decide +kernel) (by decide) (fun _ _ h => by rw [h.1]; rfl) (fun _ U U' hal hh h => ⟨h.1, h.2.1.mv hal hh, h.2.2.1.mv hal hh, h.2.2.2⟩) (fun r U U' V V' h1 hal h2 h => ⟨h.1, h.2.elim fun B' q => ⟨B', q.1.mv h1 h2, q.2⟩⟩) ?_
  intro p e s m args below meth c s₁ X0 hexec hbytes hml hret hlk hnm hown hh0 W hP
  obtain ⟨rfl, hA, hB, hne, l1, l2, hp⟩ := hP
  have c1 : Steps p.tables e below (s₁.setTop (entryFrame m #[.ref b, .int (Int32.ofNat o), .ref d, .int (Int32.ofNat q), .int (Int32.ofNat len)] 7)) (s₁.setTop (mkF m 0 #[.val (.ref b), .val (.int (Int32.ofNat o)), .val (.ref d), .val (.int (Int32.ofNat q)), .val (.int (Int32.ofNat len)), .unset, .unset] [])) := entry rfl
  have hA0 := hA.1.mv X0.warmed.alike hh0
  have hB0 := hB.mv X0.warmed.alike hh0
  have a31 := hA.1.2.2.2
  have c2 : Steps p.tables e below (s₁.setTop (entryFrame m #[.ref b, .int (Int32.ofNat o), .ref d, .int (Int32.ofNat q), .int (Int32.ofNat len)] 7)) (s₁.setTop (mkF m 3 #[.val (.ref b), .val (.int (Int32.ofNat o)), .val (.ref d), .val (.int (Int32.ofNat q)), .val (.int (Int32.ofNat len)), .val (.int 0), .unset] [])) := c1.trans (by
    refine iconstV X0.here hexec rfl 0 (hb hbytes d0) (by decide) ?_
    refine XS.istore X0.here hexec rfl (hb hbytes d1) rfl rfl ?_
    exact Steps.refl _)
  have loop : ∀ (r i : Nat), i + r = len → ∀ (z : Slot), (z = .unset ∨ ∃ w, z = .val w ∧ w.category = 1) → ∀ (Tl : State) (Bk : Cell), Stand p l e { frames := 0, locals := 0, cells := 0, slots := 0 } s m #[.ref b, .int (Int32.ofNat o), .ref d, .int (Int32.ofNat q), .int (Int32.ofNat len)] below meth c Tl ([] ++ copyLocs d q i) 0 0 → Put d Bk s₁ Tl → Laid B Bk q (q + i) (fun j => Value.int (lo8 (cv A (o + (j - q))))) →
      Steps p.tables e below (s₁.setTop (entryFrame m #[.ref b, .int (Int32.ofNat o), .ref d, .int (Int32.ofNat q), .int (Int32.ofNat len)] 7)) (Tl.setTop (mkF m 3 #[.val (.ref b), .val (.int (Int32.ofNat (o + i))), .val (.ref d), .val (.int (Int32.ofNat (q + i))), .val (.int (Int32.ofNat len)), .val (.int (Int32.ofNat i)), z] [])) → ∃ (T' : State) (B' : Cell) (z' : Slot), Stand p l e { frames := 0, locals := 0, cells := 0, slots := 0 } s m #[.ref b, .int (Int32.ofNat o), .ref d, .int (Int32.ofNat q), .int (Int32.ofNat len)] below meth c T' ([] ++ copyLocs d q len) 0 0 ∧ Put d B' s₁ T' ∧ Laid B B' q (q + len) (fun j => Value.int (lo8 (cv A (o + (j - q))))) ∧
      Steps p.tables e below (s₁.setTop (entryFrame m #[.ref b, .int (Int32.ofNat o), .ref d, .int (Int32.ofNat q), .int (Int32.ofNat len)] 7)) (T'.setTop (mkF m 3 #[.val (.ref b), .val (.int (Int32.ofNat (o + len))), .val (.ref d), .val (.int (Int32.ofNat (q + len))), .val (.int (Int32.ofNat len)), .val (.int (Int32.ofNat len)), z'] [])) := by
    intro r
    induction r with
    | zero =>
      intro i hi z hz Tl Bk Xl pl fl cl
      have hil : i = len := by omega
      rw [hil] at Xl fl cl
      exact ⟨Tl, Bk, z, Xl, pl, fl, cl⟩
    | succ r ih =>
      intro i hi z hz Tl Bk Xl pl fl cl
      have all := X0.warmed.alike.symm.trans Xl.warmed.alike
      have hAl := hA0.keep all (pl.other hne hA0.1)
      have hBk := hB0.like all pl.1 fl.1 fl.2.1 fl.2.2.1
      have hlt : q + i < Bk.slots.size := by rw [fl.2.2.1]; omega
      have c3 : Steps p.tables e below (s₁.setTop (entryFrame m #[.ref b, .int (Int32.ofNat o), .ref d, .int (Int32.ofNat q), .int (Int32.ofNat len)] 7)) (Tl.setTop (mkF m 12 #[.val (.ref b), .val (.int (Int32.ofNat (o + i))), .val (.ref d), .val (.int (Int32.ofNat (q + i))), .val (.int (Int32.ofNat len)), .val (.int (Int32.ofNat i)), z] [.int (Int32.ofNat (o + i)), .ref b])) := cl.trans (by
        refine XS.iload Xl.here hexec rfl (hb hbytes d3) rfl ?_
        refine XS.iload Xl.here hexec rfl (hb hbytes d5) rfl ?_
        refine XS.icmpNo Xl.here hexec rfl (hb hbytes d7) rfl (ii_ge_f (lt32 (by omega) (by omega))) ?_
        refine XS.aloadN Xl.here hexec rfl (hb hbytes d10) rfl rfl ?_
        refine XS.iloadN Xl.here hexec rfl (hb hbytes d11) rfl ?_
        exact Steps.refl _)
      have c4 : Steps p.tables e below (s₁.setTop (entryFrame m #[.ref b, .int (Int32.ofNat o), .ref d, .int (Int32.ofNat q), .int (Int32.ofNat len)] 7)) (Tl.setTop (mkF m 13 #[.val (.ref b), .val (.int (Int32.ofNat (o + i))), .val (.ref d), .val (.int (Int32.ofNat (q + i))), .val (.int (Int32.ofNat len)), .val (.int (Int32.ofNat i)), z] [.int (cv A (o + i))])) := c3.trans (by
        refine Xl.aget hexec hAl rfl (hA.get (i := o + i) (by omega)) rfl rfl (hb hbytes d12) ?_
        exact Steps.refl _)
      have c5 : Steps p.tables e below (s₁.setTop (entryFrame m #[.ref b, .int (Int32.ofNat o), .ref d, .int (Int32.ofNat q), .int (Int32.ofNat len)] 7)) (Tl.setTop (mkF m 15 #[.val (.ref b), .val (.int (Int32.ofNat (o + i))), .val (.ref d), .val (.int (Int32.ofNat (q + i))), .val (.int (Int32.ofNat len)), .val (.int (Int32.ofNat i)), .val (.int (cv A (o + i)))] [])) := c4.trans (by
        refine XS.istoreS Xl.here hexec rfl (hb hbytes d13) rfl rfl hz ?_
        exact Steps.refl _)
      have c6 : Steps p.tables e below (s₁.setTop (entryFrame m #[.ref b, .int (Int32.ofNat o), .ref d, .int (Int32.ofNat q), .int (Int32.ofNat len)] 7)) (Tl.setTop (mkF m 31 #[.val (.ref b), .val (.int (Int32.ofNat (o + i))), .val (.ref d), .val (.int (Int32.ofNat (q + i))), .val (.int (Int32.ofNat len)), .val (.int (Int32.ofNat i)), .val (.int (cv A (o + i)))] [.int (lo8 (cv A (o + i))), .int (Int32.ofNat (q + i)), .ref d])) := c5.trans (by
        refine XS.iload Xl.here hexec rfl (hb hbytes d15) rfl ?_
        refine sipushV Xl.here hexec rfl 255 (hb hbytes d17) (by decide) ?_
        refine XS.icmpYes Xl.here hexec rfl (pc0 := 20) rfl (hb hbytes d20) rfl (ii_le_t (hp i (by omega))) (by decide) rfl ?_
        refine XS.aloadN Xl.here hexec rfl (hb hbytes d26) rfl rfl ?_
        refine XS.iloadN Xl.here hexec rfl (hb hbytes d27) rfl ?_
        refine XS.iload Xl.here hexec rfl (hb hbytes d28) rfl ?_
        refine i2b Xl.here hexec rfl (hb hbytes d30) rfl ?_
        exact Steps.refl _)
      obtain ⟨T7, X7, p7, st7⟩ := Xl.aput hexec hBk rfl hlt rfl (fits_lo8 (cv A (o + i))) (g := (mkF m 31 #[.val (.ref b), .val (.int (Int32.ofNat (o + i))), .val (.ref d), .val (.int (Int32.ofNat (q + i))), .val (.int (Int32.ofNat len)), .val (.int (Int32.ofNat i)), .val (.int (cv A (o + i)))] [.int (lo8 (cv A (o + i))), .int (Int32.ofNat (q + i)), .ref d])) rfl (rest := []) rfl (hb hbytes d31)
      have c8 : Steps p.tables e below (s₁.setTop (entryFrame m #[.ref b, .int (Int32.ofNat o), .ref d, .int (Int32.ofNat q), .int (Int32.ofNat len)] 7)) (T7.setTop (mkF m 32 #[.val (.ref b), .val (.int (Int32.ofNat (o + i))), .val (.ref d), .val (.int (Int32.ofNat (q + i))), .val (.int (Int32.ofNat len)), .val (.int (Int32.ofNat i)), .val (.int (cv A (o + i)))] [])) := c6.trans (st7 _ (Steps.refl _))
      have c9 : Steps p.tables e below (s₁.setTop (entryFrame m #[.ref b, .int (Int32.ofNat o), .ref d, .int (Int32.ofNat q), .int (Int32.ofNat len)] 7)) (T7.setTop (mkF m 3 #[.val (.ref b), .val (.int (Int32.ofNat (o + i) + 1)), .val (.ref d), .val (.int (Int32.ofNat (q + i) + 1)), .val (.int (Int32.ofNat len)), .val (.int (Int32.ofNat i + 1)), .val (.int (cv A (o + i)))] [])) := c8.trans (by
        refine iincV X7.here hexec rfl 1 (hb hbytes d32) (by decide) rfl rfl ?_
        refine iincV X7.here hexec rfl 1 (hb hbytes d35) (by decide) rfl rfl ?_
        refine iincV X7.here hexec rfl 1 (hb hbytes d38) (by decide) rfl rfl ?_
        refine XS.goto X7.here hexec rfl (pc0 := 41) rfl (hb hbytes d41) (by decide) rfl ?_
        exact Steps.refl _)
      have c10 : Steps p.tables e below (s₁.setTop (entryFrame m #[.ref b, .int (Int32.ofNat o), .ref d, .int (Int32.ofNat q), .int (Int32.ofNat len)] 7)) (T7.setTop (mkF m 3 #[.val (.ref b), .val (.int (Int32.ofNat (o + (i + 1)))), .val (.ref d), .val (.int (Int32.ofNat (q + (i + 1)))), .val (.int (Int32.ofNat len)), .val (.int (Int32.ofNat (i + 1))), .val (.int (cv A (o + i)))] [])) := by
        have := c9
        rw [succ32, succ32, succ32] at this
        exact this
      exact ih (i + 1) (by omega) _ (Or.inr ⟨_, rfl, rfl⟩) T7 _ (by rw [copyLocs_step, ← List.append_assoc]; exact X7) (pl.trans p7) (fl.step (by omega) hlt (by simp)) c10
  obtain ⟨T9, B9, z9, X9, p9, f9, g9⟩ := loop len 0 (by omega) .unset (Or.inl rfl) s₁ B (by simpa [copyLocs] using X0) ⟨hB0.1, fun _ _ => rfl, rfl⟩ (Laid.zero _ _ _) c2
  have c11 : Steps p.tables e below (s₁.setTop (entryFrame m #[.ref b, .int (Int32.ofNat o), .ref d, .int (Int32.ofNat q), .int (Int32.ofNat len)] 7)) (T9.setTop (mkF m 46 #[.val (.ref b), .val (.int (Int32.ofNat (o + len))), .val (.ref d), .val (.int (Int32.ofNat (q + len))), .val (.int (Int32.ofNat len)), .val (.int (Int32.ofNat len)), z9] [.int (Int32.ofNat len)])) := g9.trans (by
    refine XS.iload X9.here hexec rfl (hb hbytes d3) rfl ?_
    refine XS.iload X9.here hexec rfl (hb hbytes d5) rfl ?_
    refine XS.icmpYes X9.here hexec rfl (pc0 := 7) rfl (hb hbytes d7) rfl (ii_ge_t (nlt32 (by omega) (Nat.le_refl _))) (by decide) rfl ?_
    refine XS.iload X9.here hexec rfl (hb hbytes d44) rfl ?_
    exact Steps.refl _)
  exact ⟨T9, some (.int (Int32.ofNat len)), _, _, _, X9, by simp, rfl, rfl, (fun h => by cases h), ⟨rfl, B9, p9.from hh0, f9⟩, fun fs hl => c11.trans (X9.ireturnOut hexec hret rfl (Or.inl rfl) (hb hbytes d46) hl)⟩
end Cmp5
namespace Cmp3
def yN : MethodName := ⟨"java/lang/StringUTF16", "compress", "([CII)[B"⟩
abbrev yB : ByteArray := jdk_52_method_16_code
theorem d0 : decode yB 0 = .ok (.iload_n 2, 1) := by decide +kernel
theorem d1 : decode yB 1 = .ok (.newarray .byte, 2) := by decide +kernel
theorem d3 : decode yB 3 = .ok (.astore_n 3, 1) := by decide +kernel
theorem d4 : decode yB 4 = .ok (.aload_n 0, 1) := by decide +kernel
theorem d5 : decode yB 5 = .ok (.iload_n 1, 1) := by decide +kernel
theorem d6 : decode yB 6 = .ok (.aload_n 3, 1) := by decide +kernel
theorem d7 : decode yB 7 = .ok (.iconst 0, 1) := by decide +kernel
theorem d8 : decode yB 8 = .ok (.iload_n 2, 1) := by decide +kernel
theorem d9 : decode yB 9 = .ok (.invokestatic 115, 3) := by decide +kernel
theorem d12 : decode yB 12 = .ok (.istore 4, 2) := by decide +kernel
theorem d14 : decode yB 14 = .ok (.iload 4, 2) := by decide +kernel
theorem d16 : decode yB 16 = .ok (.iload_n 2, 1) := by decide +kernel
theorem d17 : decode yB 17 = .ok (.if_icmp (.eq) 40, 3) := by decide +kernel
theorem d57 : decode yB 57 = .ok (.aload_n 3, 1) := by decide +kernel
theorem d58 : decode yB 58 = .ok (.areturn, 1) := by decide +kernel
def site : List Cond := [.arrayClass .byte, Cmp5.tab] ++ staticW U16 115 Cmp5.yN
def tab : Cond := tabOf yN yB 6 (some (.array .byte)) site
def P (b : Addr) (A : Cell) (o len : Nat) (args : Array Value) (s : State) : Prop := args = #[.ref b, .int (Int32.ofNat o), .int (Int32.ofNat len)] ∧ Ch b A s ∧ o + len ≤ A.slots.size ∧ len ≤ 536870912 ∧ ∀ i, i < len → ¬ 255 < cv A (o + i)
def E (b : Addr) (A : Cell) (o len : Nat) (r : Option Value) (s u : State) : Prop := NewArr .byte "[B" len (fun j => .int (lo8 (cv A (o + j)))) r s u ∧ u.heap.size = s.heap.size + 1
/-- no char of the range above 255: a new byte[] of their low bytes -/
theorem law (l : Launch) (b : Addr) (A : Cell) (o len : Nat) : Law l yN 3 3 1 18 yB 6 (some (.array .byte)) site (P b A o len) (E b A o len) [] 1 len := by
  refine Law.of_walk (plainFor_of_name (by decide +kernel)) (by decide +kernel) (by decide +kernel) (by decide) (fun _ _ h => by rw [h.1]; rfl) (fun _ U U' hal hh h => ⟨h.1, h.2.1.mv hal hh, h.2.2⟩) (fun r U U' V V' h1 hal h2 h => ⟨NewArr.mv r U U' V V' h1 hal h2 h.1, by rw [h1, h2]; exact h.2⟩) ?_
  intro p e s m args below meth c s₁ X0 hexec hbytes hml hret hlk hnm hown hh0 W hP
  obtain ⟨rfl, hA, l1, l2, hp⟩ := hP
  have a31 := hA.1.2.2.2
  have c1 : Steps p.tables e below (s₁.setTop (entryFrame m #[.ref b, .int (Int32.ofNat o), .int (Int32.ofNat len)] 6)) (s₁.setTop (mkF m 0 #[.val (.ref b), .val (.int (Int32.ofNat o)), .val (.int (Int32.ofNat len)), .unset, .unset, .unset] [])) := entry rfl
  have c2 : Steps p.tables e below (s₁.setTop (entryFrame m #[.ref b, .int (Int32.ofNat o), .int (Int32.ofNat len)] 6)) (s₁.setTop (mkF m 1 #[.val (.ref b), .val (.int (Int32.ofNat o)), .val (.int (Int32.ofNat len)), .unset, .unset, .unset] [.int (Int32.ofNat len)])) := c1.trans (by
    refine XS.iloadN X0.here hexec rfl (hb hbytes d0) rfl ?_
    exact Steps.refl _)
  obtain ⟨T3, B3, X3, ba3, bs3, bv3, bh3, bf3, st3⟩ := X0.anew hexec (atype := .byte) (wk W (.arrayClass .byte)) rfl (by show len * 1 ≤ _; omega) (by omega) (g := (mkF m 1 #[.val (.ref b), .val (.int (Int32.ofNat o)), .val (.int (Int32.ofNat len)), .unset, .unset, .unset] [.int (Int32.ofNat len)])) rfl (hb hbytes d1) (rest := []) rfl (Nat.le_refl _) (by show 0 + len ≤ len; omega)
  rw [hh0] at ba3 st3
  have kp3 : XT.Kept s T3 := (XT.Kept.of_eq hh0).push bh3
  have hA3 := hA.keep X3.warmed.alike (kp3 _ _ hA.1.1)
  have hne : b ≠ s.heap.size := hA.1.ne
  have c4 : Steps p.tables e below (s₁.setTop (entryFrame m #[.ref b, .int (Int32.ofNat o), .int (Int32.ofNat len)] 6)) (T3.setTop (mkF m 3 #[.val (.ref b), .val (.int (Int32.ofNat o)), .val (.int (Int32.ofNat len)), .unset, .unset, .unset] [.ref s.heap.size])) := c2.trans (st3 _ (Steps.refl _))
  have c5 : Steps p.tables e below (s₁.setTop (entryFrame m #[.ref b, .int (Int32.ofNat o), .int (Int32.ofNat len)] 6)) (T3.setTop (mkF m 9 #[.val (.ref b), .val (.int (Int32.ofNat o)), .val (.int (Int32.ofNat len)), .val (.ref s.heap.size), .unset, .unset] [.int (Int32.ofNat len), .int 0, .ref s.heap.size, .int (Int32.ofNat o), .ref b])) := c4.trans (by
    refine XS.astoreN X3.here hexec rfl (hb hbytes d3) rfl rfl rfl ?_
    refine XS.aloadN X3.here hexec rfl (hb hbytes d4) rfl rfl ?_
    refine XS.iloadN X3.here hexec rfl (hb hbytes d5) rfl ?_
    refine XS.aloadN X3.here hexec rfl (hb hbytes d6) rfl rfl ?_
    refine iconstV X3.here hexec rfl 0 (hb hbytes d7) (by decide) ?_
    refine XS.iloadN X3.here hexec rfl (hb hbytes d8) rfl ?_
    exact Steps.refl _)
  obtain ⟨v6, T6, X6, E6, g6⟩ := X3.callS hexec (Cmp5.law l b A s.heap.size B3 o 0 len) hown (wks W (staticW U16 115 Cmp5.yN)) (wk W Cmp5.tab) (W := 0) (Nat.le_of_ble_eq_true rfl) (Nat.le_of_ble_eq_true rfl) (Nat.le_refl _) (by show 0 + len + 0 ≤ len; omega) (g := (mkF m 9 #[.val (.ref b), .val (.int (Int32.ofNat o)), .val (.int (Int32.ofNat len)), .val (.ref s.heap.size), .unset, .unset] [.int (Int32.ofNat len), .int (Int32.ofNat 0), .ref s.heap.size, .int (Int32.ofNat o), .ref b])) rfl (by rw [hml]; rfl) c5 (argsL := [.ref b, .int (Int32.ofNat o), .ref s.heap.size, .int (Int32.ofNat 0), .int (Int32.ofNat len)]) (rest := []) rfl rfl (by show 2 * 0 + 0 ≤ _; decide) (hb hbytes d9) (⟨rfl, hA3, ba3, hne, l1, by rw [bs3]; simp, hp⟩)
  obtain ⟨rfl, B6, p6, f6⟩ := E6
  have c7 : Steps p.tables e below (s₁.setTop (entryFrame m #[.ref b, .int (Int32.ofNat o), .int (Int32.ofNat len)] 6)) (T6.setTop (mkF m 12 #[.val (.ref b), .val (.int (Int32.ofNat o)), .val (.int (Int32.ofNat len)), .val (.ref s.heap.size), .unset, .unset] [.int (Int32.ofNat len)])) := g6
  have c8 : Steps p.tables e below (s₁.setTop (entryFrame m #[.ref b, .int (Int32.ofNat o), .int (Int32.ofNat len)] 6)) (T6.setTop (mkF m 58 #[.val (.ref b), .val (.int (Int32.ofNat o)), .val (.int (Int32.ofNat len)), .val (.ref s.heap.size), .val (.int (Int32.ofNat len)), .unset] [.ref s.heap.size])) := c7.trans (by
    refine XS.istore X6.here hexec rfl (hb hbytes d12) rfl rfl ?_
    refine XS.iload X6.here hexec rfl (hb hbytes d14) rfl ?_
    refine XS.iloadN X6.here hexec rfl (hb hbytes d16) rfl ?_
    refine XS.icmpYes X6.here hexec rfl (pc0 := 17) rfl (hb hbytes d17) rfl (ii_eq_t rfl) (by decide) rfl ?_
    refine XS.aloadN X6.here hexec rfl (hb hbytes d57) rfl rfl ?_
    exact Steps.refl _)
  have X8 := X6.wide (L' := []) (cells' := 1) (slots' := len) (fun x hx hlt => by
    simp only [List.nil_append, copyLocs, List.mem_map, List.mem_range] at hx
    obtain ⟨i, -, rfl⟩ := hx
    exact absurd hlt (Nat.lt_irrefl _)) (Nat.le_refl _) (by omega)
  exact ⟨T6, some (.ref s.heap.size), _, _, _, X8, rfl, rfl, rfl, (fun h => by cases h), ⟨⟨rfl, B6, ba3.like (X3.warmed.alike.symm.trans X6.warmed.alike) p6.1 f6.1 f6.2.1 f6.2.2.1, f6.2.1.trans bv3, by rw [X6.warmed.alike.findClass, f6.1]; exact bf3, by rw [f6.2.2.1, bs3]; simp, fun j hj => by rw [f6.2.2.2 j, if_pos (by omega)]; rfl, kp3.put p6 (Nat.le_refl _)⟩, by rw [p6.2.2, bh3, hh0]; simp⟩, fun fs hl => c8.trans (X8.areturnOut hexec rfl hret rfl (hb hbytes d58) hl)⟩
end Cmp3
namespace CodL
def yN : MethodName := ⟨"java/lang/StringUTF16", "coderFromArrayLen", "([BI)B"⟩
abbrev yB : ByteArray := jdk_52_method_15_code
theorem d0 : decode yB 0 = .ok (.iload_n 1, 1) := by decide +kernel
theorem d1 : decode yB 1 = .ok (.aload_n 0, 1) := by decide +kernel
theorem d2 : decode yB 2 = .ok (.arraylength, 1) := by decide +kernel
theorem d3 : decode yB 3 = .ok (.isub, 1) := by decide +kernel
theorem d4 : decode yB 4 = .ok (.bipush 31, 2) := by decide +kernel
theorem d6 : decode yB 6 = .ok (.iushr, 1) := by decide +kernel
theorem d7 : decode yB 7 = .ok (.i2b, 1) := by decide +kernel
theorem d8 : decode yB 8 = .ok (.ireturn, 1) := by decide +kernel
def site : List Cond := []
def tab : Cond := tabOf yN yB 2 (some .byte) site
def P (d : Addr) (B : Cell) (args : Array Value) (s : State) : Prop := args = #[.ref d, .int (Int32.ofNat B.slots.size)] ∧ Arr .byte d B s
def E (r : Option Value) (s u : State) : Prop := XT.PureE (some (.int 0)) r s u
/-- an array as long as the number of chars: LATIN1 -/
theorem law (l : Launch) (d : Addr) (B : Cell) : Law l yN 2 2 0 0 yB 2 (some .byte) site (P d B) E [] 0 0 := by
  refine Law.of_walk (plainFor_of_name (by decide +kernel)) (by decide +kernel) (by decide +kernel) (by decide) (fun _ _ h => by rw [h.1]; rfl) (fun _ U U' hal hh h => ⟨h.1, h.2.mv hal hh⟩) (fun r U U' V V' h1 hal h2 h => XT.PureE.mv r U U' V V' h1 hal h2 h) ?_
  intro p e s m args below meth c s₁ X0 hexec hbytes hml hret hlk hnm hown hh0 W hP
  obtain ⟨rfl, hB⟩ := hP
  have hB0 := hB.mv X0.warmed.alike hh0
  have c1 : Steps p.tables e below (s₁.setTop (entryFrame m #[.ref d, .int (Int32.ofNat B.slots.size)] 2)) (s₁.setTop (mkF m 0 #[.val (.ref d), .val (.int (Int32.ofNat B.slots.size))] [])) := entry rfl
  have c2 : Steps p.tables e below (s₁.setTop (entryFrame m #[.ref d, .int (Int32.ofNat B.slots.size)] 2)) (s₁.setTop (mkF m 2 #[.val (.ref d), .val (.int (Int32.ofNat B.slots.size))] [.ref d, .int (Int32.ofNat B.slots.size)])) := c1.trans (by
    refine XS.iloadN X0.here hexec rfl (hb hbytes d0) rfl ?_
    refine XS.aloadN X0.here hexec rfl (hb hbytes d1) rfl rfl ?_
    exact Steps.refl _)
  have c3 : Steps p.tables e below (s₁.setTop (entryFrame m #[.ref d, .int (Int32.ofNat B.slots.size)] 2)) (s₁.setTop (mkF m 8 #[.val (.ref d), .val (.int (Int32.ofNat B.slots.size))] [.int (lo8 (ushr (Int32.ofNat B.slots.size - Int32.ofNat B.slots.size) 31))])) := c2.trans (by
    refine X0.alen hexec hB0 rfl rfl (hb hbytes d2) ?_
    refine XS.isub X0.here hexec rfl (hb hbytes d3) rfl ?_
    refine bipushV X0.here hexec rfl 31 (hb hbytes d4) (by decide) ?_
    refine iushr X0.here hexec rfl (hb hbytes d6) rfl ?_
    refine i2b X0.here hexec rfl (hb hbytes d7) rfl ?_
    exact Steps.refl _)
  have e0 : lo8 (ushr (Int32.ofNat B.slots.size - Int32.ofNat B.slots.size) 31) = 0 := by rw [Int32.sub_self]; decide
  rw [e0] at c3
  exact ⟨s₁, some (.int 0), _, _, _, X0, rfl, rfl, rfl, (fun h => by cases h), ⟨rfl, hh0⟩, fun fs hl => c3.trans (X0.ireturnOut hexec hret rfl (Or.inr (Or.inr (Or.inl rfl))) (hb hbytes d8) hl)⟩
end CodL
/-- the String at a is Latin-1 over a new byte[] (the heap's one new cell): the low bytes of the len chars of A from o on; every cell but a is kept -/
def Got (a : Addr) (D : Cell) (fV fC : Field) (A : Cell) (o len : Nat) (r : Option Value) (s u : State) : Prop := r = none ∧ ∃ D' V : Cell, Blank "java/lang/String" a D' u ∧ Same D D' [fV.slot, fC.slot] ∧ D'.slots[fV.slot]? = some (.ref s.heap.size) ∧ D'.slots[fC.slot]? = some (.int 0) ∧ Arr .byte s.heap.size V u ∧ V.vm = .none ∧ u.vm.findClass "[B" = some V.cls ∧ V.slots.size = len ∧ (∀ j, j < len → V.slots[j]? = some (.int (lo8 (cv A (o + j))))) ∧ (∀ (y : Addr) (c : Cell), y ≠ a → s.heap[y]? = some c → u.heap[y]? = some c) ∧ u.heap.size = s.heap.size + 1
theorem Got.mv {a : Addr} {D A : Cell} {fV fC : Field} {o len : Nat} : ∀ r (U U' V V' : State), U'.heap = U.heap → V.vm.Alike V'.vm → V'.heap = V.heap → Got a D fV fC A o len r U V → Got a D fV fC A o len r U' V' :=
  fun r U U' V V' h1 hal h2 ⟨e0, D', X, a1, a2, a3, a4, a5, a6, a7, a8, a9, a10, a11⟩ => ⟨e0, D', X, a1.mv hal h2, a2, by rw [h1]; exact a3, a4, by rw [h1]; exact a5.mv hal h2, a6, by rw [hal.findClass]; exact a7, a8, a9, by rw [h1, h2]; exact a10, by rw [h1, h2]; exact a11⟩
namespace New4
def yN : MethodName := ⟨"java/lang/String", "<init>", "([CIILjava/lang/Void;)V"⟩
abbrev yB : ByteArray := jdk_42_method_149_code
theorem d0 : decode yB 0 = .ok (.aload_n 0, 1) := by decide +kernel
theorem d1 : decode yB 1 = .ok (.invokespecial 1, 3) := by decide +kernel
theorem d4 : decode yB 4 = .ok (.iload_n 3, 1) := by decide +kernel
theorem d5 : decode yB 5 = .ok (.ifCond (.ne) 22, 3) := by decide +kernel
theorem d27 : decode yB 27 = .ok (.getstatic 38, 3) := by decide +kernel
theorem d30 : decode yB 30 = .ok (.ifCond (.eq) 28, 3) := by decide +kernel
theorem d33 : decode yB 33 = .ok (.aload_n 1, 1) := by decide +kernel
theorem d34 : decode yB 34 = .ok (.iload_n 2, 1) := by decide +kernel
theorem d35 : decode yB 35 = .ok (.iload_n 3, 1) := by decide +kernel
theorem d36 : decode yB 36 = .ok (.invokestatic 177, 3) := by decide +kernel
theorem d39 : decode yB 39 = .ok (.astore 5, 2) := by decide +kernel
theorem d41 : decode yB 41 = .ok (.aload_n 0, 1) := by decide +kernel
theorem d42 : decode yB 42 = .ok (.aload 5, 2) := by decide +kernel
theorem d44 : decode yB 44 = .ok (.iload_n 3, 1) := by decide +kernel
theorem d45 : decode yB 45 = .ok (.invokestatic 47, 3) := by decide +kernel
theorem d48 : decode yB 48 = .ok (.putfield 15, 3) := by decide +kernel
theorem d51 : decode yB 51 = .ok (.aload_n 0, 1) := by decide +kernel
theorem d52 : decode yB 52 = .ok (.aload 5, 2) := by decide +kernel
theorem d54 : decode yB 54 = .ok (.putfield 9, 3) := by decide +kernel
theorem d57 : decode yB 57 = .ok (.return_, 1) := by decide +kernel
def site : List Cond := [.fieldLink "java/lang/String" 38 "java/lang/String" "COMPACT_STRINGS" "Z", Cmp3.tab, CodL.tab, .laysFinal "java/lang/String" "java/lang/String" "value" "[B", .fieldLink "java/lang/String" 9 "java/lang/String" "value" "[B", .laysFinal "java/lang/String" "java/lang/String" "coder" "B", .fieldLink "java/lang/String" 15 "java/lang/String" "coder" "B"] ++ objW "java/lang/String" 1 ++ staticW "java/lang/String" 177 Cmp3.yN ++ staticW "java/lang/String" 47 CodL.yN
def tab : Cond := tabOf yN yB 6 none site
def P (a : Addr) (D : Cell) (fV fC : Field) (b : Addr) (A : Cell) (z : Int32) (o len : Nat) (args : Array Value) (s : State) : Prop := args = #[.ref a, .ref b, .int (Int32.ofNat o), .int (Int32.ofNat len), .null] ∧ Blank "java/lang/String" a D s ∧ Found "java/lang/String" "value" "[B" fV s ∧ Found "java/lang/String" "coder" "B" fC s ∧ Ch b A s ∧ StaticIs s "java/lang/String" "COMPACT_STRINGS" "Z" (.int z) ∧ ¬ z = 0 ∧ 0 < len ∧ o + len ≤ A.slots.size ∧ len ≤ 536870912 ∧ ∀ i, i < len → ¬ 255 < cv A (o + i)
def E (a : Addr) (D : Cell) (fV fC : Field) (A : Cell) (o len : Nat) (r : Option Value) (s u : State) : Prop := Got a D fV fC A o len r s u
/-- len > 0, no char of the range above 255: a Latin-1 String of their low bytes -/
theorem law (l : Launch) (a : Addr) (D : Cell) (fV fC : Field) (b : Addr) (A : Cell) (z : Int32) (o len : Nat) : Law l yN 5 4 2 35 yB 6 none site (P a D fV fC b A z o len) (E a D fV fC A o len) [⟨a, fC.slot⟩, ⟨a, fV.slot⟩] 1 len := by
  refine Law.of_walk (plainFor_of_name (by decide +kernel)) (by decide +kernel) (by decide +kernel) (by decide) (fun _ _ h => by rw [h.1]; rfl) (fun _ U U' hal hh h => ⟨h.1, h.2.1.mv hal hh, h.2.2.1.al hal, h.2.2.2.1.al hal, h.2.2.2.2.1.mv hal hh, h.2.2.2.2.2.1.there hal hh, h.2.2.2.2.2.2⟩) (fun r U U' V V' h1 hal h2 h => Got.mv r U U' V V' h1 hal h2 h) ?_
  intro p e s m args below meth c s₁ X0 hexec hbytes hml hret hlk hnm hown hh0 W hP
  obtain ⟨rfl, hB, f1, f2, hA, s1, hz, l0, l1, l2, hp⟩ := hP
  have a31 := hA.1.2.2.2
  have c1 : Steps p.tables e below (s₁.setTop (entryFrame m #[.ref a, .ref b, .int (Int32.ofNat o), .int (Int32.ofNat len), .null] 6)) (s₁.setTop (mkF m 0 #[.val (.ref a), .val (.ref b), .val (.int (Int32.ofNat o)), .val (.int (Int32.ofNat len)), .val .null, .unset] [])) := entry rfl
  have c2 : Steps p.tables e below (s₁.setTop (entryFrame m #[.ref a, .ref b, .int (Int32.ofNat o), .int (Int32.ofNat len), .null] 6)) (s₁.setTop (mkF m 1 #[.val (.ref a), .val (.ref b), .val (.int (Int32.ofNat o)), .val (.int (Int32.ofNat len)), .val .null, .unset] [.ref a])) := c1.trans (by
    refine XS.aloadN X0.here hexec rfl (hb hbytes d0) rfl rfl ?_
    exact Steps.refl _)
  obtain ⟨T3, X3, q3, st3⟩ := X0.oinit hexec hown (wks W (objW "java/lang/String" 1)) (g := (mkF m 1 #[.val (.ref a), .val (.ref b), .val (.int (Int32.ofNat o)), .val (.int (Int32.ofNat len)), .val .null, .unset] [.ref a])) rfl (by rw [hml]; rfl) (rest := []) rfl (hb hbytes d1) (W := 0) (by show 2 * 0 + 0 ≤ _; decide) (Nat.le_of_ble_eq_true rfl) (Nat.le_of_ble_eq_true rfl)
  have hh3 := q3.trans hh0
  have c4 : Steps p.tables e below (s₁.setTop (entryFrame m #[.ref a, .ref b, .int (Int32.ofNat o), .int (Int32.ofNat len), .null] 6)) (T3.setTop (mkF m 27 #[.val (.ref a), .val (.ref b), .val (.int (Int32.ofNat o)), .val (.int (Int32.ofNat len)), .val .null, .unset] [])) := (c2.trans (st3 _ (Steps.refl _))).trans (by
    refine XS.iloadN X3.here hexec rfl (hb hbytes d4) rfl ?_
    refine XS.ifYes X3.here hexec rfl (pc0 := 5) rfl (hb hbytes d5) rfl (i0_ne_t (nz32 (by omega) l0)) (by decide) rfl ?_
    exact Steps.refl _)
  obtain ⟨T5, X5, q5, st5⟩ := X3.sget hexec hown (wk W (.fieldLink "java/lang/String" 38 "java/lang/String" "COMPACT_STRINGS" "Z")) s1 (fun _ _ h => by rw [hh3]; exact h) (g := (mkF m 27 #[.val (.ref a), .val (.ref b), .val (.int (Int32.ofNat o)), .val (.int (Int32.ofNat len)), .val .null, .unset] [])) rfl (hb hbytes d27)
  have hh5 := q5.trans hh3
  have c6 : Steps p.tables e below (s₁.setTop (entryFrame m #[.ref a, .ref b, .int (Int32.ofNat o), .int (Int32.ofNat len), .null] 6)) (T5.setTop (mkF m 30 #[.val (.ref a), .val (.ref b), .val (.int (Int32.ofNat o)), .val (.int (Int32.ofNat len)), .val .null, .unset] [.int z])) := c4.trans (st5 _ (Steps.refl _))
  have c7 : Steps p.tables e below (s₁.setTop (entryFrame m #[.ref a, .ref b, .int (Int32.ofNat o), .int (Int32.ofNat len), .null] 6)) (T5.setTop (mkF m 36 #[.val (.ref a), .val (.ref b), .val (.int (Int32.ofNat o)), .val (.int (Int32.ofNat len)), .val .null, .unset] [.int (Int32.ofNat len), .int (Int32.ofNat o), .ref b])) := c6.trans (by
    refine XS.ifNo X5.here hexec rfl (hb hbytes d30) rfl (i0_eq_f hz) ?_
    refine XS.aloadN X5.here hexec rfl (hb hbytes d33) rfl rfl ?_
    refine XS.iloadN X5.here hexec rfl (hb hbytes d34) rfl ?_
    refine XS.iloadN X5.here hexec rfl (hb hbytes d35) rfl ?_
    exact Steps.refl _)
  obtain ⟨v8, T8, X8, E8, g8⟩ := X5.callS hexec (Cmp3.law l b A o len) hown (wks W (staticW "java/lang/String" 177 Cmp3.yN)) (wk W Cmp3.tab) (W := 0) (Nat.le_of_ble_eq_true rfl) (Nat.le_of_ble_eq_true rfl) (Nat.le_refl _) (by show 0 + len ≤ len; omega) (g := (mkF m 36 #[.val (.ref a), .val (.ref b), .val (.int (Int32.ofNat o)), .val (.int (Int32.ofNat len)), .val .null, .unset] [.int (Int32.ofNat len), .int (Int32.ofNat o), .ref b])) rfl (by rw [hml]; rfl) c7 (argsL := [.ref b, .int (Int32.ofNat o), .int (Int32.ofNat len)]) (rest := []) rfl rfl (by show 2 * 0 + 0 ≤ _; decide) (hb hbytes d36) (⟨rfl, hA.mv X5.warmed.alike hh5, l1, l2, hp⟩)
  obtain ⟨e8, z8⟩ := E8
  obtain ⟨rfl, N, n1, n2, n3, n4, n5, n6⟩ := NewArr.mv _ T5 s _ _ hh5.symm (Vm.Alike.refl _) rfl e8
  rw [hh5] at z8
  have hB1 := hB.keep X8.warmed.alike (n6 _ _ hB.1)
  have hne : s.heap.size ≠ a := (Nat.ne_of_lt (Array.getElem?_eq_some_iff.mp hB.1).1).symm
  have c9 : Steps p.tables e below (s₁.setTop (entryFrame m #[.ref a, .ref b, .int (Int32.ofNat o), .int (Int32.ofNat len), .null] 6)) (T8.setTop (mkF m 39 #[.val (.ref a), .val (.ref b), .val (.int (Int32.ofNat o)), .val (.int (Int32.ofNat len)), .val .null, .unset] [.ref s.heap.size])) := g8
  have c10 : Steps p.tables e below (s₁.setTop (entryFrame m #[.ref a, .ref b, .int (Int32.ofNat o), .int (Int32.ofNat len), .null] 6)) (T8.setTop (mkF m 45 #[.val (.ref a), .val (.ref b), .val (.int (Int32.ofNat o)), .val (.int (Int32.ofNat len)), .val .null, .val (.ref s.heap.size)] [.int (Int32.ofNat N.slots.size), .ref s.heap.size, .ref a])) := by
    have hc : Steps p.tables e below (s₁.setTop (entryFrame m #[.ref a, .ref b, .int (Int32.ofNat o), .int (Int32.ofNat len), .null] 6)) (T8.setTop (mkF m 45 #[.val (.ref a), .val (.ref b), .val (.int (Int32.ofNat o)), .val (.int (Int32.ofNat len)), .val .null, .val (.ref s.heap.size)] [.int (Int32.ofNat len), .ref s.heap.size, .ref a])) := c9.trans (by
      refine XS.astore X8.here hexec rfl (hb hbytes d39) rfl rfl rfl ?_
      refine XS.aloadN X8.here hexec rfl (hb hbytes d41) rfl rfl ?_
      refine XS.aload X8.here hexec rfl (hb hbytes d42) rfl rfl ?_
      refine XS.iloadN X8.here hexec rfl (hb hbytes d44) rfl ?_
      exact Steps.refl _)
    rw [n4]; exact hc
  obtain ⟨v11, T11, X11, E11, g11⟩ := X8.callS hexec (CodL.law l s.heap.size N) hown (wks W (staticW "java/lang/String" 47 CodL.yN)) (wk W CodL.tab) (W := 1) (Nat.le_of_ble_eq_true rfl) (Nat.le_of_ble_eq_true rfl) (Nat.le_refl _) (by show 0 + len + 0 ≤ len; omega) (g := (mkF m 45 #[.val (.ref a), .val (.ref b), .val (.int (Int32.ofNat o)), .val (.int (Int32.ofNat len)), .val .null, .val (.ref s.heap.size)] [.int (Int32.ofNat N.slots.size), .ref s.heap.size, .ref a])) rfl (by rw [hml]; rfl) c10 (argsL := [.ref s.heap.size, .int (Int32.ofNat N.slots.size)]) (rest := [.ref a]) rfl rfl (by show 2 * 0 + (1 + 0) ≤ _; decide) (hb hbytes d45) (⟨rfl, n1⟩)
  obtain ⟨rfl, q11⟩ := E11
  have hB11 := hB1.mv (X8.warmed.alike.symm.trans X11.warmed.alike) q11
  have c12 : Steps p.tables e below (s₁.setTop (entryFrame m #[.ref a, .ref b, .int (Int32.ofNat o), .int (Int32.ofNat len), .null] 6)) (T11.setTop (mkF m 48 #[.val (.ref a), .val (.ref b), .val (.int (Int32.ofNat o)), .val (.int (Int32.ofNat len)), .val .null, .val (.ref s.heap.size)] [.int 0, .ref a])) := g11
  obtain ⟨T13, X13, p13, bl13, sl13, st13⟩ := X11.finit hexec hown (wk W (.fieldLink "java/lang/String" 15 "java/lang/String" "coder" "B")) (Or.inr ⟨_, (wk W (.laysFinal "java/lang/String" "java/lang/String" "coder" "B"))⟩) (Or.inl ⟨rfl, hnm⟩) f2 (Or.inl rfl) hB11 (t := .byte) (by decide +kernel) rfl (g := (mkF m 48 #[.val (.ref a), .val (.ref b), .val (.int (Int32.ofNat o)), .val (.int (Int32.ofNat len)), .val .null, .val (.ref s.heap.size)] [.int 0, .ref a])) rfl (rest := []) rfl (hb hbytes d48)
  have c14 : Steps p.tables e below (s₁.setTop (entryFrame m #[.ref a, .ref b, .int (Int32.ofNat o), .int (Int32.ofNat len), .null] 6)) (T13.setTop (mkF m 54 #[.val (.ref a), .val (.ref b), .val (.int (Int32.ofNat o)), .val (.int (Int32.ofNat len)), .val .null, .val (.ref s.heap.size)] [.ref s.heap.size, .ref a])) := (c12.trans (st13 _ (Steps.refl _))).trans (by
    refine XS.aloadN X13.here hexec rfl (hb hbytes d51) rfl rfl ?_
    refine XS.aload X13.here hexec rfl (hb hbytes d52) rfl rfl ?_
    exact Steps.refl _)
  obtain ⟨T15, X15, p15, bl15, sl15, st15⟩ := X13.finit hexec hown (wk W (.fieldLink "java/lang/String" 9 "java/lang/String" "value" "[B")) (Or.inr ⟨_, (wk W (.laysFinal "java/lang/String" "java/lang/String" "value" "[B"))⟩) (Or.inl ⟨rfl, hnm⟩) f1 (Or.inl rfl) bl13 (t := (.array .byte)) (by decide +kernel) rfl (g := (mkF m 54 #[.val (.ref a), .val (.ref b), .val (.int (Int32.ofNat o)), .val (.int (Int32.ofNat len)), .val .null, .val (.ref s.heap.size)] [.ref s.heap.size, .ref a])) rfl (rest := []) rfl (hb hbytes d54)
  have c16 : Steps p.tables e below (s₁.setTop (entryFrame m #[.ref a, .ref b, .int (Int32.ofNat o), .int (Int32.ofNat len), .null] 6)) (T15.setTop (mkF m 57 #[.val (.ref a), .val (.ref b), .val (.int (Int32.ofNat o)), .val (.int (Int32.ofNat len)), .val .null, .val (.ref s.heap.size)] [])) := c14.trans (st15 _ (Steps.refl _))
  have ap := apart (Or.inr ⟨_, (wk W (.laysFinal "java/lang/String" "java/lang/String" "value" "[B"))⟩) (Or.inr ⟨_, (wk W (.laysFinal "java/lang/String" "java/lang/String" "coder" "B"))⟩) f1 f2 (t₁ := .array .byte) (t₂ := .byte) (by decide +kernel) (by decide +kernel) (by decide)
  have al := X8.warmed.alike.symm.trans X15.warmed.alike
  have n7 : T11.heap[s.heap.size]? = some N := by rw [q11]; exact n1.1
  exact ⟨T15, none, _, _, _, X15, by simp, rfl, by omega, (fun _ => rfl), ⟨rfl, _, N, bl15, ((Same.refl D _).set _ (by simp)).set _ (by simp), sl15, (Cell.slots_setSlot_ne _ ap).trans sl13, n1.keep al (p15.other hne (p13.other hne n7)), n2, by rw [al.findClass]; exact n3, n4, n5, fun y c h1 h2 => p15.other h1 (p13.other h1 (by rw [q11]; exact n6 y c h2)), by rw [p15.2.2, p13.2.2, q11]; exact z8⟩, fun fs hl => c16.trans (X15.returnOut hexec hret (hb hbytes d57) hl)⟩
end New4
namespace New1
def yN : MethodName := ⟨"java/lang/String", "<init>", "([C)V"⟩
abbrev yB : ByteArray := jdk_42_method_3_code
theorem d0 : decode yB 0 = .ok (.aload_n 0, 1) := by decide +kernel
theorem d1 : decode yB 1 = .ok (.aload_n 1, 1) := by decide +kernel
theorem d2 : decode yB 2 = .ok (.iconst 0, 1) := by decide +kernel
theorem d3 : decode yB 3 = .ok (.aload_n 1, 1) := by decide +kernel
theorem d4 : decode yB 4 = .ok (.arraylength, 1) := by decide +kernel
theorem d5 : decode yB 5 = .ok (.aconst_null, 1) := by decide +kernel
theorem d6 : decode yB 6 = .ok (.invokespecial 27, 3) := by decide +kernel
theorem d9 : decode yB 9 = .ok (.return_, 1) := by decide +kernel
def site : List Cond := [New4.tab] ++ initW "java/lang/String" 27 New4.yN
def tab : Cond := tabOf yN yB 2 none site
def P (a : Addr) (D : Cell) (fV fC : Field) (b : Addr) (A : Cell) (z : Int32) (args : Array Value) (s : State) : Prop := args = #[.ref a, .ref b] ∧ Blank "java/lang/String" a D s ∧ Found "java/lang/String" "value" "[B" fV s ∧ Found "java/lang/String" "coder" "B" fC s ∧ Ch b A s ∧ StaticIs s "java/lang/String" "COMPACT_STRINGS" "Z" (.int z) ∧ ¬ z = 0 ∧ 0 < A.slots.size ∧ A.slots.size ≤ 536870912 ∧ ∀ i, i < A.slots.size → ¬ 255 < cv A i
def E (a : Addr) (D : Cell) (fV fC : Field) (A : Cell) (r : Option Value) (s u : State) : Prop := Got a D fV fC A 0 A.slots.size r s u
/-- new String(chars), not empty, no char above 255: a Latin-1 String of their low bytes -/
theorem law (l : Launch) (a : Addr) (D : Cell) (fV fC : Field) (b : Addr) (A : Cell) (z : Int32) : Law l yN 2 1 3 52 yB 2 none site (P a D fV fC b A z) (E a D fV fC A) [⟨a, fC.slot⟩, ⟨a, fV.slot⟩] 1 A.slots.size := by
  refine Law.of_walk (plainFor_of_name (by decide +kernel)) (by decide +kernel) (by decide +kernel) (by decide) (fun _ _ h => by rw [h.1]; rfl) (fun _ U U' hal hh h => ⟨h.1, h.2.1.mv hal hh, h.2.2.1.al hal, h.2.2.2.1.al hal, h.2.2.2.2.1.mv hal hh, h.2.2.2.2.2.1.there hal hh, h.2.2.2.2.2.2⟩) (fun r U U' V V' h1 hal h2 h => Got.mv r U U' V V' h1 hal h2 h) ?_
  intro p e s m args below meth c s₁ X0 hexec hbytes hml hret hlk hnm hown hh0 W hP
  obtain ⟨rfl, hB, f1, f2, hA, s1, hz, l0, l2, hp⟩ := hP
  have c1 : Steps p.tables e below (s₁.setTop (entryFrame m #[.ref a, .ref b] 2)) (s₁.setTop (mkF m 0 #[.val (.ref a), .val (.ref b)] [])) := entry rfl
  have c2 : Steps p.tables e below (s₁.setTop (entryFrame m #[.ref a, .ref b] 2)) (s₁.setTop (mkF m 6 #[.val (.ref a), .val (.ref b)] [.null, .int (Int32.ofNat A.slots.size), .int 0, .ref b, .ref a])) := c1.trans (by
    refine XS.aloadN X0.here hexec rfl (hb hbytes d0) rfl rfl ?_
    refine XS.aloadN X0.here hexec rfl (hb hbytes d1) rfl rfl ?_
    refine iconstV X0.here hexec rfl 0 (hb hbytes d2) (by decide) ?_
    refine XS.aloadN X0.here hexec rfl (hb hbytes d3) rfl rfl ?_
    refine X0.alen hexec (hA.1.mv X0.warmed.alike hh0) rfl rfl (hb hbytes d4) ?_
    refine XS.aconstNull X0.here hexec rfl (hb hbytes d5) ?_
    exact Steps.refl _)
  obtain ⟨v3, T3, X3, E3, g3⟩ := X0.callN hexec (New4.law l a D fV fC b A z 0 A.slots.size) rfl hown (wks W (initW "java/lang/String" 27 New4.yN)) (W New4.tab (by simp only [site, List.mem_cons, List.mem_append, true_or, or_true])) (W := 0) (Nat.le_of_ble_eq_true rfl) (Nat.le_of_ble_eq_true rfl) (Nat.le_refl _) (by show 0 + A.slots.size ≤ A.slots.size; omega) (g := (mkF m 6 #[.val (.ref a), .val (.ref b)] [.null, .int (Int32.ofNat A.slots.size), .int (Int32.ofNat 0), .ref b, .ref a])) rfl (by rw [hml]; rfl) c2 (argsL := [.ref b, .int (Int32.ofNat 0), .int (Int32.ofNat A.slots.size), .null]) (rest := []) rfl rfl (by show 2 * 0 + 0 ≤ _; decide) (hb hbytes d6) (⟨rfl, hB.mv X0.warmed.alike hh0, f1.al X0.warmed.alike, f2.al X0.warmed.alike, hA.mv X0.warmed.alike hh0, s1.there X0.warmed.alike hh0, hz, l0, by omega, l2, fun i hi => by rw [Nat.zero_add]; exact hp i hi⟩)
  have e0 := Got.mv _ s₁ s _ _ hh0.symm (Vm.Alike.refl _) rfl E3
  obtain rfl := e0.1
  have c4 : Steps p.tables e below (s₁.setTop (entryFrame m #[.ref a, .ref b] 2)) (T3.setTop (mkF m 9 #[.val (.ref a), .val (.ref b)] [])) := g3
  exact ⟨T3, none, _, _, _, X3, by simp, rfl, by omega, (fun _ => rfl), e0, fun fs hl => c4.trans (X3.returnOut hexec hret (hb hbytes d9) hl)⟩
theorem pays {l : Launch} {R : Room} {p : Program} {e : Env} {below : List Frame} {s : State} {sargs : Array Value} {len W : Nat} (a : Addr) (D : Cell) (fV fC : Field) (b : Addr) (A : Cell) (z : Int32) (htab : tab.before sargs s = true) (hfr : 4 ≤ R.frames) (hlo : W + 65 ≤ R.locals) :
    Back l R p e below s sargs yN len W (fun A₁ a₁ => A₁.cells + 1 ≤ R.cells ∧ A₁.slots + A.slots.size ≤ R.slots ∧ P a D fV fC b A z a₁ A₁.U) (fun A₁ _ v₁ B₁ => E a D fV fC A v₁ A₁.U B₁.U ∧ B₁.locs = A₁.locs ++ [⟨a, fC.slot⟩, ⟨a, fV.slot⟩] ∧ B₁.cells = A₁.cells + 1 ∧ B₁.slots = A₁.slots + A.slots.size) :=
  (law l a D fV fC b A z).pays htab hfr (by omega)
end New1
/-- the byte, read back as charAt reads it, is the char -/
theorem lo8_mask {x : Int32} (h0 : ¬ x < 0) (h1 : ¬ 255 < x) : lo8 x &&& 255 = x := by
  have t : ∀ k : Fin 256, lo8 (Int32.ofNat k.val) &&& 255 = Int32.ofNat k.val := by decide +kernel
  rw [Int32.lt_iff_toInt_lt] at h0 h1
  have e0 : (0 : Int32).toInt = 0 := rfl
  have e1 : (255 : Int32).toInt = 255 := rfl
  obtain ⟨k, hk⟩ : ∃ k : Nat, x.toInt = k := ⟨x.toInt.toNat, by omega⟩
  have hx : x = Int32.ofNat k := Int32.toInt_inj.mp (by rw [hk, Int32.toInt_ofNat_small (by omega)])
  rw [hx]
  exact t ⟨k, by omega⟩
end StrChars
namespace StrChars.Road
open Jvm Sem ClassFile Op Lib Jvm.Stand Jvm.Free Jvm.Free.XT
open Jvm.Lib.Cold (StaticIs)
abbrev ST : String := "java/lang/String"
/-- every table word that New1's law asks, flat -/
abbrev words : List Jvm.Cond := [.code New1.yN New1.yB 2 none, .initialized ST, .methodLink ST 27 New4.yN, .instanceMethod New4.yN,
  .code New4.yN New4.yB 6 none, .fieldLink ST 38 ST "COMPACT_STRINGS" "Z", .laysFinal ST ST "value" "[B", .fieldLink ST 9 ST "value" "[B", .laysFinal ST ST "coder" "B", .fieldLink ST 15 ST "coder" "B",
  .methodLink ST 1 Lib.objectInit, .instanceMethod Lib.objectInit, .code Lib.objectInit ⟨#[0xb1]⟩ 1 none, .methodLink ST 177 Cmp3.yN, .static Cmp3.yN, .methodLink ST 47 CodL.yN, .static CodL.yN,
  .code Cmp3.yN Cmp3.yB 6 (some (.array .byte)), .initialized U16, .arrayClass .byte, .methodLink U16 115 Cmp5.yN, .static Cmp5.yN, .code Cmp5.yN Cmp5.yB 7 (some .int), .code CodL.yN CodL.yB 2 (some .byte)]
theorem tab_of {a : Array Value} {s : State} (h : ∀ w ∈ words, w.before a s = true) : New1.tab.before a s = true := by
  have h5 : Cmp5.tab.before a s = true := unparts (wk h (.code Cmp5.yN Cmp5.yB 7 (some .int))) (wks h (.initialized Cmp5.yN.cls :: Cmp5.site))
  have hc : CodL.tab.before a s = true := unparts (wk h (.code CodL.yN CodL.yB 2 (some .byte))) (wks h (.initialized CodL.yN.cls :: CodL.site))
  have q5 : ∀ w ∈ Cmp5.tab :: words, w.before a s = true := fun w hw => (List.mem_cons.mp hw).elim (fun e => e ▸ h5) (h w)
  have h3 : Cmp3.tab.before a s = true := unparts (wk q5 (.code Cmp3.yN Cmp3.yB 6 (some (.array .byte)))) (wks q5 (.initialized Cmp3.yN.cls :: Cmp3.site))
  have q3 : ∀ w ∈ Cmp3.tab :: CodL.tab :: words, w.before a s = true := fun w hw => (List.mem_cons.mp hw).elim (fun e => e ▸ h3) fun hw => (List.mem_cons.mp hw).elim (fun e => e ▸ hc) (h w)
  have h4 : New4.tab.before a s = true := unparts (wk q3 (.code New4.yN New4.yB 6 none)) (wks q3 (.initialized New4.yN.cls :: New4.site))
  have q4 : ∀ w ∈ New4.tab :: words, w.before a s = true := fun w hw => (List.mem_cons.mp hw).elim (fun e => e ▸ h4) (h w)
  exact unparts (wk q4 (.code New1.yN New1.yB 2 none)) (wks q4 (.initialized New1.yN.cls :: New1.site))
/-- the words ride from the start Z to the walk's own state -/
theorem moved {Z s : State} {a0 args : Array Value} (hZ : Z.Warmed39 s.vm) (hw : ∀ d ∈ words, d.before a0 Z = true) : ∀ d ∈ words, d.before args s = true := fun d hd => by
  have q := hw d hd
  have t : ∀ d ∈ words, d = .arrayClass .byte ∨ (d.onTables && d.keepsFace) = true := by decide +kernel
  rcases t d hd with rfl | t
  · exact RoadKit.mvA hZ q
  · exact RoadKit.mv hZ q t
/-- WHAT COMES BACK, over the tables of the start Z: h the heap at the call, h' behind it -/
def Q (Z : State) (x : Addr) (A : Cell) (h : Heap) (v : Option Value) (h' : Heap) (L : List Loc) : Prop := v = none ∧ (∀ y ∈ L, y.base = x) ∧ RoadKit.Keep h h' [x] ∧ h'.size = h.size + 1 ∧ RoadKit.Exa Z h' x ST ∧ RoadKit.Fld Z h' x ST "value" "[B" (.ref h.size) ∧ RoadKit.Fld Z h' x ST "coder" "B" (.int 0) ∧
  (∃ V : Cell, RoadKit.Arr Z h' h.size V .byte ∧ V.vm = .none ∧ Z.vm.findClass "[B" = some V.cls ∧ V.slots.size = A.slots.size ∧ ∀ j, j < A.slots.size → V.slots[j]? = some (.int (lo8 (cv A j)))) ∧
  ∀ (O n d : String) (w : Value), RoadKit.Fld Z h x O n d w → RoadKit.slotOf Z O n d ≠ RoadKit.slotOf Z ST "value" "[B" → RoadKit.slotOf Z O n d ≠ RoadKit.slotOf Z ST "coder" "B" → RoadKit.Fld Z h' x O n d w
/-- **new String(chars) AT A CALL, IN THE ROAD'S FORM**: for specialBack behind newO: x the fresh String, b the char[] with the cell A -/
theorem back {p : Program} {l : Launch} {e : Env} {R : Room} {s : State} {args : Array Value} {below : List Frame} {len W : Nat} {Z : State} {a0 : Array Value} {h : Heap} (hZ : Z.Warmed39 s.vm) (hw : ∀ d ∈ words, d.before a0 Z = true) {kI : Nat} (wi : (Jvm.Cond.instantiable ST kI).before a0 Z = true)
    {x b : Addr} {A : Cell} {z : Int32} {v0 c0 : Value} (E : RoadKit.Exa Z h x ST) (V : RoadKit.Fld Z h x ST "value" "[B" v0) (C : RoadKit.Fld Z h x ST "coder" "B" c0) (K : RoadKit.Arr Z h b A .char) (hty : Typed .char A) (S : RoadKit.Sta Z h ST "COMPACT_STRINGS" "Z" (.int z)) (hz : ¬ z = 0)
    (l0 : 0 < A.slots.size) (l2 : A.slots.size ≤ 536870912) (hp : ∀ i, i < A.slots.size → ¬ 255 < cv A i) (hfr : 4 ≤ R.frames) (hlo : W + 65 ≤ R.locals) :
    Back l R p e below s args New1.yN len W (fun P a => a = #[.ref x, .ref b] ∧ P.U.heap = h ∧ P.cells + 1 ≤ R.cells ∧ P.slots + A.slots.size ≤ R.slots)
      (fun P _ v B => ∃ L, Q Z x A h v B.U.heap L ∧ B.locs = P.locs ++ L ∧ B.cells = P.cells + 1 ∧ B.slots = P.slots + A.slots.size) := by
  intro m meth c P g ig mk a X hg hsize hdg hW hn hp'
  obtain ⟨rfl, rfl, r1, r2⟩ := hp'
  have al : Z.vm.Alike P.U.vm := hZ.alike.trans X.warmed.alike
  obtain ⟨D, cfV, kV, iV, fV, hD, gV, stV, knV, obV, asV, slV⟩ := id V
  obtain ⟨D', cfC, kC, iC, fC, hD', gC, stC, -, -, asC, slC⟩ := id C
  cases hD.symm.trans hD'
  obtain ⟨D2, kD, e1, e2, e3, e4, e5⟩ := id E
  cases hD.symm.trans e1
  obtain ⟨c2, k2, i1, i2, i3, -⟩ := Cond.instantiable_spec wi
  cases e2.symm.trans i1
  cases e3.symm.trans i2
  obtain ⟨kU, u1, u2⟩ := al.2.2 _ _ e3
  have hB : Blank ST x D P.U := ⟨hD, ⟨knV, fun q hq => by rw [hq] at obV; cases obV⟩, by rw [al.findClass]; exact e2, kU, u1, by rw [u2]; exact i3, by rw [u2]; exact e5 i3⟩
  have F1 : Found ST "value" "[B" fV P.U := ⟨SBG.found_only al ⟨cfV, kV, iV, gV⟩, stV⟩
  have F2 : Found ST "coder" "B" fC P.U := ⟨SBG.found_only al ⟨cfC, kC, iC, gC⟩, stC⟩
  have hA : Ch b A P.U := ⟨⟨K.1, State.isArrayOf_alike al K.2.1, K.2.2, by omega⟩, hty⟩
  have hS : StaticIs P.U ST "COMPACT_STRINGS" "Z" (.int z) := by
    obtain ⟨cfS, iS, kS, fS, st, cS, t1, t2, t3, t4, t5, t6, t7⟩ := S
    exact StaticIs.there (s := { Z with heap := P.U.heap }) ⟨cfS, iS, kS, fS, st, cS, t1, t2, t3, t4, t5, (fun q => by rw [q] at t6; cases t6), t7⟩ al rfl
  obtain ⟨v, B, X', ⟨⟨hv, E', V', q1, q2, q3, q4, q5, q6, q7, q8, q9, q10, q11⟩, hl, hc, hs⟩, st⟩ := New1.pays x D fV fC b A z (tab_of (moved hZ hw)) hfr hlo m meth c P g ig mk _ X hg hsize hdg hW hn ⟨r1, r2, rfl, hB, F1, F2, hA, hS, hz, l0, l2, hp⟩
  have al' : Z.vm.Alike B.U.vm := hZ.alike.trans X'.warmed.alike
  have hsz : E'.slots.size = D.slots.size := by
    obtain ⟨-, -, -, kB, w1, w2, w3⟩ := q1
    obtain ⟨kB', y1, y2⟩ := al'.2.2 _ _ e3
    rw [q2.2.1] at w1
    cases w1.symm.trans y1
    rw [w3, e5 i3, y2]
  refine ⟨v, B, X', ⟨_, ⟨hv, ?_, ⟨by omega, fun y cy hy hn' => q10 y cy (by simpa using hn') hy, fun y cy hy => ?_⟩, q11, ⟨E', _, q1.1, by rw [q2.2.1]; exact e2, by rw [q2.2.1]; exact e3, by rw [q2.1]; exact obV, fun _ => by rw [hsz]; exact e5 i3⟩,
    ⟨E', cfV, kV, iV, fV, q1.1, gV, stV, by rw [q2.1]; exact knV, by rw [q2.1]; exact obV, by rw [q2.2.1]; exact asV, q3⟩, ⟨E', cfC, kC, iC, fC, q1.1, gC, stC, by rw [q2.1]; exact knV, by rw [q2.1]; exact obV, by rw [q2.2.1]; exact asC, q4⟩,
    ⟨V', ⟨q5.1, State.isArrayOf_alike al'.symm q5.2.1, q5.2.2.1⟩, q6, by rw [← al'.findClass]; exact q7, q8, fun j hj => by have := q9 j hj; rwa [Nat.zero_add] at this⟩, fun O n d w F n1 n2 => ?_⟩, hl, hc, hs⟩, st⟩
  · intro y hy
    simp only [List.mem_cons, List.not_mem_nil, or_false] at hy
    rcases hy with rfl | rfl <;> rfl
  · by_cases q : y = x
    · subst q
      cases hD.symm.trans hy
      exact ⟨E', q1.1, q2.2.1, q2.1, hsz⟩
    · exact ⟨cy, q10 y cy q hy, rfl, rfl, rfl⟩
  · obtain ⟨D3, cf, k, i, f, g1, g2, g3, g4, g5, g6, g7⟩ := F
    cases hD.symm.trans g1
    simp only [RoadKit.slotOf, g2, gV, gC, Option.map_some, Option.getD_some] at n1 n2
    exact ⟨E', cf, k, i, f, q1.1, g2, g3, by rw [q2.1]; exact g4, by rw [q2.1]; exact g5, by rw [q2.2.1]; exact g6, by rw [q2.2.2 f.slot (by simp [n1, n2])]; exact g7⟩
end StrChars.Road
namespace StrChars.Road
open Jvm Sem ClassFile Op Lib Jvm.Stand Jvm.Free Jvm.Free.XT
/-- WHAT COMES BACK, the byte[] as a list of values -/
def QA (Z : State) (x : Addr) (zn : Int32) (cs : List Int32) (h : Heap) (v : Option Value) (h' : Heap) (L : List Loc) : Prop := v = none ∧ (∀ y ∈ L, y.base = x) ∧ RoadKit.Keep h h' [x] ∧ h'.size = h.size + 1 ∧ RoadKit.Exa Z h' x ST ∧ RoadKit.Fld Z h' x ST "value" "[B" (.ref h.size) ∧ RoadKit.Fld Z h' x ST "coder" "B" (.int 0) ∧
  (∃ kb, Z.vm.findClass "[B" = some kb ∧ RoadKit.Arv Z h' h.size kb .byte zn (cs.map fun c => .int (lo8 c)) (.int 0)) ∧
  ∀ (O n d : String) (w : Value), RoadKit.Fld Z h x O n d w → RoadKit.slotOf Z O n d ≠ RoadKit.slotOf Z ST "value" "[B" → RoadKit.slotOf Z O n d ≠ RoadKit.slotOf Z ST "coder" "B" → RoadKit.Fld Z h' x O n d w
/-- **new String(chars) AT A CALL, THE ARRAYS AS LISTS**: the char[] at b holds cs, not empty, no char above 255 -/
theorem backArv {p : Program} {l : Launch} {e : Env} {R : Room} {s : State} {args : Array Value} {below : List Frame} {len W : Nat} {Z : State} {a0 : Array Value} {h : Heap} (hZ : Z.Warmed39 s.vm) (hw : ∀ d ∈ words, d.before a0 Z = true) {kI : Nat} (wi : (Jvm.Cond.instantiable ST kI).before a0 Z = true)
    {x b : Addr} {k : ClassId} {zn z : Int32} {cs : List Int32} {dv v0 c0 : Value} (E : RoadKit.Exa Z h x ST) (V : RoadKit.Fld Z h x ST "value" "[B" v0) (C : RoadKit.Fld Z h x ST "coder" "B" c0) (K : RoadKit.Arv Z h b k .char zn (cs.map Value.int) dv) (S : RoadKit.Sta Z h ST "COMPACT_STRINGS" "Z" (.int z)) (hz : ¬ z = 0)
    (hlen : zn.toNatClampNeg = cs.length) (h0 : 0 < cs.length) (hbig : cs.length ≤ 536870912) (hall : ∀ c ∈ cs, ¬ 255 < c) (hfr : 4 ≤ R.frames) (hlo : W + 65 ≤ R.locals) :
    Back l R p e below s args New1.yN len W (fun P a => a = #[.ref x, .ref b] ∧ P.U.heap = h ∧ P.cells + 1 ≤ R.cells ∧ P.slots + cs.length ≤ R.slots)
      (fun P _ v B => ∃ L, QA Z x zn cs h v B.U.heap L ∧ B.locs = P.locs ++ L ∧ B.cells = P.cells + 1 ∧ B.slots = P.slots + cs.length) := by
  obtain ⟨A, K1, K2, K3, K4, K5, K6⟩ := K
  have e : A.slots.size = cs.length := K3.trans hlen
  have hat : ∀ (i : Nat) (hi : i < cs.length), A.slots[i]? = some (.int cs[i]) := fun i hi => by rw [K5 i (by omega)]; simp [List.getD_eq_getElem?_getD, hi]
  have hcv : ∀ (i : Nat) (hi : i < cs.length), cv A i = cs[i] := fun i hi => by unfold cv; rw [hat i hi]
  have hty : Typed .char A := fun i v hv => by
    have hi : i < A.slots.size := (Array.getElem?_eq_some_iff.mp hv).1
    have q := K5 i hi
    rw [hv] at q
    rw [Option.some.inj q]
    exact K6 i hi
  refine Back.mono (back hZ hw wi E V C K1 hty S hz (by omega) (by omega) (fun i hi => by rw [hcv i (by omega)]; exact hall _ (List.getElem_mem _)) hfr hlo) (fun P a hp => ⟨hp.1, hp.2.1, hp.2.2.1, by rw [e]; exact hp.2.2.2⟩) (fun P a v B hp hq => ?_)
  obtain ⟨L, ⟨q1, q2, q3, q4, q5, q6, q7, ⟨V', v1, v2, v3, v4, v5⟩, q9⟩, hl, hc, hs⟩ := hq
  refine ⟨L, ⟨q1, q2, q3, q4, q5, q6, q7, ⟨V'.cls, v3, V', v1, rfl, by rw [v4, e, hlen], K4, fun i hi => ?_, fun i hi => ?_⟩, q9⟩, hl, hc, by rw [hs, e]⟩
  · have hi' : i < cs.length := by omega
    rw [v5 i (by omega), hcv i hi']; simp [List.getD_eq_getElem?_getD, hi']
  · have hi' : i < cs.length := by omega
    simp only [List.getD_eq_getElem?_getD, List.getElem?_map, List.getElem?_eq_getElem hi', Option.map_some, Option.getD_some]
    exact fits_lo8 _
end StrChars.Road
namespace StrChars.Road
open Jvm Sem ClassFile Op Lib Jvm.Stand Jvm.Free Jvm.Free.XT
/-- WHAT COMES BACK, in the writer's own shape -/
def QV (Z : State) (x : Addr) (N : Int32) (bs : List Int32) (h : Heap) (n0 : Nat) (v : Option Value) (h' : Heap) (L : List Loc) : Prop := v = none ∧ RoadKit.Fr n0 L ∧ RoadKit.Keep h h' [x] ∧ RoadKit.Exa Z h' x ST ∧ RoadKit.Fld Z h' x ST "coder" "B" (.int 0) ∧
  ∃ (t : Addr) (kb : ClassId), n0 ≤ t ∧ h.size ≤ t ∧ ¬ t = x ∧ RoadKit.Fld Z h' x ST "value" "[B" (.ref t) ∧ RoadKit.Arv Z h' t kb .byte N (bs.map Value.int) (.int 0)
/-- **new String(chars) AT A CALL, FOR THE WRITER**: a char[] of n known ints, each 0 to 255 -/
theorem backV {p : Program} {l : Launch} {e : Env} {R : Room} {s : State} {args : Array Value} {below : List Frame} {len W : Nat} {Z : State} {a0 : Array Value} {h : Heap} (hZ : Z.Warmed39 s.vm) (hw : ∀ d ∈ words, d.before a0 Z = true) {kI : Nat} (wi : (Jvm.Cond.instantiable ST kI).before a0 Z = true)
    {x b : Addr} {kC : ClassId} {cs bs : List Int32} {d v0 c0 : Value} {z N : Int32} {n n0 : Nat} (hx0 : n0 ≤ x) (hh0 : n0 ≤ h.size) (E : RoadKit.Exa Z h x ST) (V : RoadKit.Fld Z h x ST "value" "[B" v0) (C : RoadKit.Fld Z h x ST "coder" "B" c0) (K : RoadKit.Arv Z h b kC .char N (cs.map Value.int) d) (S : RoadKit.Sta Z h ST "COMPACT_STRINGS" "Z" (.int z)) (hz : ¬ z = 0)
    (hn : cs.length = n) (hN : N = Int32.ofNat n) (l0 : 0 < n) (l2 : n ≤ 4000) (hp : ∀ c ∈ cs, ¬ c < 0 ∧ ¬ (255 : Int32) < c) (hb : bs = cs.map (fun c => c.toInt8.toInt32)) (hfr : 4 ≤ R.frames) (hlo : W + 65 ≤ R.locals) :
    Back l R p e below s args (⟨"java/lang/String", "<init>", "([C)V"⟩ : MethodName) len W (fun P a => a = #[.ref x, .ref b] ∧ P.U.heap = h ∧ P.cells + 1 ≤ R.cells ∧ P.slots + n ≤ R.slots)
      (fun P _ v B => ∃ L, QV Z x N bs h n0 v B.U.heap L ∧ B.locs = P.locs ++ L ∧ B.cells = P.cells + 1 ∧ B.slots = P.slots + n) := by
  subst hn hN hb
  refine Back.mono (backArv hZ hw wi E V C K S hz (n32 (by omega)) l0 (by omega) (fun c hc => (hp c hc).2) hfr hlo) (fun P a hp => hp) (fun P a v B hp hq => ?_)
  obtain ⟨L, ⟨q1, q2, q3, q4, q5, q6, q7, ⟨kb, v1, v2⟩, q9⟩, hl, hc, hs⟩ := hq
  exact ⟨L, ⟨q1, fun y hy => by rw [q2 y hy]; exact hx0, q3, q5, q7, h.size, kb, hh0, Nat.le_refl _, Nat.ne_of_gt E.lt, q6, by rw [List.map_map]; exact v2⟩, hl, hc, hs⟩
end StrChars.Road
namespace StrChars
open Jvm Sem ClassFile Op Lib Jvm.Stand Jvm.Free.XT Jvm.Free.ALB Jvm.Free.JM Jvm.Free
open Jvm.Lib.Cold (StaticIs)
def hi8 (x : Int32) : Int32 := lo8 (x >>> ((8 : Int32) &&& 31))
/-- what StringUTF16.getChar makes of two bytes -/
def pairCh (u v : Int32) : Int32 := (((u &&& 255) <<< ((0 : Int32) &&& 31)) ||| ((v &&& 255) <<< ((8 : Int32) &&& 31))).toUInt32.toUInt16.toUInt32.toInt32
theorem lo8_and (x : Int32) : (lo8 x &&& 255).toBitVec.toNat = x.toBitVec.toNat % 256 := by
  have h : (lo8 x).toBitVec = (x.toBitVec.signExtend 8).signExtend 32 := by rw [lo8, Int8.toBitVec_toInt32, Int32.toBitVec_toInt8]
  rw [Int32.toBitVec_and, BitVec.toNat_and, h]
  have e : ((x.toBitVec.signExtend 8).signExtend 32).toNat % 256 = x.toBitVec.toNat % 256 := by
    rw [BitVec.toNat_signExtend]
    have hlt := x.toBitVec.isLt
    simp only [BitVec.toNat_setWidth, BitVec.toNat_signExtend]
    split <;> split <;> omega
  rw [← e]
  exact Nat.and_two_pow_sub_one_eq_mod _ 8
theorem pair_says {c : Int32} (h0 : ¬ c < 0) (h1 : ¬ 65535 < c) : pairCh (lo8 c) (hi8 c) = c := by
  rw [Int32.lt_iff_toInt_lt] at h0 h1
  have e0 : (0 : Int32).toInt = 0 := rfl
  have e1 : (65535 : Int32).toInt = 65535 := rfl
  have hc : c.toInt = c.toBitVec.toNat := by
    have := c.toBitVec.isLt
    have e : c.toInt = c.toBitVec.toInt := rfl
    rw [e] at h0 h1
    rw [e]
    rw [BitVec.toInt_eq_toNat_cond] at h0 h1 ⊢
    split at h0 <;> split <;> omega
  have hn : c.toBitVec.toNat < 65536 := by omega
  have a1 := lo8_and c
  have a2 : (hi8 c &&& 255).toBitVec.toNat = c.toBitVec.toNat / 256 := by
    rw [hi8, lo8_and]
    have e : ((8 : Int32) &&& 31) = 8 := by decide
    rw [e, Int32.toBitVec_shiftRight]
    have e2 : ((8 : Int32).toBitVec.smod 32) = 8#32 := by decide
    rw [e2, BitVec.sshiftRight_eq', BitVec.toNat_sshiftRight_of_msb_false (by rw [BitVec.msb_eq_false_iff_two_mul_lt]; omega)]
    show c.toBitVec.toNat >>> 8 % 256 = _
    rw [Nat.shiftRight_eq_div_pow]
    omega
  unfold pairCh
  apply Int32.toBitVec_inj.mp
  apply BitVec.eq_of_toNat_eq
  have f0 : ((0 : Int32) &&& 31) = 0 := by decide
  have f8 : ((8 : Int32) &&& 31) = 8 := by decide
  rw [f0, f8]
  have g : (((lo8 c &&& 255) <<< (0 : Int32)) ||| ((hi8 c &&& 255) <<< (8 : Int32))).toBitVec.toNat = c.toBitVec.toNat := by
    rw [Int32.toBitVec_or, Int32.toBitVec_shiftLeft, Int32.toBitVec_shiftLeft]
    have s0 : ((0 : Int32).toBitVec.smod 32) = 0#32 := by decide
    have s8 : ((8 : Int32).toBitVec.smod 32) = 8#32 := by decide
    rw [s0, s8, BitVec.toNat_or]
    simp only [BitVec.shiftLeft_eq', BitVec.toNat_shiftLeft, a1, a2]
    show (c.toBitVec.toNat % 256) <<< 0 % 2 ^ 32 ||| (c.toBitVec.toNat / 256) <<< 8 % 2 ^ 32 = _
    rw [Nat.shiftLeft_zero, Nat.mod_eq_of_lt (show c.toBitVec.toNat % 256 < 2 ^ 32 by omega), Nat.mod_eq_of_lt (show (c.toBitVec.toNat / 256) <<< 8 < 2 ^ 32 by rw [Nat.shiftLeft_eq]; omega), Nat.or_comm, ← Nat.shiftLeft_add_eq_or_of_lt (by omega), Nat.shiftLeft_eq]
    omega
  show BitVec.toNat (((((lo8 c &&& 255) <<< (0 : Int32)) ||| ((hi8 c &&& 255) <<< (8 : Int32))).toBitVec.setWidth 16).setWidth 32) = _
  rw [BitVec.toNat_setWidth, BitVec.toNat_setWidth, g]
  omega
end StrChars
namespace StrChars
open Jvm Sem ClassFile Op Lib Jvm.Stand Jvm.Free.XT Jvm.Free.ALB Jvm.Free.JM Jvm.Free
open Jvm.Lib.Cold (StaticIs)
/-- the array's cell V codes the n chars f 0 .. f (n - 1) by the coder cd, as the JDK does: coder 1 just where some char is above 255 -/
def Cod (cd : Int32) (n : Nat) (f : Nat → Int32) (V : Cell) : Prop := (cd = 0 ∧ V.slots.size = n ∧ ∀ j, j < n → V.slots[j]? = some (.int (lo8 (f j))) ∧ ¬ 255 < f j) ∨ (cd = 1 ∧ V.slots.size = 2 * n ∧ (∀ j, j < n → V.slots[2 * j]? = some (.int (lo8 (f j))) ∧ V.slots[2 * j + 1]? = some (.int (hi8 (f j)))) ∧ ∃ j, j < n ∧ 255 < f j)
/-- **x is a String of the n chars f 0 .. f (n - 1)**, Latin-1 or UTF-16; its array at t has the cell V -/
def Txt (x t : Addr) (V : Cell) (cd : Int32) (n : Nat) (f : Nat → Int32) (U : State) : Prop := Exact "java/lang/String" x U ∧ Has x "java/lang/String" "value" "[B" (.ref t) U ∧ Has x "java/lang/String" "coder" "B" (.int cd) U ∧ XT.Arr .byte t V U ∧ Cod cd n f V ∧ ∀ j, j < n → ¬ f j < 0 ∧ ¬ 65535 < f j
theorem Txt.mv {x t : Addr} {V : Cell} {cd : Int32} {n : Nat} {f : Nat → Int32} {U U' : State} (h : Txt x t V cd n f U) (hal : U.vm.Alike U'.vm) (hh : U'.heap = U.heap) : Txt x t V cd n f U' := ⟨h.1.mv hal hh, h.2.1.mv hal hh, h.2.2.1.mv hal hh, h.2.2.2.1.mv hal hh, h.2.2.2.2⟩
end StrChars
namespace StrChars.Road
open Jvm Sem ClassFile Op Lib Jvm.Stand Jvm.Free Jvm.Free.XT
open Jvm.Lib.Cold (StaticIs)
theorem consq {a : Array Value} {s : State} {c : Jvm.Cond} {L : List Jvm.Cond} (h0 : c.before a s = true) (h : ∀ w ∈ L, w.before a s = true) : ∀ w ∈ c :: L, w.before a s = true := fun w hw => (List.mem_cons.mp hw).elim (fun e => e ▸ h0) (h w)
/-- the bytes of the chars cs, low before high -/
def wideBytes : List Int32 → List Value
  | [] => []
  | c :: cs => .int (lo8 c) :: .int (hi8 c) :: wideBytes cs
theorem wide_lo (d : Value) : ∀ (cs : List Int32) (j : Nat), j < cs.length → (wideBytes cs).getD (2 * j) d = .int (lo8 (cs.getD j 0))
  | [], j, h => absurd h (Nat.not_lt_zero j)
  | c :: cs, 0, _ => rfl
  | c :: cs, j + 1, h => by
    have q := wide_lo d cs j (by simpa using h)
    rw [show 2 * (j + 1) = 2 * j + 1 + 1 from by omega]
    simpa [wideBytes] using q
theorem wide_hi (d : Value) : ∀ (cs : List Int32) (j : Nat), j < cs.length → (wideBytes cs).getD (2 * j + 1) d = .int (hi8 (cs.getD j 0))
  | [], j, h => absurd h (Nat.not_lt_zero j)
  | c :: cs, 0, _ => rfl
  | c :: cs, j + 1, h => by
    have q := wide_hi d cs j (by simpa using h)
    rw [show 2 * (j + 1) + 1 = 2 * j + 1 + 1 + 1 from by omega]
    simpa [wideBytes] using q
theorem low_at (d : Value) (cs : List Int32) (j : Nat) (h : j < cs.length) : (cs.map fun c => Value.int (lo8 c)).getD j d = .int (lo8 (cs.getD j 0)) := by
  simp [List.getD_eq_getElem?_getD, h]
/-- an array of N2 bytes vs codes the chars cs by the coder cd -/
def CodA (cs : List Int32) (cd N2 : Int32) (vs : List Value) : Prop := (cd = 0 ∧ N2 = Int32.ofNat cs.length ∧ vs = (cs.map fun c => Value.int (lo8 c)) ∧ ∀ c ∈ cs, ¬ 255 < c) ∨ (cd = 1 ∧ N2 = Int32.ofNat (2 * cs.length) ∧ vs = wideBytes cs ∧ ∃ c ∈ cs, 255 < c)
theorem CodA.cod {cs : List Int32} {cd N2 : Int32} {vs : List Value} {V : Cell} (h : CodA cs cd N2 vs) (hn : 2 * cs.length < 2 ^ 31) (hs : V.slots.size = N2.toNatClampNeg) (hv : RoadKit.Has V vs (.int 0)) : Cod cd cs.length (fun j => cs.getD j 0) V := by
  rcases h with ⟨rfl, rfl, rfl, h⟩ | ⟨rfl, rfl, rfl, c, hc, hw⟩
  · rw [n32 (by omega)] at hs
    exact Or.inl ⟨rfl, hs, fun j hj => ⟨by rw [hv j (by omega), low_at _ _ _ hj], by
      have e : cs.getD j 0 = cs[j] := by simp [List.getD_eq_getElem?_getD, hj]
      show ¬ 255 < cs.getD j 0
      rw [e]; exact h _ (List.getElem_mem _)⟩⟩
  · rw [n32 (by omega)] at hs
    obtain ⟨j, hj, rfl⟩ := List.getElem_of_mem hc
    exact Or.inr ⟨rfl, hs, fun j hj => ⟨by rw [hv _ (by omega), wide_lo _ _ _ hj], by rw [hv _ (by omega), wide_hi _ _ _ hj]⟩, j, hj, by
      have e : cs.getD j 0 = cs[j] := by simp [List.getD_eq_getElem?_getD, hj]
      show 255 < cs.getD j 0
      rw [e]; exact hw⟩
/-- an object of exactly java/lang/String, its two fields found: as the laws ask it -/
theorem strObj {Z U : State} {a0 : Array Value} {kI : Nat} (wi : (Jvm.Cond.instantiable ST kI).before a0 Z = true) (al : Z.vm.Alike U.vm) {x : Addr} {v0 c0 : Value} (E : RoadKit.Exa Z U.heap x ST) (V : RoadKit.Fld Z U.heap x ST "value" "[B" v0) (C : RoadKit.Fld Z U.heap x ST "coder" "B" c0) :
    ∃ (D : Cell) (fV fC : Field), Blank ST x D U ∧ Found ST "value" "[B" fV U ∧ Found ST "coder" "B" fC U ∧ D.slots[fV.slot]? = some v0 ∧ D.slots[fC.slot]? = some c0 ∧ RoadKit.slotOf Z ST "value" "[B" = fV.slot ∧ RoadKit.slotOf Z ST "coder" "B" = fC.slot := by
  obtain ⟨D, cfV, kV, iV, fV, hD, gV, stV, knV, obV, asV, slV⟩ := V
  obtain ⟨D', cfC, kC, iC, fC, hD', gC, stC, -, -, asC, slC⟩ := C
  cases hD.symm.trans hD'
  obtain ⟨D2, kD, e1, e2, e3, e4, e5⟩ := E
  cases hD.symm.trans e1
  obtain ⟨c2, k2, i1, i2, i3, -⟩ := Cond.instantiable_spec wi
  cases e2.symm.trans i1
  cases e3.symm.trans i2
  obtain ⟨kU, u1, u2⟩ := al.2.2 _ _ e3
  exact ⟨D, fV, fC, ⟨hD, ⟨knV, fun q hq => by rw [hq] at obV; cases obV⟩, by rw [al.findClass]; exact e2, kU, u1, by rw [u2]; exact i3, by rw [u2]; exact e5 i3⟩, ⟨SBG.found_only al ⟨cfV, kV, iV, gV⟩, stV⟩, ⟨SBG.found_only al ⟨cfC, kC, iC, gC⟩, stC⟩, slV, slC, by simp [RoadKit.slotOf, gV], by simp [RoadKit.slotOf, gC]⟩
theorem sta_is {Z U : State} (al : Z.vm.Alike U.vm) {C n d : String} {v : Value} (S : RoadKit.Sta Z U.heap C n d v) : StaticIs U C n d v := by
  obtain ⟨cfS, iS, kS, fS, st, cS, t1, t2, t3, t4, t5, t6, t7⟩ := S
  exact StaticIs.there (s := { Z with heap := U.heap }) ⟨cfS, iS, kS, fS, st, cS, t1, t2, t3, t4, t5, (fun q => by rw [q] at t6; cases t6), t7⟩ al rfl
end StrChars.Road
namespace StrChars
open Jvm Sem ClassFile Op Lib Jvm.Stand Jvm.Free.XT Jvm.Free.ALB Jvm.Free.JM Jvm.Free
open Jvm.Lib.Cold (StaticIs)
/-- what place i of a byte[]'s cell holds -/
def yv (A : Cell) (i : Nat) : Int32 := match A.slots[i]? with | some (.int x) => x | _ => 0
theorem yv_get {a : Addr} {A : Cell} {U : State} (h : XT.Arr .byte a A U) (ht : Typed .byte A) {i : Nat} (hi : i < A.slots.size) : A.slots[i]? = some (.int (yv A i)) := by
  have e := Array.getElem?_eq_getElem hi
  have f := ht i _ e
  unfold yv; rw [e]
  generalize A.slots[i] = v at f
  cases v <;> simp [fits] at f ⊢
/-- the two arrays are equal, place for place -/
def EqC (A B : Cell) : Prop := A.slots.size = B.slots.size ∧ ∀ i, i < A.slots.size → yv A i = yv B i
/-- a boolean that says whether p -/
def Says01 (q : Prop) (r : Option Value) (s u : State) : Prop := ∃ v : Int32, r = some (.int v) ∧ u.heap = s.heap ∧ ((v = 1 ∧ q) ∨ (v = 0 ∧ ¬ q))
theorem Says01.mv {q : Prop} : ∀ r (U U' V V' : State), U'.heap = U.heap → V.vm.Alike V'.vm → V'.heap = V.heap → Says01 q r U V → Says01 q r U' V' :=
  fun r U U' V V' h1 _ h2 ⟨v, a, b, c⟩ => ⟨v, a, by rw [h1, h2]; exact b, c⟩
namespace LEq
def yN : MethodName := ⟨"java/lang/StringLatin1", "equals", "([B[B)Z"⟩
abbrev yB : ByteArray := jdk_43_method_13_code
theorem d0 : decode yB 0 = .ok (.aload_n 0, 1) := by decide +kernel
theorem d1 : decode yB 1 = .ok (.arraylength, 1) := by decide +kernel
theorem d2 : decode yB 2 = .ok (.aload_n 1, 1) := by decide +kernel
theorem d3 : decode yB 3 = .ok (.arraylength, 1) := by decide +kernel
theorem d4 : decode yB 4 = .ok (.if_icmp (.ne) 30, 3) := by decide +kernel
theorem d7 : decode yB 7 = .ok (.iconst 0, 1) := by decide +kernel
theorem d8 : decode yB 8 = .ok (.istore_n 2, 1) := by decide +kernel
theorem d9 : decode yB 9 = .ok (.iload_n 2, 1) := by decide +kernel
theorem d10 : decode yB 10 = .ok (.aload_n 0, 1) := by decide +kernel
theorem d11 : decode yB 11 = .ok (.arraylength, 1) := by decide +kernel
theorem d12 : decode yB 12 = .ok (.if_icmp (.ge) 20, 3) := by decide +kernel
theorem d15 : decode yB 15 = .ok (.aload_n 0, 1) := by decide +kernel
theorem d16 : decode yB 16 = .ok (.iload_n 2, 1) := by decide +kernel
theorem d17 : decode yB 17 = .ok (.baload, 1) := by decide +kernel
theorem d18 : decode yB 18 = .ok (.aload_n 1, 1) := by decide +kernel
theorem d19 : decode yB 19 = .ok (.iload_n 2, 1) := by decide +kernel
theorem d20 : decode yB 20 = .ok (.baload, 1) := by decide +kernel
theorem d21 : decode yB 21 = .ok (.if_icmp (.eq) 5, 3) := by decide +kernel
theorem d24 : decode yB 24 = .ok (.iconst 0, 1) := by decide +kernel
theorem d25 : decode yB 25 = .ok (.ireturn, 1) := by decide +kernel
theorem d26 : decode yB 26 = .ok (.iinc 2 1, 3) := by decide +kernel
theorem d29 : decode yB 29 = .ok (.goto (-20), 3) := by decide +kernel
theorem d32 : decode yB 32 = .ok (.iconst 1, 1) := by decide +kernel
theorem d33 : decode yB 33 = .ok (.ireturn, 1) := by decide +kernel
theorem d34 : decode yB 34 = .ok (.iconst 0, 1) := by decide +kernel
theorem d35 : decode yB 35 = .ok (.ireturn, 1) := by decide +kernel
def site : List Cond := []
def tab : Cond := tabOf yN yB 3 (some .boolean) site
def P (a : Addr) (A : Cell) (b : Addr) (B : Cell) (args : Array Value) (s : State) : Prop := args = #[.ref a, .ref b] ∧ XT.Arr .byte a A s ∧ Typed .byte A ∧ XT.Arr .byte b B s ∧ Typed .byte B
/-- whether two byte[] are equal, place for place -/
theorem law (l : Launch) (a : Addr) (A : Cell) (b : Addr) (B : Cell) : Law l yN 2 2 0 0 yB 3 (some .boolean) site (P a A b B) (Says01 (EqC A B)) [] 0 0 := by
  refine Law.of_walk (plainFor_of_name (by decide +kernel)) (by decide +kernel) (by decide +kernel) (by decide) (fun _ _ h => by rw [h.1]; rfl) (fun _ U U' hal hh h => ⟨h.1, h.2.1.mv hal hh, h.2.2.1, h.2.2.2.1.mv hal hh, h.2.2.2.2⟩) (fun r U U' V V' h1 hal h2 h => Says01.mv r U U' V V' h1 hal h2 h) ?_
  intro p e s m args below meth c s₁ X0 hexec hbytes hml hret hlk hnm hown hh0 W hP
  obtain ⟨rfl, hA, tA, hB, tB⟩ := hP
  have a31 := hA.2.2.2
  have b31 := hB.2.2.2
  have hA0 := hA.mv X0.warmed.alike hh0
  have hB0 := hB.mv X0.warmed.alike hh0
  have c1 : Steps p.tables e below (s₁.setTop (entryFrame m #[.ref a, .ref b] 3)) (s₁.setTop (mkF m 0 #[.val (.ref a), .val (.ref b), .unset] [])) := entry rfl
  have c2 : Steps p.tables e below (s₁.setTop (entryFrame m #[.ref a, .ref b] 3)) (s₁.setTop (mkF m 4 #[.val (.ref a), .val (.ref b), .unset] [.int (Int32.ofNat B.slots.size), .int (Int32.ofNat A.slots.size)])) := c1.trans (by
    refine XS.aloadN X0.here hexec rfl (hb hbytes d0) rfl rfl ?_
    refine X0.alen hexec hA0 rfl rfl (hb hbytes d1) ?_
    refine XS.aloadN X0.here hexec rfl (hb hbytes d2) rfl rfl ?_
    refine X0.alen hexec hB0 rfl rfl (hb hbytes d3) ?_
    exact Steps.refl _)
  by_cases hs : A.slots.size = B.slots.size
  · have c3 : Steps p.tables e below (s₁.setTop (entryFrame m #[.ref a, .ref b] 3)) (s₁.setTop (mkF m 9 #[.val (.ref a), .val (.ref b), .val (.int 0)] [])) := c2.trans (by
      refine XS.icmpNo X0.here hexec rfl (hb hbytes d4) rfl (ii_ne_f (by rw [hs])) ?_
      refine iconstV X0.here hexec rfl 0 (hb hbytes d7) (by decide) ?_
      refine XS.istoreN X0.here hexec rfl (hb hbytes d8) rfl rfl ?_
      exact Steps.refl _)
    have loop : ∀ (r i : Nat), i + r = A.slots.size → (∀ j, j < i → yv A j = yv B j) → Steps p.tables e below (s₁.setTop (entryFrame m #[.ref a, .ref b] 3)) (s₁.setTop (mkF m 9 #[.val (.ref a), .val (.ref b), .val (.int (Int32.ofNat i))] [])) → ∃ (pc : Nat) (Ls : Array Slot) (v : Int32), (pc = 25 ∨ pc = 33) ∧ ((v = 1 ∧ EqC A B) ∨ (v = 0 ∧ ¬ EqC A B)) ∧ Steps p.tables e below (s₁.setTop (entryFrame m #[.ref a, .ref b] 3)) (s₁.setTop (mkF m pc Ls [.int v])) := by
      intro r
      induction r with
      | zero =>
        intro i hi he cl
        exact ⟨33, _, 1, Or.inr rfl, Or.inl ⟨rfl, hs, fun j hj => he j (by omega)⟩, cl.trans (by
          refine XS.iloadN X0.here hexec rfl (hb hbytes d9) rfl ?_
          refine XS.aloadN X0.here hexec rfl (hb hbytes d10) rfl rfl ?_
          refine X0.alen hexec hA0 rfl rfl (hb hbytes d11) ?_
          refine XS.icmpYes X0.here hexec rfl (pc0 := 12) rfl (hb hbytes d12) rfl (ii_ge_t (nlt32 (by omega) (by omega))) (by decide) rfl ?_
          refine iconstV X0.here hexec rfl 1 (hb hbytes d32) (by decide) ?_
          exact Steps.refl _)⟩
      | succ r ih =>
        intro i hi he cl
        have c4 : Steps p.tables e below (s₁.setTop (entryFrame m #[.ref a, .ref b] 3)) (s₁.setTop (mkF m 21 #[.val (.ref a), .val (.ref b), .val (.int (Int32.ofNat i))] [.int (yv B i), .int (yv A i)])) := cl.trans (by
          refine XS.iloadN X0.here hexec rfl (hb hbytes d9) rfl ?_
          refine XS.aloadN X0.here hexec rfl (hb hbytes d10) rfl rfl ?_
          refine X0.alen hexec hA0 rfl rfl (hb hbytes d11) ?_
          refine XS.icmpNo X0.here hexec rfl (hb hbytes d12) rfl (ii_ge_f (lt32 (by omega) (by omega))) ?_
          refine XS.aloadN X0.here hexec rfl (hb hbytes d15) rfl rfl ?_
          refine XS.iloadN X0.here hexec rfl (hb hbytes d16) rfl ?_
          refine X0.aget hexec hA0 rfl (yv_get hA tA (i := i) (by omega)) rfl rfl (hb hbytes d17) ?_
          refine XS.aloadN X0.here hexec rfl (hb hbytes d18) rfl rfl ?_
          refine XS.iloadN X0.here hexec rfl (hb hbytes d19) rfl ?_
          refine X0.aget hexec hB0 rfl (yv_get hB tB (i := i) (by omega)) rfl rfl (hb hbytes d20) ?_
          exact Steps.refl _)
        by_cases hv : yv A i = yv B i
        · have c5 : Steps p.tables e below (s₁.setTop (entryFrame m #[.ref a, .ref b] 3)) (s₁.setTop (mkF m 9 #[.val (.ref a), .val (.ref b), .val (.int (Int32.ofNat i + 1))] [])) := c4.trans (by
            refine XS.icmpYes X0.here hexec rfl (pc0 := 21) rfl (hb hbytes d21) rfl (ii_eq_t hv) (by decide) rfl ?_
            refine iincV X0.here hexec rfl 1 (hb hbytes d26) (by decide) rfl rfl ?_
            refine XS.goto X0.here hexec rfl (pc0 := 29) rfl (hb hbytes d29) (by decide) rfl ?_
            exact Steps.refl _)
          rw [succ32] at c5
          exact ih (i + 1) (by omega) (fun j hj => by
            by_cases e : j = i
            · rw [e]; exact hv
            · exact he j (by omega)) c5
        · exact ⟨25, _, 0, Or.inl rfl, Or.inr ⟨rfl, fun q => hv (q.2 i (by omega))⟩, c4.trans (by
            refine XS.icmpNo X0.here hexec rfl (hb hbytes d21) rfl (ii_eq_f hv) ?_
            refine iconstV X0.here hexec rfl 0 (hb hbytes d24) (by decide) ?_
            exact Steps.refl _)⟩
    obtain ⟨pc, Ls, v, hpc, hv, cz⟩ := loop A.slots.size 0 (by omega) (fun j hj => absurd hj (Nat.not_lt_zero j)) c3
    have nv : narrow .boolean (.int v) = .int v := by rcases hv with ⟨rfl, -⟩ | ⟨rfl, -⟩ <;> rfl
    rcases hpc with rfl | rfl
    · exact ⟨s₁, some (.int v), _, _, _, X0, rfl, rfl, rfl, (fun h => by cases h), ⟨v, rfl, hh0, hv⟩, fun fs hl => cz.trans (X0.ireturnOut hexec hret nv (Or.inr (Or.inl rfl)) (hb hbytes d25) hl)⟩
    · exact ⟨s₁, some (.int v), _, _, _, X0, rfl, rfl, rfl, (fun h => by cases h), ⟨v, rfl, hh0, hv⟩, fun fs hl => cz.trans (X0.ireturnOut hexec hret nv (Or.inr (Or.inl rfl)) (hb hbytes d33) hl)⟩
  · have c3 : Steps p.tables e below (s₁.setTop (entryFrame m #[.ref a, .ref b] 3)) (s₁.setTop (mkF m 35 #[.val (.ref a), .val (.ref b), .unset] [.int 0])) := c2.trans (by
      refine XS.icmpYes X0.here hexec rfl (pc0 := 4) rfl (hb hbytes d4) rfl (ii_ne_t (ne32 a31 b31 hs)) (by decide) rfl ?_
      refine iconstV X0.here hexec rfl 0 (hb hbytes d34) (by decide) ?_
      exact Steps.refl _)
    exact ⟨s₁, some (.int 0), _, _, _, X0, rfl, rfl, rfl, (fun h => by cases h), ⟨0, rfl, hh0, Or.inr ⟨rfl, fun q => hs q.1⟩⟩, fun fs hl => c3.trans (X0.ireturnOut hexec hret rfl (Or.inr (Or.inl rfl)) (hb hbytes d35) hl)⟩
end LEq
theorem Cod.ty {cd : Int32} {n : Nat} {f : Nat → Int32} {V : Cell} (h : Cod cd n f V) : Typed .byte V := fun i v hv => by
  have hi : i < V.slots.size := (Array.getElem?_eq_some_iff.mp hv).1
  rcases h with ⟨-, k1, k2⟩ | ⟨-, k1, k2, -⟩
  · rw [(k2 i (by omega)).1] at hv; cases hv; exact fits_lo8 _
  · rcases Nat.mod_two_eq_zero_or_one i with e | e
    · obtain ⟨j, rfl⟩ : ∃ j, i = 2 * j := ⟨i / 2, by omega⟩
      rw [(k2 j (by omega)).1] at hv; cases hv; exact fits_lo8 _
    · obtain ⟨j, rfl⟩ : ∃ j, i = 2 * j + 1 := ⟨i / 2, by omega⟩
      rw [(k2 j (by omega)).2] at hv; cases hv; exact fits_lo8 _
/-- the same text -/
def SameT (n : Nat) (f : Nat → Int32) (k : Nat) (g : Nat → Int32) : Prop := n = k ∧ ∀ j, j < n → f j = g j
theorem lo8_inj {x y : Int32} (h0 : ¬ x < 0) (h1 : ¬ 255 < x) (k0 : ¬ y < 0) (k1 : ¬ 255 < y) (h : lo8 x = lo8 y) : x = y := by
  rw [← lo8_mask h0 h1, ← lo8_mask k0 k1, h]
/-- arrays coded by one coder are equal just where the texts are -/
theorem Cod.eqv {cd : Int32} {n k : Nat} {f g : Nat → Int32} {V V' : Cell} (h : Cod cd n f V) (h' : Cod cd k g V') (hf : ∀ j, j < n → ¬ f j < 0 ∧ ¬ 65535 < f j) (hg : ∀ j, j < k → ¬ g j < 0 ∧ ¬ 65535 < g j) : EqC V V' ↔ SameT n f k g := by
  have yvv : ∀ {W : Cell} {i : Nat} {x : Int32}, W.slots[i]? = some (.int x) → yv W i = x := fun q => by unfold yv; rw [q]
  rcases h with ⟨rfl, k1, k2⟩ | ⟨rfl, k1, k2, -⟩
  · rcases h' with ⟨-, m1, m2⟩ | ⟨e, -⟩
    · constructor
      · rintro ⟨e1, e2⟩
        refine ⟨by omega, fun j hj => ?_⟩
        have q := e2 j (by omega)
        rw [yvv (k2 j hj).1, yvv (m2 j (by omega)).1] at q
        exact lo8_inj (hf j hj).1 (k2 j hj).2 (hg j (by omega)).1 (m2 j (by omega)).2 q
      · rintro ⟨rfl, e2⟩
        refine ⟨by omega, fun j hj => ?_⟩
        rw [yvv (k2 j (by omega)).1, yvv (m2 j (by omega)).1, e2 j (by omega)]
    · exact absurd e (by decide)
  · rcases h' with ⟨e, -⟩ | ⟨-, m1, m2, -⟩
    · exact absurd e (by decide)
    · constructor
      · rintro ⟨e1, e2⟩
        refine ⟨by omega, fun j hj => ?_⟩
        have q1 := e2 (2 * j) (by omega)
        have q2 := e2 (2 * j + 1) (by omega)
        rw [yvv (k2 j hj).1, yvv (m2 j (by omega)).1] at q1
        rw [yvv (k2 j hj).2, yvv (m2 j (by omega)).2] at q2
        rw [← pair_says (hf j hj).1 (hf j hj).2, ← pair_says (hg j (by omega)).1 (hg j (by omega)).2, q1, q2]
      · rintro ⟨rfl, e2⟩
        refine ⟨by omega, fun i hi => ?_⟩
        rcases Nat.mod_two_eq_zero_or_one i with e | e
        · obtain ⟨j, rfl⟩ : ∃ j, i = 2 * j := ⟨i / 2, by omega⟩
          rw [yvv (k2 j (by omega)).1, yvv (m2 j (by omega)).1, e2 j (by omega)]
        · obtain ⟨j, rfl⟩ : ∃ j, i = 2 * j + 1 := ⟨i / 2, by omega⟩
          rw [yvv (k2 j (by omega)).2, yvv (m2 j (by omega)).2, e2 j (by omega)]
/-- two codings differ: so do the texts -/
theorem Cod.dif {cd cd' : Int32} {n k : Nat} {f g : Nat → Int32} {V V' : Cell} (h : Cod cd n f V) (h' : Cod cd' k g V') (hne : ¬ cd = cd') : ¬ SameT n f k g := by
  rintro ⟨rfl, e⟩
  rcases h with ⟨rfl, -, k2⟩ | ⟨rfl, -, -, j, hj, hw⟩
  · rcases h' with ⟨rfl, -⟩ | ⟨-, -, -, j, hj, hw⟩
    · exact hne rfl
    · exact (k2 j hj).2 (by rw [e j hj]; exact hw)
  · rcases h' with ⟨-, -, m2⟩ | ⟨rfl, -⟩
    · exact (m2 j hj).2 (by rw [← e j hj]; exact hw)
    · exact hne rfl
/-- an object of exactly C is an instance of C -/
theorem cinst {p : Program} {l : Launch} {e : Env} {R : Room} {s : State} {m : MethodId} {args : Array Value} {below : List Frame} {meth : Method} {c : Code} {T : State} {locs : List Loc} {cells slots : Nat} (X : Stand p l e R s m args below meth c T locs cells slots) (hexec : p.tables.exec = Jvm.exec) {own C : String} {index : Nat} (hown : s.vm.findClass own = some m.cls) (hlink : (Cond.classLink own index C).before args s = true) {a : Addr} (hE : Exact C a T)
    {g : JFrame} (hg : g.method = m) {rest : List Value} (hstack : g.stack = .ref a :: rest) (hdg : decode c.code g.pc = .ok (.instanceof index, 3)) :
    ∃ T', Stand p l e R s m args below meth c T' locs cells slots ∧ T'.heap = T.heap ∧ ∀ target, Steps p.tables e below (T'.setTop { g with pc := g.pc + 3, stack := .int 1 :: rest }) target → Steps p.tables e below (T.setTop g) target := by
  obtain ⟨cB, h1, D, h2, h3, h4⟩ := hE
  have h1' : s.vm.findClass C = some cB := by rw [← X.warmed.alike.findClass]; exact h1
  obtain ⟨vm', X', st⟩ := X.instanceofYes hexec hown hlink h2 h4 h1' (by rw [h3]; exact Jvm.Free.SB.assignable_self _ _) hg hstack hdg
  exact ⟨_, X', rfl, st⟩
theorem cself {p : Program} {l : Launch} {e : Env} {R : Room} {s : State} {m : MethodId} {args : Array Value} {below : List Frame} {meth : Method} {c : Code} {T : State} {locs : List Loc} {cells slots : Nat} (X : Stand p l e R s m args below meth c T locs cells slots) (hexec : p.tables.exec = Jvm.exec) {own C : String} {index : Nat} (hown : s.vm.findClass own = some m.cls) (hlink : (Cond.classLink own index C).before args s = true) {a : Addr} (hE : Exact C a T)
    {g : JFrame} (hg : g.method = m) {rest : List Value} (hstack : g.stack = .ref a :: rest) (hdg : decode c.code g.pc = .ok (.checkcast index, 3)) :
    ∃ T', Stand p l e R s m args below meth c T' locs cells slots ∧ T'.heap = T.heap ∧ ∀ target, Steps p.tables e below (T'.setTop { g with pc := g.pc + 3, stack := .ref a :: rest }) target → Steps p.tables e below (T.setTop g) target := by
  obtain ⟨cB, h1, D, h2, h3, h4⟩ := hE
  have h1' : s.vm.findClass C = some cB := by rw [← X.warmed.alike.findClass]; exact h1
  obtain ⟨vm', X', st⟩ := X.checkcastYes hexec hown hlink h2 h4 h1' (by rw [h3]; exact Jvm.Free.SB.assignable_self _ _) hg hstack hdg
  exact ⟨_, X', rfl, fun t h => st t (by rw [← hstack] at h; exact h)⟩
namespace SEq
def yN : MethodName := ⟨"java/lang/String", "equals", "(Ljava/lang/Object;)Z"⟩
abbrev yB : ByteArray := jdk_42_method_66_code
theorem d0 : decode yB 0 = .ok (.aload_n 0, 1) := by decide +kernel
theorem d1 : decode yB 1 = .ok (.aload_n 1, 1) := by decide +kernel
theorem d2 : decode yB 2 = .ok (.if_acmp (.ne) 5, 3) := by decide +kernel
theorem d5 : decode yB 5 = .ok (.iconst 1, 1) := by decide +kernel
theorem d6 : decode yB 6 = .ok (.ireturn, 1) := by decide +kernel
theorem d7 : decode yB 7 = .ok (.aload_n 1, 1) := by decide +kernel
theorem d8 : decode yB 8 = .ok (.instanceof 10, 3) := by decide +kernel
theorem d11 : decode yB 11 = .ok (.ifCond (.eq) 43, 3) := by decide +kernel
theorem d14 : decode yB 14 = .ok (.aload_n 1, 1) := by decide +kernel
theorem d15 : decode yB 15 = .ok (.checkcast 10, 3) := by decide +kernel
theorem d18 : decode yB 18 = .ok (.astore_n 2, 1) := by decide +kernel
theorem d19 : decode yB 19 = .ok (.getstatic 38, 3) := by decide +kernel
theorem d22 : decode yB 22 = .ok (.ifCond (.eq) 14, 3) := by decide +kernel
theorem d25 : decode yB 25 = .ok (.aload_n 0, 1) := by decide +kernel
theorem d26 : decode yB 26 = .ok (.getfield 15, 3) := by decide +kernel
theorem d29 : decode yB 29 = .ok (.aload_n 2, 1) := by decide +kernel
theorem d30 : decode yB 30 = .ok (.getfield 15, 3) := by decide +kernel
theorem d33 : decode yB 33 = .ok (.if_icmp (.ne) 21, 3) := by decide +kernel
theorem d36 : decode yB 36 = .ok (.aload_n 0, 1) := by decide +kernel
theorem d37 : decode yB 37 = .ok (.getfield 9, 3) := by decide +kernel
theorem d40 : decode yB 40 = .ok (.aload_n 2, 1) := by decide +kernel
theorem d41 : decode yB 41 = .ok (.getfield 9, 3) := by decide +kernel
theorem d44 : decode yB 44 = .ok (.invokestatic 541, 3) := by decide +kernel
theorem d47 : decode yB 47 = .ok (.ifCond (.eq) 7, 3) := by decide +kernel
theorem d50 : decode yB 50 = .ok (.iconst 1, 1) := by decide +kernel
theorem d51 : decode yB 51 = .ok (.goto 4, 3) := by decide +kernel
theorem d54 : decode yB 54 = .ok (.iconst 0, 1) := by decide +kernel
theorem d55 : decode yB 55 = .ok (.ireturn, 1) := by decide +kernel
def site : List Cond := [.classLink "java/lang/String" 10 "java/lang/String", .fieldLink "java/lang/String" 38 "java/lang/String" "COMPACT_STRINGS" "Z", .fieldLink "java/lang/String" 15 "java/lang/String" "coder" "B", .fieldLink "java/lang/String" 9 "java/lang/String" "value" "[B", LEq.tab] ++ staticW "java/lang/String" 541 LEq.yN
def tab : Cond := tabOf yN yB 3 (some .boolean) site
def P (x t : Addr) (V : Cell) (cd : Int32) (n : Nat) (f : Nat → Int32) (y t' : Addr) (V' : Cell) (cd' : Int32) (k : Nat) (g : Nat → Int32) (z : Int32) (args : Array Value) (s : State) : Prop := args = #[.ref x, .ref y] ∧ Txt x t V cd n f s ∧ Txt y t' V' cd' k g s ∧ StaticIs s "java/lang/String" "COMPACT_STRINGS" "Z" (.int z) ∧ ¬ z = 0
/-- equals(Object) of two Strings: whether the texts are the same -/
theorem law (l : Launch) (x t : Addr) (V : Cell) (cd : Int32) (n : Nat) (f : Nat → Int32) (y t' : Addr) (V' : Cell) (cd' : Int32) (k : Nat) (g : Nat → Int32) (z : Int32) : Law l yN 2 1 1 14 yB 3 (some .boolean) site (P x t V cd n f y t' V' cd' k g z) (Says01 (SameT n f k g)) [] 0 0 := by
  refine Law.of_walk (plainFor_of_name (by decide +kernel)) (by decide +kernel) (by decide +kernel) (by decide) (fun _ _ h => by rw [h.1]; rfl) (fun _ U U' hal hh h => ⟨h.1, h.2.1.mv hal hh, h.2.2.1.mv hal hh, h.2.2.2.1.there hal hh, h.2.2.2.2⟩) (fun r U U' V V' h1 hal h2 h => Says01.mv r U U' V V' h1 hal h2 h) ?_
  intro p e s m args below meth c s₁ X0 hexec hbytes hml hret hlk hnm hown hh0 W hP
  obtain ⟨rfl, hx, hy, s1, hz⟩ := hP
  have c1 : Steps p.tables e below (s₁.setTop (entryFrame m #[.ref x, .ref y] 3)) (s₁.setTop (mkF m 2 #[.val (.ref x), .val (.ref y), .unset] [.ref y, .ref x])) := Steps.trans (entry rfl) (by
    show Steps p.tables e below (s₁.setTop (mkF m 0 #[.val (.ref x), .val (.ref y), .unset] [])) _
    refine XS.aloadN X0.here hexec rfl (hb hbytes d0) rfl rfl ?_
    refine XS.aloadN X0.here hexec rfl (hb hbytes d1) rfl rfl ?_
    exact Steps.refl _)
  by_cases hxy : x = y
  · have c2 : Steps p.tables e below (s₁.setTop (entryFrame m #[.ref x, .ref y] 3)) (s₁.setTop (mkF m 6 #[.val (.ref x), .val (.ref y), .unset] [.int 1])) := c1.trans (by
      refine acmpNo X0.here hexec rfl (hb hbytes d2) rfl rfl rfl (by simp [acmp, hxy]) ?_
      refine iconstV X0.here hexec rfl 1 (hb hbytes d5) (by decide) ?_
      exact Steps.refl _)
    subst hxy
    have ec : cd = cd' := by
      obtain ⟨D, fd, a1, a2, a3⟩ := hx.2.2.1
      obtain ⟨D', fd', b1, b2, b3⟩ := hy.2.2.1
      cases a1.symm.trans b1
      obtain ⟨q1, q2, q3, q4⟩ := a2.1
      obtain ⟨r1, r2, r3, r4⟩ := b2.1
      cases q4.symm.trans r4
      cases a3.symm.trans b3; rfl
    have et : t = t' := by
      obtain ⟨D, fd, a1, a2, a3⟩ := hx.2.1
      obtain ⟨D', fd', b1, b2, b3⟩ := hy.2.1
      cases a1.symm.trans b1
      obtain ⟨q1, q2, q3, q4⟩ := a2.1
      obtain ⟨r1, r2, r3, r4⟩ := b2.1
      cases q4.symm.trans r4
      cases a3.symm.trans b3; rfl
    subst ec et
    have ev : V = V' := by cases hx.2.2.2.1.1.symm.trans hy.2.2.2.1.1; rfl
    subst ev
    have hs : SameT n f k g := (Cod.eqv hx.2.2.2.2.1 hy.2.2.2.2.1 hx.2.2.2.2.2 hy.2.2.2.2.2).mp ⟨rfl, fun _ _ => rfl⟩
    exact ⟨s₁, some (.int 1), _, _, _, X0, rfl, rfl, rfl, (fun h => by cases h), ⟨1, rfl, hh0, Or.inl ⟨rfl, hs⟩⟩, fun fs hl => c2.trans (X0.ireturnOut hexec hret rfl (Or.inr (Or.inl rfl)) (hb hbytes d6) hl)⟩
  · have c2 : Steps p.tables e below (s₁.setTop (entryFrame m #[.ref x, .ref y] 3)) (s₁.setTop (mkF m 8 #[.val (.ref x), .val (.ref y), .unset] [.ref y])) := c1.trans (by
      refine acmpYes X0.here hexec rfl (pc0 := 2) rfl (hb hbytes d2) rfl rfl rfl (by simp [acmp, hxy]) (by decide) rfl ?_
      refine XS.aloadN X0.here hexec rfl (hb hbytes d7) rfl rfl ?_
      exact Steps.refl _)
    obtain ⟨T3, X3, q3, st3⟩ := cinst X0 hexec hown (wk W (.classLink "java/lang/String" 10 "java/lang/String")) (hy.mv X0.warmed.alike hh0).1 (g := (mkF m 8 #[.val (.ref x), .val (.ref y), .unset] [.ref y])) rfl (rest := []) rfl (hb hbytes d8)
    have hh3 := q3.trans hh0
    have c4 : Steps p.tables e below (s₁.setTop (entryFrame m #[.ref x, .ref y] 3)) (T3.setTop (mkF m 15 #[.val (.ref x), .val (.ref y), .unset] [.ref y])) := (c2.trans (st3 _ (Steps.refl _))).trans (by
      refine XS.ifNo X3.here hexec rfl (hb hbytes d11) rfl (i0_eq_f (by decide)) ?_
      refine XS.aloadN X3.here hexec rfl (hb hbytes d14) rfl rfl ?_
      exact Steps.refl _)
    obtain ⟨T5, X5, q5, st5⟩ := cself X3 hexec hown (wk W (.classLink "java/lang/String" 10 "java/lang/String")) (hy.mv X3.warmed.alike hh3).1 (g := (mkF m 15 #[.val (.ref x), .val (.ref y), .unset] [.ref y])) rfl (rest := []) rfl (hb hbytes d15)
    have hh5 := q5.trans hh3
    have c6 : Steps p.tables e below (s₁.setTop (entryFrame m #[.ref x, .ref y] 3)) (T5.setTop (mkF m 19 #[.val (.ref x), .val (.ref y), .val (.ref y)] [])) := (c4.trans (st5 _ (Steps.refl _))).trans (by
      refine XS.astoreN X5.here hexec rfl (hb hbytes d18) rfl rfl rfl ?_
      exact Steps.refl _)
    obtain ⟨T7, X7, q7, st7⟩ := X5.sget hexec hown (wk W (.fieldLink "java/lang/String" 38 "java/lang/String" "COMPACT_STRINGS" "Z")) s1 (fun _ _ h => by rw [hh5]; exact h) (g := (mkF m 19 #[.val (.ref x), .val (.ref y), .val (.ref y)] [])) rfl (hb hbytes d19)
    have hh7 := q7.trans hh5
    have c8 : Steps p.tables e below (s₁.setTop (entryFrame m #[.ref x, .ref y] 3)) (T7.setTop (mkF m 26 #[.val (.ref x), .val (.ref y), .val (.ref y)] [.ref x])) := (c6.trans (st7 _ (Steps.refl _))).trans (by
      refine XS.ifNo X7.here hexec rfl (hb hbytes d22) rfl (i0_eq_f hz) ?_
      refine XS.aloadN X7.here hexec rfl (hb hbytes d25) rfl rfl ?_
      exact Steps.refl _)
    obtain ⟨T9, X9, q9, st9⟩ := X7.hget hexec hown (wk W (.fieldLink "java/lang/String" 15 "java/lang/String" "coder" "B")) (hx.mv X7.warmed.alike hh7).2.2.1 (g := (mkF m 26 #[.val (.ref x), .val (.ref y), .val (.ref y)] [.ref x])) rfl (rest := []) rfl (hb hbytes d26)
    have hh9 := q9.trans hh7
    have c10 : Steps p.tables e below (s₁.setTop (entryFrame m #[.ref x, .ref y] 3)) (T9.setTop (mkF m 30 #[.val (.ref x), .val (.ref y), .val (.ref y)] [.ref y, .int cd])) := (c8.trans (st9 _ (Steps.refl _))).trans (by
      refine XS.aloadN X9.here hexec rfl (hb hbytes d29) rfl rfl ?_
      exact Steps.refl _)
    obtain ⟨T11, X11, q11, st11⟩ := X9.hget hexec hown (wk W (.fieldLink "java/lang/String" 15 "java/lang/String" "coder" "B")) (hy.mv X9.warmed.alike hh9).2.2.1 (g := (mkF m 30 #[.val (.ref x), .val (.ref y), .val (.ref y)] [.ref y, .int cd])) rfl (rest := [.int cd]) rfl (hb hbytes d30)
    have hh11 := q11.trans hh9
    have c12 : Steps p.tables e below (s₁.setTop (entryFrame m #[.ref x, .ref y] 3)) (T11.setTop (mkF m 33 #[.val (.ref x), .val (.ref y), .val (.ref y)] [.int cd', .int cd])) := c10.trans (st11 _ (Steps.refl _))
    by_cases hcd : cd = cd'
    · subst hcd
      have c13 : Steps p.tables e below (s₁.setTop (entryFrame m #[.ref x, .ref y] 3)) (T11.setTop (mkF m 37 #[.val (.ref x), .val (.ref y), .val (.ref y)] [.ref x])) := c12.trans (by
        refine XS.icmpNo X11.here hexec rfl (hb hbytes d33) rfl (ii_ne_f rfl) ?_
        refine XS.aloadN X11.here hexec rfl (hb hbytes d36) rfl rfl ?_
        exact Steps.refl _)
      obtain ⟨T14, X14, q14, st14⟩ := X11.hget hexec hown (wk W (.fieldLink "java/lang/String" 9 "java/lang/String" "value" "[B")) (hx.mv X11.warmed.alike hh11).2.1 (g := (mkF m 37 #[.val (.ref x), .val (.ref y), .val (.ref y)] [.ref x])) rfl (rest := []) rfl (hb hbytes d37)
      have hh14 := q14.trans hh11
      have c15 : Steps p.tables e below (s₁.setTop (entryFrame m #[.ref x, .ref y] 3)) (T14.setTop (mkF m 41 #[.val (.ref x), .val (.ref y), .val (.ref y)] [.ref y, .ref t])) := (c13.trans (st14 _ (Steps.refl _))).trans (by
        refine XS.aloadN X14.here hexec rfl (hb hbytes d40) rfl rfl ?_
        exact Steps.refl _)
      obtain ⟨T16, X16, q16, st16⟩ := X14.hget hexec hown (wk W (.fieldLink "java/lang/String" 9 "java/lang/String" "value" "[B")) (hy.mv X14.warmed.alike hh14).2.1 (g := (mkF m 41 #[.val (.ref x), .val (.ref y), .val (.ref y)] [.ref y, .ref t])) rfl (rest := [.ref t]) rfl (hb hbytes d41)
      have hh16 := q16.trans hh14
      have c17 : Steps p.tables e below (s₁.setTop (entryFrame m #[.ref x, .ref y] 3)) (T16.setTop (mkF m 44 #[.val (.ref x), .val (.ref y), .val (.ref y)] [.ref t', .ref t])) := c15.trans (st16 _ (Steps.refl _))
      obtain ⟨v18, T18, X18, E18, g18⟩ := X16.callS hexec (LEq.law l t V t' V') hown (wks W (staticW "java/lang/String" 541 LEq.yN)) (wk W LEq.tab) (W := 0) (Nat.le_of_ble_eq_true rfl) (Nat.le_of_ble_eq_true rfl) (Nat.le_refl _) (Nat.le_refl _) (g := (mkF m 44 #[.val (.ref x), .val (.ref y), .val (.ref y)] [.ref t', .ref t])) rfl (by rw [hml]; rfl) c17 (argsL := [.ref t, .ref t']) (rest := []) rfl rfl (by show 2 * 0 + 0 ≤ _; decide) (hb hbytes d44) (⟨rfl, hx.2.2.2.1.mv X16.warmed.alike hh16, hx.2.2.2.2.1.ty, hy.2.2.2.1.mv X16.warmed.alike hh16, hy.2.2.2.2.1.ty⟩)
      obtain ⟨v, rfl, q18, hv⟩ := E18
      have iff := Cod.eqv hx.2.2.2.2.1 hy.2.2.2.2.1 hx.2.2.2.2.2 hy.2.2.2.2.2
      rcases hv with ⟨rfl, he⟩ | ⟨rfl, he⟩
      · have c19 : Steps p.tables e below (s₁.setTop (entryFrame m #[.ref x, .ref y] 3)) (T18.setTop (mkF m 55 #[.val (.ref x), .val (.ref y), .val (.ref y)] [.int 1])) := Steps.trans g18 (by
          refine XS.ifNo X18.here hexec rfl (hb hbytes d47) rfl (i0_eq_f (by decide)) ?_
          refine iconstV X18.here hexec rfl 1 (hb hbytes d50) (by decide) ?_
          refine XS.goto X18.here hexec rfl (pc0 := 51) rfl (hb hbytes d51) (by decide) rfl ?_
          exact Steps.refl _)
        exact ⟨T18, some (.int 1), _, _, _, X18, rfl, rfl, rfl, (fun h => by cases h), ⟨1, rfl, q18.trans hh16, Or.inl ⟨rfl, iff.mp he⟩⟩, fun fs hl => c19.trans (X18.ireturnOut hexec hret rfl (Or.inr (Or.inl rfl)) (hb hbytes d55) hl)⟩
      · have c19 : Steps p.tables e below (s₁.setTop (entryFrame m #[.ref x, .ref y] 3)) (T18.setTop (mkF m 55 #[.val (.ref x), .val (.ref y), .val (.ref y)] [.int 0])) := Steps.trans g18 (by
          refine XS.ifYes X18.here hexec rfl (pc0 := 47) rfl (hb hbytes d47) rfl (i0_eq_t rfl) (by decide) rfl ?_
          refine iconstV X18.here hexec rfl 0 (hb hbytes d54) (by decide) ?_
          exact Steps.refl _)
        exact ⟨T18, some (.int 0), _, _, _, X18, rfl, rfl, rfl, (fun h => by cases h), ⟨0, rfl, q18.trans hh16, Or.inr ⟨rfl, fun q => he (iff.mpr q)⟩⟩, fun fs hl => c19.trans (X18.ireturnOut hexec hret rfl (Or.inr (Or.inl rfl)) (hb hbytes d55) hl)⟩
    · have c13 : Steps p.tables e below (s₁.setTop (entryFrame m #[.ref x, .ref y] 3)) (T11.setTop (mkF m 55 #[.val (.ref x), .val (.ref y), .val (.ref y)] [.int 0])) := c12.trans (by
        refine XS.icmpYes X11.here hexec rfl (pc0 := 33) rfl (hb hbytes d33) rfl (ii_ne_t hcd) (by decide) rfl ?_
        refine iconstV X11.here hexec rfl 0 (hb hbytes d54) (by decide) ?_
        exact Steps.refl _)
      exact ⟨T11, some (.int 0), _, _, _, X11, rfl, rfl, rfl, (fun h => by cases h), ⟨0, rfl, hh11, Or.inr ⟨rfl, Cod.dif hx.2.2.2.2.1 hy.2.2.2.2.1 hcd⟩⟩, fun fs hl => c13.trans (X11.ireturnOut hexec hret rfl (Or.inr (Or.inl rfl)) (hb hbytes d55) hl)⟩
theorem pays {l : Launch} {R : Room} {p : Program} {e : Env} {below : List Frame} {s : State} {sargs : Array Value} {len W : Nat} (x t : Addr) (V : Cell) (cd : Int32) (n : Nat) (f : Nat → Int32) (y t' : Addr) (V' : Cell) (cd' : Int32) (k : Nat) (g : Nat → Int32) (z : Int32) (htab : tab.before sargs s = true) (hfr : 2 ≤ R.frames) (hlo : W + 28 ≤ R.locals) :
    Back l R p e below s sargs yN len W (fun A₁ a₁ => A₁.cells + 0 ≤ R.cells ∧ A₁.slots + 0 ≤ R.slots ∧ P x t V cd n f y t' V' cd' k g z a₁ A₁.U) (fun A₁ _ v₁ B₁ => Says01 (SameT n f k g) v₁ A₁.U B₁.U ∧ B₁.locs = A₁.locs ++ [] ∧ B₁.cells = A₁.cells + 0 ∧ B₁.slots = A₁.slots + 0) :=
  (law l x t V cd n f y t' V' cd' k g z).pays htab hfr (by omega)
end SEq
end StrChars
namespace StrChars.Road
open Jvm Sem ClassFile Op Lib Jvm.Stand Jvm.Free Jvm.Free.XT
open Jvm.Lib.Cold (StaticIs)
/-- the words of String.equals(Object) -/
abbrev wordsEq : List Jvm.Cond := [.code SEq.yN SEq.yB 3 (some .boolean), .initialized ST, .classLink ST 10 ST, .fieldLink ST 38 ST "COMPACT_STRINGS" "Z", .fieldLink ST 15 ST "coder" "B", .fieldLink ST 9 ST "value" "[B", .methodLink ST 541 LEq.yN, .static LEq.yN, .code LEq.yN LEq.yB 3 (some .boolean), .initialized "java/lang/StringLatin1"]
theorem tabEq_of {a : Array Value} {s : State} (h : ∀ w ∈ wordsEq, w.before a s = true) : SEq.tab.before a s = true := by
  have hl : LEq.tab.before a s = true := unparts (wk h (.code LEq.yN LEq.yB 3 (some .boolean))) (wks h (.initialized LEq.yN.cls :: LEq.site))
  have q := consq hl h
  exact unparts (wk q (.code SEq.yN SEq.yB 3 (some .boolean))) (wks q (.initialized SEq.yN.cls :: SEq.site))
theorem movedEq {Z s : State} {a0 args : Array Value} (hZ : Z.Warmed39 s.vm) (hw : ∀ d ∈ wordsEq, d.before a0 Z = true) : ∀ d ∈ wordsEq, d.before args s = true := fun d hd => by
  have t : ∀ d ∈ wordsEq, (d.onTables && d.keepsFace) = true := by decide +kernel
  exact RoadKit.mv hZ (hw d hd) (t d hd)
/-- the road's facts of a String, as the laws ask it -/
theorem txt_of {Z U : State} {a0 : Array Value} {kI : Nat} (wi : (Jvm.Cond.instantiable ST kI).before a0 Z = true) (al : Z.vm.Alike U.vm) {x t : Addr} {kb : ClassId} {cs : List Int32} {cd N2 : Int32} {vs : List Value} (E : RoadKit.Exa Z U.heap x ST) (V : RoadKit.Fld Z U.heap x ST "value" "[B" (.ref t)) (C : RoadKit.Fld Z U.heap x ST "coder" "B" (.int cd)) (K : RoadKit.Arv Z U.heap t kb .byte N2 vs (.int 0)) (hc : CodA cs cd N2 vs) (hb : ∀ c ∈ cs, ¬ c < 0 ∧ ¬ (65535 : Int32) < c) (l2 : cs.length ≤ 4000) :
    ∃ A, Txt x t A cd cs.length (fun j => cs.getD j 0) U := by
  obtain ⟨A, K1, K2, K3, K4, K5, K6⟩ := K
  have hcod := hc.cod (by omega) K3 K5
  obtain ⟨D, fV, fC, hB, F1, F2, g1, g2, -, -⟩ := strObj wi al E V C
  exact ⟨A, ⟨_, hB.2.2.1, D, hB.1, rfl, by cases q : D.vm <;> first | rfl | exact absurd q (hB.2.1.2 _)⟩, Has.of hB F1 g1, Has.of hB F2 g2, ⟨K1.1, State.isArrayOf_alike al K1.2.1, K1.2.2, by rcases hcod with ⟨-, q, -⟩ | ⟨-, q, -⟩ <;> omega⟩, hcod, fun j hj => by
    have e : cs.getD j 0 = cs[j] := by simp [List.getD_eq_getElem?_getD, hj]
    show ¬ cs.getD j 0 < 0 ∧ ¬ 65535 < cs.getD j 0
    rw [e]; exact hb _ (List.getElem_mem _)⟩
theorem same_list (cs ds : List Int32) : SameT cs.length (fun j => cs.getD j 0) ds.length (fun j => ds.getD j 0) ↔ cs = ds := by
  constructor
  · rintro ⟨e, q⟩
    refine List.ext_getElem e fun j h1 h2 => ?_
    have := q j h1
    simpa [List.getD_eq_getElem?_getD, h1, h2] using this
  · rintro rfl
    exact ⟨rfl, fun _ _ => rfl⟩
/-- **equals(Object) OF TWO SUCH STRINGS**: 1 just where the chars are the same -/
theorem eqW {p : Program} {l : Launch} {e : Env} {R : Room} {s : State} {args : Array Value} {below : List Frame} {len W : Nat} {Z : State} {a0 : Array Value} {h : Heap} (hZ : Z.Warmed39 s.vm) (hw : ∀ d ∈ wordsEq, d.before a0 Z = true) {kI : Nat} (wi : (Jvm.Cond.instantiable ST kI).before a0 Z = true)
    {x t : Addr} {kb : ClassId} {cs : List Int32} {cd N2 : Int32} {vs : List Value} (E : RoadKit.Exa Z h x ST) (V : RoadKit.Fld Z h x ST "value" "[B" (.ref t)) (C : RoadKit.Fld Z h x ST "coder" "B" (.int cd)) (K : RoadKit.Arv Z h t kb .byte N2 vs (.int 0)) (hc : CodA cs cd N2 vs) (hb : ∀ c ∈ cs, ¬ c < 0 ∧ ¬ (65535 : Int32) < c) (l2 : cs.length ≤ 4000)
    {y t' : Addr} {kb' : ClassId} {ds : List Int32} {cd' N2' : Int32} {vs' : List Value} (E' : RoadKit.Exa Z h y ST) (V' : RoadKit.Fld Z h y ST "value" "[B" (.ref t')) (C' : RoadKit.Fld Z h y ST "coder" "B" (.int cd')) (K' : RoadKit.Arv Z h t' kb' .byte N2' vs' (.int 0)) (hc' : CodA ds cd' N2' vs') (hb' : ∀ c ∈ ds, ¬ c < 0 ∧ ¬ (65535 : Int32) < c) (l2' : ds.length ≤ 4000)
    {z : Int32} (S : RoadKit.Sta Z h ST "COMPACT_STRINGS" "Z" (.int z)) (hz : ¬ z = 0) (hfr : 2 ≤ R.frames) (hlo : W + 28 ≤ R.locals) :
    Back l R p e below s args (⟨"java/lang/String", "equals", "(Ljava/lang/Object;)Z"⟩ : MethodName) len W (fun P a => a = #[.ref x, .ref y] ∧ P.U.heap = h ∧ P.cells + 0 ≤ R.cells ∧ P.slots + 0 ≤ R.slots)
      (fun P _ v B => ∃ L, (((v = some (.int 1) ∧ cs = ds) ∨ (v = some (.int 0) ∧ ¬ cs = ds)) ∧ L = [] ∧ B.U.heap = h) ∧ B.locs = P.locs ++ L ∧ B.cells = P.cells + 0 ∧ B.slots = P.slots + 0) := by
  intro m meth c P g ig mk a X hg hsize hdg hW hn hp'
  obtain ⟨rfl, rfl, r1, r2⟩ := hp'
  have al : Z.vm.Alike P.U.vm := hZ.alike.trans X.warmed.alike
  obtain ⟨A, hx⟩ := txt_of wi al E V C K hc hb l2
  obtain ⟨A', hy⟩ := txt_of wi al E' V' C' K' hc' hb' l2'
  obtain ⟨v, B, X', ⟨⟨w, hv, hh, hq⟩, hl, hk, hs⟩, st⟩ := SEq.pays x t A cd cs.length (fun j => cs.getD j 0) y t' A' cd' ds.length (fun j => ds.getD j 0) z (tabEq_of (movedEq hZ hw)) hfr hlo m meth c P g ig mk _ X hg hsize hdg hW hn ⟨r1, r2, rfl, hx, hy, sta_is al S, hz⟩
  refine ⟨v, B, X', ⟨[], ⟨?_, rfl, hh⟩, hl, hk, hs⟩, st⟩
  rcases hq with ⟨rfl, q⟩ | ⟨rfl, q⟩
  · exact Or.inl ⟨hv, (same_list cs ds).mp q⟩
  · exact Or.inr ⟨hv, fun e => q ((same_list cs ds).mpr e)⟩
end StrChars.Road
namespace StrChars.Road
open Jvm Sem ClassFile Op Lib Jvm.Stand Jvm.Free Jvm.Free.XT
open Jvm.Lib.Cold (StaticIs)
/-- what backV says of its String, as the contracts of this text ask it: cs's low bytes, coder 0 -/
theorem codOf {cs : List Int32} {n : Nat} (hn : cs.length = n) (hb : ∀ c ∈ cs, ¬ 255 < c) : CodA cs 0 (Int32.ofNat n) ((cs.map lo8).map Value.int) := Or.inl ⟨rfl, by rw [hn], by simp [List.map_map, Function.comp_def], hb⟩
end StrChars.Road
end Jvm.Pilot.@@N@@
namespace Jvm.Pilot.@@N@@
open Jvm Jvm.ClassFile Sem Op Lib Jvm.Free Jvm.Stand Jvm.LawKit Jvm.RoadKit Bundle Jvm.OwnKit Jvm.Pilot.@@N@@.Jvm.D
/-! plain facts on ints -/
theorem own_and255 (x : Int32) : ∃ k : Nat, k < 256 ∧ x &&& 255 = Int32.ofNat k := by
  have e : (x &&& 255).toBitVec.toNat = x.toBitVec.toNat &&& 255 := by
    show (x.toBitVec &&& (255#32)).toNat = _
    rw [BitVec.toNat_and]; rfl
  refine ⟨x.toBitVec.toNat &&& 255, Nat.lt_of_le_of_lt Nat.and_le_right (by decide), ?_⟩
  apply Int32.toBitVec_inj.mp
  apply BitVec.eq_of_toNat_eq
  rw [e]
  show _ = (BitVec.ofNat 32 _).toNat
  rw [BitVec.toNat_ofNat, Nat.mod_eq_of_lt (Nat.lt_of_le_of_lt Nat.and_le_right (by decide))]
theorem own_ch (x : Int32) : nar .char ((x &&& (255 : Int32)).toUInt32.toUInt16.toUInt32.toInt32) = x &&& 255 := by
  show ((x &&& (255 : Int32)).toUInt32.toUInt16.toUInt32.toInt32).toUInt32.toUInt16.toUInt32.toInt32 = _
  rw [i2c_mask, i2c_mask]
theorem own_b255 (x : Int32) : ¬ (x &&& 255) < 0 ∧ ¬ (255 : Int32) < (x &&& 255) := by
  obtain ⟨k, hk, e⟩ := own_and255 x
  rw [e]
  have t : ∀ k : Fin 256, ¬ Int32.ofNat k.val < 0 ∧ ¬ (255 : Int32) < Int32.ofNat k.val := by decide +kernel
  exact t ⟨k, hk⟩
theorem own_ch255 (x : Int32) : ¬ nar .char ((x &&& (255 : Int32)).toUInt32.toUInt16.toUInt32.toInt32) < 0 ∧ ¬ (255 : Int32) < nar .char ((x &&& (255 : Int32)).toUInt32.toUInt16.toUInt32.toInt32) := by
  rw [own_ch]; exact own_b255 x
theorem own_nar_obj {n : String} {v : Value} (h : v.isRef = true) : narrow (.object n) v = v := by rcases ref_cases h with rfl | ⟨_, rfl⟩ <;> rfl
theorem own_fit_obj {n : String} {v : Value} (h : v.isRef = true) : fits (.object n) v = true := by rcases ref_cases h with rfl | ⟨_, rfl⟩ <;> rfl
theorem own_nar255 (x : Int32) : nar .char (x &&& (255 : Int32)) = x &&& 255 := by
  show (x &&& (255 : Int32)).toUInt32.toUInt16.toUInt32.toInt32 = _
  rw [i2c_mask]
theorem own_narc {c : Int32} (h : ¬ c < 0 ∧ ¬ (255 : Int32) < c) : nar .char c = c := by
  have e : c = c &&& 255 := by
    obtain ⟨k, hk⟩ : ∃ k : Fin 256, c = Int32.ofNat k.val := by
      have h1 := h.1; have h2 := h.2
      rw [Int32.lt_iff_toInt_lt] at h1 h2
      have e0 : (0 : Int32).toInt = 0 := rfl
      have e1 : (255 : Int32).toInt = 255 := rfl
      refine ⟨⟨c.toInt.toNat, by omega⟩, ?_⟩
      apply Int32.toInt_inj.mp
      show c.toInt = (Int32.ofNat c.toInt.toNat).toInt
      rw [Int32.toInt_ofNat_of_lt (by omega)]
      omega
    subst hk
    have t : ∀ k : Fin 256, Int32.ofNat k.val = Int32.ofNat k.val &&& 255 := by decide +kernel
    exact t k
  rw [e]; exact own_nar255 c
theorem own_i2c {c : Int32} (h : ¬ c < 0 ∧ ¬ (255 : Int32) < c) : c.toUInt32.toUInt16.toUInt32.toInt32 = c := own_narc h
theorem own_andk (x : Int32) (m : Nat) (hm : m < 2147483648) : ∃ k : Nat, k ≤ m ∧ x &&& Int32.ofNat m = Int32.ofNat k := by
  have e : (x &&& Int32.ofNat m).toBitVec.toNat = x.toBitVec.toNat &&& m := by
    show (x.toBitVec &&& BitVec.ofNat 32 m).toNat = _
    rw [BitVec.toNat_and, BitVec.toNat_ofNat, Nat.mod_eq_of_lt (by omega)]
  refine ⟨x.toBitVec.toNat &&& m, Nat.and_le_right, ?_⟩
  apply Int32.toBitVec_inj.mp
  apply BitVec.eq_of_toNat_eq
  rw [e]
  show _ = (BitVec.ofNat 32 _).toNat
  rw [BitVec.toNat_ofNat, Nat.mod_eq_of_lt (Nat.lt_of_le_of_lt Nat.and_le_right (by omega))]
theorem own_and3 (x : Int32) : x &&& (3 : Int32) = 0 ∨ x &&& (3 : Int32) = 1 ∨ x &&& (3 : Int32) = 2 ∨ x &&& (3 : Int32) = 3 := by
  obtain ⟨k, hk, e⟩ := own_andk x 3 (by decide)
  have e' : x &&& (3 : Int32) = Int32.ofNat k := e
  rw [e']
  have t : ∀ k : Fin 4, Int32.ofNat k.val = 0 ∨ Int32.ofNat k.val = 1 ∨ Int32.ofNat k.val = 2 ∨ Int32.ofNat k.val = 3 := by decide
  exact t ⟨k, by omega⟩
theorem own_rem3 (x : Int32) : (x &&& (3 : Int32)) - (x &&& (3 : Int32)) / 3 * 3 = 0 ∨ (x &&& (3 : Int32)) - (x &&& (3 : Int32)) / 3 * 3 = 1 ∨ (x &&& (3 : Int32)) - (x &&& (3 : Int32)) / 3 * 3 = 2 := by
  rcases own_and3 x with e | e | e | e <;> rw [e] <;> decide
/-- the chars of mk(n, c0, c1) -/
def own_cs (n c0 c1 : Int32) : List Int32 := if n = 0 then [] else if n = 1 then [c0] else [c0, c1]
theorem own_acmp_ne {v : Value} (h : v.isRef = true) : Jvm.Free.XT.acmp .ne v v = false := by simp [Jvm.Free.XT.acmp]
theorem own_acmp_eq {v : Value} (h : v.isRef = true) : Jvm.Free.XT.acmp .eq v v = true := by simp [Jvm.Free.XT.acmp]
theorem own_narb (x : Int32) : nar .byte (x.toInt8.toInt32) = x.toInt8.toInt32 := by
  show x.toInt8.toInt32.toInt8.toInt32 = _
  rw [Int8.toInt8_toInt32]
/-- the chars of mk(n, c0, c1, c2) -/
def own_cs4 (n c0 c1 c2 : Int32) : List Int32 := if n = 0 then [] else if n = 1 then [c0] else if n = 2 then [c0, c1] else [c0, c1, c2]
theorem own_rem (x m d : Int32) (hm : 0 ≤ m.toInt) (hd : 0 < d.toInt) : 0 ≤ ((x &&& m) - (x &&& m) / d * d).toInt ∧ ((x &&& m) - (x &&& m) / d * d).toInt < d.toInt := by
  rw [irem_eq_mod]
  have h1 := (c_and x m hm).1
  rw [(c_irem (x &&& m) d _ rfl).1 h1]
  exact ⟨Int.emod_nonneg _ (by omega), Int.emod_lt_of_pos _ hd⟩
theorem own_enum3 {r : Int32} (h : 0 ≤ r.toInt ∧ r.toInt < (3 : Int32).toInt) : r = 0 ∨ r = 1 ∨ r = 2 := by
  have e3 : (3 : Int32).toInt = 3 := rfl
  have : r.toInt = 0 ∨ r.toInt = 1 ∨ r.toInt = 2 := by omega
  rcases this with e | e | e
  · exact Or.inl (Int32.toInt_inj.mp e)
  · exact Or.inr (Or.inl (Int32.toInt_inj.mp e))
  · exact Or.inr (Or.inr (Int32.toInt_inj.mp e))
theorem own_enum5 {r : Int32} (h : 0 ≤ r.toInt ∧ r.toInt < (5 : Int32).toInt) : r = 0 ∨ r = 1 ∨ r = 2 ∨ r = 3 ∨ r = 4 := by
  have e3 : (5 : Int32).toInt = 5 := rfl
  have : r.toInt = 0 ∨ r.toInt = 1 ∨ r.toInt = 2 ∨ r.toInt = 3 ∨ r.toInt = 4 := by omega
  rcases this with e | e | e | e | e
  · exact Or.inl (Int32.toInt_inj.mp e)
  · exact Or.inr (Or.inl (Int32.toInt_inj.mp e))
  · exact Or.inr (Or.inr (Or.inl (Int32.toInt_inj.mp e)))
  · exact Or.inr (Or.inr (Or.inr (Or.inl (Int32.toInt_inj.mp e))))
  · exact Or.inr (Or.inr (Or.inr (Or.inr (Int32.toInt_inj.mp e))))
theorem own_enum6 {r : Int32} (h : 0 ≤ r.toInt ∧ r.toInt < (6 : Int32).toInt) : r = 0 ∨ r = 1 ∨ r = 2 ∨ r = 3 ∨ r = 4 ∨ r = 5 := by
  have e3 : (6 : Int32).toInt = 6 := rfl
  have : r.toInt = 0 ∨ r.toInt = 1 ∨ r.toInt = 2 ∨ r.toInt = 3 ∨ r.toInt = 4 ∨ r.toInt = 5 := by omega
  rcases this with e | e | e | e | e | e
  · exact Or.inl (Int32.toInt_inj.mp e)
  · exact Or.inr (Or.inl (Int32.toInt_inj.mp e))
  · exact Or.inr (Or.inr (Or.inl (Int32.toInt_inj.mp e)))
  · exact Or.inr (Or.inr (Or.inr (Or.inl (Int32.toInt_inj.mp e))))
  · exact Or.inr (Or.inr (Or.inr (Or.inr (Or.inl (Int32.toInt_inj.mp e)))))
  · exact Or.inr (Or.inr (Or.inr (Or.inr (Or.inr (Int32.toInt_inj.mp e)))))
theorem own_fldstart {Z : State} {args : Array Value} {t : Term} {a : Addr} {C n d : String} {k : Int32} (ev : t.eval args Z none [] Z = some (.ref a)) (h : (Jvm.Cond.eq (.field t C n d) (.int k)).value args Z none Z [] = some true) : Fld Z Z.heap a C n d (.int k) := by
  have h2 := Cond.eq_int (first := Z) (t := Z) (args := args) (Cond.before_iff.mpr h) rfl
  rw [fld_at ev] at h2
  exact Fld.start h2
theorem own_up {cs : List Int32} (hp : ∀ c ∈ cs, ¬ c < 0 ∧ ¬ (255 : Int32) < c) : ∀ c ∈ cs, ¬ c < 0 ∧ ¬ (65535 : Int32) < c := fun c hc => ⟨(hp c hc).1, fun q => (hp c hc).2 (Int32.lt_trans (by decide) q)⟩
theorem own_n10 : ¬ ((1 : Int32) = 0) := by decide
theorem own_n20 : ¬ ((2 : Int32) = 0) := by decide
theorem own_n21 : ¬ ((2 : Int32) = 1) := by decide
theorem own_n30 : ¬ ((3 : Int32) = 0) := by decide
theorem own_n31 : ¬ ((3 : Int32) = 1) := by decide
theorem own_n32 : ¬ ((3 : Int32) = 2) := by decide
theorem own_bite {P : Prop} [Decidable P] {a b : Int32} (ha : ¬ a < 0 ∧ ¬ (255 : Int32) < a) (hb : ¬ b < 0 ∧ ¬ (255 : Int32) < b) : ¬ (if P then a else b) < 0 ∧ ¬ (255 : Int32) < (if P then a else b) := by
  by_cases h : P
  · rw [if_pos h]; exact ha
  · rw [if_neg h]; exact hb
theorem own_ite4 {P : Prop} [Decidable P] {a b : Int32} (ha : a = 0 ∨ a = 1 ∨ a = 2 ∨ a = 3) (hb : b = 0 ∨ b = 1 ∨ b = 2 ∨ b = 3) : (if P then a else b) = 0 ∨ (if P then a else b) = 1 ∨ (if P then a else b) = 2 ∨ (if P then a else b) = 3 := by
  by_cases h : P
  · rw [if_pos h]; exact ha
  · rw [if_neg h]; exact hb
theorem own_newP {p : Program} {l : Launch} {e : Env} {R : Room} {s : State} {args : Array Value} {below : List Frame} {len W : Nat} {Z : State} {a0 : Array Value} {h : Heap} (hws : ∀ d ∈ StrChars.Road.words, d.before a0 Z = true) {kI : Nat} (wi : (Jvm.Cond.instantiable "java/lang/String" kI).before a0 Z = true) {x b : Addr} {kC : ClassId} {cs : List Int32} {d v0 c0 : Value} {N : Int32} {n : Nat} (hx0 : Z.heap.size ≤ x) (hO : Ext Z.heap h) (E : Exa Z h x "java/lang/String") (V : Fld Z h x "java/lang/String" "value" "[B" v0) (C : Fld Z h x "java/lang/String" "coder" "B" c0) (K : Arv Z h b kC .char N (cs.map Value.int) d) {G1 : Int32} (O2 : Sta Z Z.heap "java/lang/String" "COMPACT_STRINGS" "Z" (.int G1)) (P5 : ¬ G1 = 0)
    (hn : cs.length = n) (hN : N = Int32.ofNat n) (l0 : 0 < n) (l2 : n ≤ 4000) (hp : ∀ c ∈ cs, ¬ c < 0 ∧ ¬ (255 : Int32) < c) (hfr : 4 ≤ R.frames) (hlo : W + 65 ≤ R.locals) :
    Pays l R p e below s args Z (⟨"java/lang/String", "<init>", "([C)V"⟩ : MethodName) len W #[.ref x, .ref b] h 1 n (fun v h' L => v = none ∧ Fr Z.heap.size L ∧ Keep h h' [x] ∧ LStr Z h' x cs) := by
  subst hn hN
  intro vm0 hv
  refine Back.mono (StrChars.Road.backV (s := s.setVm vm0) (W := W) hv hws wi (bs := cs.map fun c => c.toInt8.toInt32) (n0 := Z.heap.size) hx0 hO.1 E V C K (O2.ext hO) P5 rfl rfl l0 l2 hp rfl hfr hlo) (fun _ _ q => q) (fun P a v B _ q => ?_)
  obtain ⟨L, ⟨q1, q2, q3, q4, q5, t, kb, -, -, -, q6, q7⟩, r⟩ := q
  exact ⟨L, ⟨q1, q2, q3, q4, q5, ⟨t, kb, q6, q7⟩, hp, l2⟩, r⟩
theorem own_eqP {p : Program} {l : Launch} {e : Env} {R : Room} {s : State} {args : Array Value} {below : List Frame} {len W : Nat} {Z : State} {a0 : Array Value} {h : Heap} (hws : ∀ d ∈ StrChars.Road.wordsEq, d.before a0 Z = true) {kI : Nat} (wi : (Jvm.Cond.instantiable "java/lang/String" kI).before a0 Z = true) {x y : Addr} {cs ds : List Int32} (S : LStr Z h x cs) (S' : LStr Z h y ds) {G1 : Int32} (O2 : Sta Z Z.heap "java/lang/String" "COMPACT_STRINGS" "Z" (.int G1)) (P5 : ¬ G1 = 0) (hO : Ext Z.heap h) (hfr : 2 ≤ R.frames) (hlo : W + 28 ≤ R.locals) :
    Pays l R p e below s args Z (⟨"java/lang/String", "equals", "(Ljava/lang/Object;)Z"⟩ : MethodName) len W #[.ref x, .ref y] h 0 0 (fun v h' L => ((v = some (.int 1) ∧ cs = ds) ∨ (v = some (.int 0) ∧ ¬ cs = ds)) ∧ L = [] ∧ h' = h) := by
  obtain ⟨Es, Cs, ⟨t, kb, Vs, Ks⟩, hp, hl⟩ := S
  obtain ⟨Es', Cs', ⟨t', kb', Vs', Ks'⟩, hp', hl'⟩ := S'
  exact fun vm0 hv => StrChars.Road.eqW (s := s.setVm vm0) (W := W) hv hws wi Es Vs Cs Ks (StrChars.Road.codOf rfl (fun c hc => (hp c hc).2)) (own_up hp) hl Es' Vs' Cs' Ks' (StrChars.Road.codOf rfl (fun c hc => (hp' c hc).2)) (own_up hp') hl' (O2.ext hO) P5 hfr hlo
theorem w_0 {Z : State} {a0 : Array Value} (hw : ∀ d ∈ tables_1, d.before a0 Z = true) : (Jvm.Cond.methodLink "com/example/matchmaker/matchmaker/registry/ParameterEqualsPinLaw" (27 : Nat) ({ cls := "com/example/matchmaker/matchmaker/registry/ParameterEqualsPinLaw", name := "mk", desc := "(ICC)Ljava/lang/String;" } : Jvm.MethodName)).before a0 Z = true := hw _ (List.mem_of_getElem? (i := 0) rfl)
theorem w_1 {Z : State} {a0 : Array Value} (hw : ∀ d ∈ tables_1, d.before a0 Z = true) : (Jvm.Cond.static ({ cls := "com/example/matchmaker/matchmaker/registry/ParameterEqualsPinLaw", name := "mk", desc := "(ICC)Ljava/lang/String;" } : Jvm.MethodName)).before a0 Z = true := hw _ (List.mem_of_getElem? (i := 1) rfl)
theorem w_2 {Z : State} {a0 : Array Value} (hw : ∀ d ∈ tables_1, d.before a0 Z = true) : (Jvm.Cond.initialized "com/example/matchmaker/matchmaker/registry/ParameterEqualsPinLaw").before a0 Z = true := hw _ (List.mem_of_getElem? (i := 2) rfl)
theorem w_3 {Z : State} {a0 : Array Value} (hw : ∀ d ∈ tables_1, d.before a0 Z = true) : (Jvm.Cond.code ({ cls := "com/example/matchmaker/matchmaker/registry/ParameterEqualsPinLaw", name := "mk", desc := "(ICC)Ljava/lang/String;" } : Jvm.MethodName) method_3_code (3 : Nat) (Option.some (Jvm.ClassFile.FieldType.object "java/lang/String"))).before a0 Z = true := hw _ (List.mem_of_getElem? (i := 3) rfl)
theorem w_4 {Z : State} {a0 : Array Value} (hw : ∀ d ∈ tables_1, d.before a0 Z = true) : (Jvm.Cond.classLink "com/example/matchmaker/matchmaker/registry/ParameterEqualsPinLaw" (22 : Nat) "java/lang/String").before a0 Z = true := hw _ (List.mem_of_getElem? (i := 4) rfl)
theorem w_5 {Z : State} {a0 : Array Value} (hw : ∀ d ∈ tables_1, d.before a0 Z = true) : (Jvm.Cond.instantiable "java/lang/String" (4 : Nat)).before a0 Z = true := hw _ (List.mem_of_getElem? (i := 5) rfl)
theorem w_6 {Z : State} {a0 : Array Value} (hw : ∀ d ∈ tables_1, d.before a0 Z = true) : (Jvm.Cond.initialized "java/lang/String").before a0 Z = true := hw _ (List.mem_of_getElem? (i := 6) rfl)
theorem w_7 {Z : State} {a0 : Array Value} (hw : ∀ d ∈ tables_1, d.before a0 Z = true) : (Jvm.Cond.arrayClass Jvm.ClassFile.FieldType.char).before a0 Z = true := hw _ (List.mem_of_getElem? (i := 7) rfl)
theorem w_8 {Z : State} {a0 : Array Value} (hw : ∀ d ∈ tables_1, d.before a0 Z = true) : (Jvm.Cond.methodLink "com/example/matchmaker/matchmaker/registry/ParameterEqualsPinLaw" (24 : Nat) ({ cls := "java/lang/String", name := "<init>", desc := "([C)V" } : Jvm.MethodName)).before a0 Z = true := hw _ (List.mem_of_getElem? (i := 8) rfl)
theorem w_9 {Z : State} {a0 : Array Value} (hw : ∀ d ∈ tables_1, d.before a0 Z = true) : (Jvm.Cond.instanceMethod ({ cls := "java/lang/String", name := "<init>", desc := "([C)V" } : Jvm.MethodName)).before a0 Z = true := hw _ (List.mem_of_getElem? (i := 9) rfl)
theorem w_10 {Z : State} {a0 : Array Value} (hw : ∀ d ∈ tables_1, d.before a0 Z = true) : (Jvm.Cond.code ({ cls := "java/lang/String", name := "<init>", desc := "([C)V" } : Jvm.MethodName) jdk_42_method_3_code (2 : Nat) (Option.none : Option Jvm.ClassFile.FieldType)).before a0 Z = true := hw _ (List.mem_of_getElem? (i := 10) rfl)
theorem w_11 {Z : State} {a0 : Array Value} (hw : ∀ d ∈ tables_1, d.before a0 Z = true) : (Jvm.Cond.methodLink "java/lang/String" (27 : Nat) ({ cls := "java/lang/String", name := "<init>", desc := "([CIILjava/lang/Void;)V" } : Jvm.MethodName)).before a0 Z = true := hw _ (List.mem_of_getElem? (i := 11) rfl)
theorem w_12 {Z : State} {a0 : Array Value} (hw : ∀ d ∈ tables_1, d.before a0 Z = true) : (Jvm.Cond.instanceMethod ({ cls := "java/lang/String", name := "<init>", desc := "([CIILjava/lang/Void;)V" } : Jvm.MethodName)).before a0 Z = true := hw _ (List.mem_of_getElem? (i := 12) rfl)
theorem w_14 {Z : State} {a0 : Array Value} (hw : ∀ d ∈ tables_1, d.before a0 Z = true) : (Jvm.Cond.code ({ cls := "java/lang/String", name := "<init>", desc := "([CIILjava/lang/Void;)V" } : Jvm.MethodName) jdk_42_method_149_code (6 : Nat) (Option.none : Option Jvm.ClassFile.FieldType)).before a0 Z = true := hw _ (List.mem_of_getElem? (i := 14) rfl)
theorem w_15 {Z : State} {a0 : Array Value} (hw : ∀ d ∈ tables_1, d.before a0 Z = true) : (Jvm.Cond.methodLink "java/lang/String" (1 : Nat) ({ cls := "java/lang/Object", name := "<init>", desc := "()V" } : Jvm.MethodName)).before a0 Z = true := hw _ (List.mem_of_getElem? (i := 15) rfl)
theorem w_16 {Z : State} {a0 : Array Value} (hw : ∀ d ∈ tables_1, d.before a0 Z = true) : (Jvm.Cond.instanceMethod ({ cls := "java/lang/Object", name := "<init>", desc := "()V" } : Jvm.MethodName)).before a0 Z = true := hw _ (List.mem_of_getElem? (i := 16) rfl)
theorem w_17 {Z : State} {a0 : Array Value} (hw : ∀ d ∈ tables_1, d.before a0 Z = true) : (Jvm.Cond.code ({ cls := "java/lang/Object", name := "<init>", desc := "()V" } : Jvm.MethodName) object_method_1_code (1 : Nat) (Option.none : Option Jvm.ClassFile.FieldType)).before a0 Z = true := hw _ (List.mem_of_getElem? (i := 17) rfl)
theorem w_18 {Z : State} {a0 : Array Value} (hw : ∀ d ∈ tables_1, d.before a0 Z = true) : (Jvm.Cond.stringLink "java/lang/String" (7 : Nat) "").before a0 Z = true := hw _ (List.mem_of_getElem? (i := 18) rfl)
theorem w_20 {Z : State} {a0 : Array Value} (hw : ∀ d ∈ tables_1, d.before a0 Z = true) : (Jvm.Cond.laysFinal "java/lang/String" "java/lang/String" "value" "[B").before a0 Z = true := hw _ (List.mem_of_getElem? (i := 20) rfl)
theorem w_21 {Z : State} {a0 : Array Value} (hw : ∀ d ∈ tables_1, d.before a0 Z = true) : (Jvm.Cond.laysFinal "java/lang/String" "java/lang/String" "coder" "B").before a0 Z = true := hw _ (List.mem_of_getElem? (i := 21) rfl)
theorem w_24 {Z : State} {a0 : Array Value} (hw : ∀ d ∈ tables_1, d.before a0 Z = true) : (Jvm.Cond.fieldLink "java/lang/String" (9 : Nat) "java/lang/String" "value" "[B").before a0 Z = true := hw _ (List.mem_of_getElem? (i := 24) rfl)
theorem w_25 {Z : State} {a0 : Array Value} (hw : ∀ d ∈ tables_1, d.before a0 Z = true) : (Jvm.Cond.fieldLink "java/lang/String" (15 : Nat) "java/lang/String" "coder" "B").before a0 Z = true := hw _ (List.mem_of_getElem? (i := 25) rfl)
theorem w_26 {Z : State} {a0 : Array Value} (hw : ∀ d ∈ tables_1, d.before a0 Z = true) : (Jvm.Cond.classLink "com/example/matchmaker/matchmaker/registry/ParameterEqualsPinLaw" (33 : Nat) "com/example/matchmaker/matchmaker/registry/Parameter").before a0 Z = true := hw _ (List.mem_of_getElem? (i := 26) rfl)
theorem w_27 {Z : State} {a0 : Array Value} (hw : ∀ d ∈ tables_1, d.before a0 Z = true) : (Jvm.Cond.instantiable "com/example/matchmaker/matchmaker/registry/Parameter" (2 : Nat)).before a0 Z = true := hw _ (List.mem_of_getElem? (i := 27) rfl)
theorem w_28 {Z : State} {a0 : Array Value} (hw : ∀ d ∈ tables_1, d.before a0 Z = true) : (Jvm.Cond.initialized "com/example/matchmaker/matchmaker/registry/Parameter").before a0 Z = true := hw _ (List.mem_of_getElem? (i := 28) rfl)
theorem w_29 {Z : State} {a0 : Array Value} (hw : ∀ d ∈ tables_1, d.before a0 Z = true) : (Jvm.Cond.methodLink "com/example/matchmaker/matchmaker/registry/ParameterEqualsPinLaw" (35 : Nat) ({ cls := "com/example/matchmaker/matchmaker/registry/ParameterEqualsPinLaw", name := "loc", desc := "(I)Lcom/example/matchmaker/matchmaker/registry/Parameter$Location;" } : Jvm.MethodName)).before a0 Z = true := hw _ (List.mem_of_getElem? (i := 29) rfl)
theorem w_30 {Z : State} {a0 : Array Value} (hw : ∀ d ∈ tables_1, d.before a0 Z = true) : (Jvm.Cond.static ({ cls := "com/example/matchmaker/matchmaker/registry/ParameterEqualsPinLaw", name := "loc", desc := "(I)Lcom/example/matchmaker/matchmaker/registry/Parameter$Location;" } : Jvm.MethodName)).before a0 Z = true := hw _ (List.mem_of_getElem? (i := 30) rfl)
theorem w_31 {Z : State} {a0 : Array Value} (hw : ∀ d ∈ tables_1, d.before a0 Z = true) : (Jvm.Cond.code ({ cls := "com/example/matchmaker/matchmaker/registry/ParameterEqualsPinLaw", name := "loc", desc := "(I)Lcom/example/matchmaker/matchmaker/registry/Parameter$Location;" } : Jvm.MethodName) method_2_code (1 : Nat) (Option.some (Jvm.ClassFile.FieldType.object "com/example/matchmaker/matchmaker/registry/Parameter$Location"))).before a0 Z = true := hw _ (List.mem_of_getElem? (i := 31) rfl)
theorem w_32 {Z : State} {a0 : Array Value} (hw : ∀ d ∈ tables_1, d.before a0 Z = true) : (Jvm.Cond.fieldLink "com/example/matchmaker/matchmaker/registry/ParameterEqualsPinLaw" (16 : Nat) "com/example/matchmaker/matchmaker/registry/Parameter$Location" "HEADER" "Lcom/example/matchmaker/matchmaker/registry/Parameter$Location;").before a0 Z = true := hw _ (List.mem_of_getElem? (i := 32) rfl)
theorem w_35 {Z : State} {a0 : Array Value} (hw : ∀ d ∈ tables_1, d.before a0 Z = true) : (Jvm.Cond.methodLink "com/example/matchmaker/matchmaker/registry/ParameterEqualsPinLaw" (39 : Nat) ({ cls := "com/example/matchmaker/matchmaker/registry/Parameter", name := "<init>", desc := "(Ljava/lang/String;Lcom/example/matchmaker/matchmaker/registry/Parameter$Location;)V" } : Jvm.MethodName)).before a0 Z = true := hw _ (List.mem_of_getElem? (i := 35) rfl)
theorem w_36 {Z : State} {a0 : Array Value} (hw : ∀ d ∈ tables_1, d.before a0 Z = true) : (Jvm.Cond.instanceMethod ({ cls := "com/example/matchmaker/matchmaker/registry/Parameter", name := "<init>", desc := "(Ljava/lang/String;Lcom/example/matchmaker/matchmaker/registry/Parameter$Location;)V" } : Jvm.MethodName)).before a0 Z = true := hw _ (List.mem_of_getElem? (i := 36) rfl)
theorem w_37 {Z : State} {a0 : Array Value} (hw : ∀ d ∈ tables_1, d.before a0 Z = true) : (Jvm.Cond.code ({ cls := "com/example/matchmaker/matchmaker/registry/Parameter", name := "<init>", desc := "(Ljava/lang/String;Lcom/example/matchmaker/matchmaker/registry/Parameter$Location;)V" } : Jvm.MethodName) prog_34_method_1_code (3 : Nat) (Option.none : Option Jvm.ClassFile.FieldType)).before a0 Z = true := hw _ (List.mem_of_getElem? (i := 37) rfl)
theorem w_38 {Z : State} {a0 : Array Value} (hw : ∀ d ∈ tables_1, d.before a0 Z = true) : (Jvm.Cond.methodLink "com/example/matchmaker/matchmaker/registry/Parameter" (1 : Nat) ({ cls := "java/lang/Object", name := "<init>", desc := "()V" } : Jvm.MethodName)).before a0 Z = true := hw _ (List.mem_of_getElem? (i := 38) rfl)
theorem w_39 {Z : State} {a0 : Array Value} (hw : ∀ d ∈ tables_1, d.before a0 Z = true) : (Jvm.Cond.stringLink "com/example/matchmaker/matchmaker/registry/Parameter" (7 : Nat) "name").before a0 Z = true := hw _ (List.mem_of_getElem? (i := 39) rfl)
theorem w_40 {Z : State} {a0 : Array Value} (hw : ∀ d ∈ tables_1, d.before a0 Z = true) : (Jvm.Cond.methodLink "com/example/matchmaker/matchmaker/registry/Parameter" (9 : Nat) ({ cls := "java/util/Objects", name := "requireNonNull", desc := "(Ljava/lang/Object;Ljava/lang/String;)Ljava/lang/Object;" } : Jvm.MethodName)).before a0 Z = true := hw _ (List.mem_of_getElem? (i := 40) rfl)
theorem w_41 {Z : State} {a0 : Array Value} (hw : ∀ d ∈ tables_1, d.before a0 Z = true) : (Jvm.Cond.static ({ cls := "java/util/Objects", name := "requireNonNull", desc := "(Ljava/lang/Object;Ljava/lang/String;)Ljava/lang/Object;" } : Jvm.MethodName)).before a0 Z = true := hw _ (List.mem_of_getElem? (i := 41) rfl)
theorem w_42 {Z : State} {a0 : Array Value} (hw : ∀ d ∈ tables_1, d.before a0 Z = true) : (Jvm.Cond.initialized "java/util/Objects").before a0 Z = true := hw _ (List.mem_of_getElem? (i := 42) rfl)
theorem w_43 {Z : State} {a0 : Array Value} (hw : ∀ d ∈ tables_1, d.before a0 Z = true) : (Jvm.Cond.code ({ cls := "java/util/Objects", name := "requireNonNull", desc := "(Ljava/lang/Object;Ljava/lang/String;)Ljava/lang/Object;" } : Jvm.MethodName) jdk_31_method_11_code (2 : Nat) (Option.some (Jvm.ClassFile.FieldType.object "java/lang/Object"))).before a0 Z = true := hw _ (List.mem_of_getElem? (i := 43) rfl)
theorem w_44 {Z : State} {a0 : Array Value} (hw : ∀ d ∈ tables_1, d.before a0 Z = true) : (Jvm.Cond.classLink "com/example/matchmaker/matchmaker/registry/Parameter" (15 : Nat) "java/lang/String").before a0 Z = true := hw _ (List.mem_of_getElem? (i := 44) rfl)
theorem w_45 {Z : State} {a0 : Array Value} (hw : ∀ d ∈ tables_1, d.before a0 Z = true) : (Jvm.Cond.fieldLink "com/example/matchmaker/matchmaker/registry/Parameter" (17 : Nat) "com/example/matchmaker/matchmaker/registry/Parameter" "name" "Ljava/lang/String;").before a0 Z = true := hw _ (List.mem_of_getElem? (i := 45) rfl)
theorem w_46 {Z : State} {a0 : Array Value} (hw : ∀ d ∈ tables_1, d.before a0 Z = true) : (Jvm.Cond.laysFinal "com/example/matchmaker/matchmaker/registry/Parameter" "com/example/matchmaker/matchmaker/registry/Parameter" "name" "Ljava/lang/String;").before a0 Z = true := hw _ (List.mem_of_getElem? (i := 46) rfl)
theorem w_47 {Z : State} {a0 : Array Value} (hw : ∀ d ∈ tables_1, d.before a0 Z = true) : (Jvm.Cond.stringLink "com/example/matchmaker/matchmaker/registry/Parameter" (22 : Nat) "location").before a0 Z = true := hw _ (List.mem_of_getElem? (i := 47) rfl)
theorem w_48 {Z : State} {a0 : Array Value} (hw : ∀ d ∈ tables_1, d.before a0 Z = true) : (Jvm.Cond.classLink "com/example/matchmaker/matchmaker/registry/Parameter" (24 : Nat) "com/example/matchmaker/matchmaker/registry/Parameter$Location").before a0 Z = true := hw _ (List.mem_of_getElem? (i := 48) rfl)
theorem w_50 {Z : State} {a0 : Array Value} (hw : ∀ d ∈ tables_1, d.before a0 Z = true) : (Jvm.Cond.fieldLink "com/example/matchmaker/matchmaker/registry/Parameter" (26 : Nat) "com/example/matchmaker/matchmaker/registry/Parameter" "location" "Lcom/example/matchmaker/matchmaker/registry/Parameter$Location;").before a0 Z = true := hw _ (List.mem_of_getElem? (i := 50) rfl)
theorem w_51 {Z : State} {a0 : Array Value} (hw : ∀ d ∈ tables_1, d.before a0 Z = true) : (Jvm.Cond.laysFinal "com/example/matchmaker/matchmaker/registry/Parameter" "com/example/matchmaker/matchmaker/registry/Parameter" "location" "Lcom/example/matchmaker/matchmaker/registry/Parameter$Location;").before a0 Z = true := hw _ (List.mem_of_getElem? (i := 51) rfl)
theorem w_52 {Z : State} {a0 : Array Value} (hw : ∀ d ∈ tables_1, d.before a0 Z = true) : (Jvm.Cond.fieldLink "com/example/matchmaker/matchmaker/registry/ParameterEqualsPinLaw" (7 : Nat) "com/example/matchmaker/matchmaker/registry/Parameter$Location" "PATH" "Lcom/example/matchmaker/matchmaker/registry/Parameter$Location;").before a0 Z = true := hw _ (List.mem_of_getElem? (i := 52) rfl)
theorem w_54 {Z : State} {a0 : Array Value} (hw : ∀ d ∈ tables_1, d.before a0 Z = true) : (Jvm.Cond.methodLink "com/example/matchmaker/matchmaker/registry/ParameterEqualsPinLaw" (42 : Nat) ({ cls := "com/example/matchmaker/matchmaker/registry/Parameter", name := "equals", desc := "(Ljava/lang/Object;)Z" } : Jvm.MethodName)).before a0 Z = true := hw _ (List.mem_of_getElem? (i := 54) rfl)
theorem w_55 {Z : State} {a0 : Array Value} (hw : ∀ d ∈ tables_1, d.before a0 Z = true) : (Jvm.Cond.declares ({ cls := "com/example/matchmaker/matchmaker/registry/Parameter", name := "equals", desc := "(Ljava/lang/Object;)Z" } : Jvm.MethodName)).before a0 Z = true := hw _ (List.mem_of_getElem? (i := 55) rfl)
theorem w_56 {Z : State} {a0 : Array Value} (hw : ∀ d ∈ tables_1, d.before a0 Z = true) : (Jvm.Cond.instanceMethod ({ cls := "com/example/matchmaker/matchmaker/registry/Parameter", name := "equals", desc := "(Ljava/lang/Object;)Z" } : Jvm.MethodName)).before a0 Z = true := hw _ (List.mem_of_getElem? (i := 56) rfl)
theorem w_57 {Z : State} {a0 : Array Value} (hw : ∀ d ∈ tables_1, d.before a0 Z = true) : (Jvm.Cond.selects "com/example/matchmaker/matchmaker/registry/Parameter" ({ cls := "com/example/matchmaker/matchmaker/registry/Parameter", name := "equals", desc := "(Ljava/lang/Object;)Z" } : Jvm.MethodName) ({ cls := "com/example/matchmaker/matchmaker/registry/Parameter", name := "equals", desc := "(Ljava/lang/Object;)Z" } : Jvm.MethodName)).before a0 Z = true := hw _ (List.mem_of_getElem? (i := 57) rfl)
theorem w_58 {Z : State} {a0 : Array Value} (hw : ∀ d ∈ tables_1, d.before a0 Z = true) : (Jvm.Cond.code ({ cls := "com/example/matchmaker/matchmaker/registry/Parameter", name := "equals", desc := "(Ljava/lang/Object;)Z" } : Jvm.MethodName) prog_34_method_4_code (3 : Nat) (Option.some Jvm.ClassFile.FieldType.boolean)).before a0 Z = true := hw _ (List.mem_of_getElem? (i := 58) rfl)
theorem w_59 {Z : State} {a0 : Array Value} (hw : ∀ d ∈ tables_1, d.before a0 Z = true) : (Jvm.Cond.classLink "com/example/matchmaker/matchmaker/registry/Parameter" (18 : Nat) "com/example/matchmaker/matchmaker/registry/Parameter").before a0 Z = true := hw _ (List.mem_of_getElem? (i := 59) rfl)
theorem w_61 {Z : State} {a0 : Array Value} (hw : ∀ d ∈ tables_1, d.before a0 Z = true) : (Jvm.Cond.methodLink "com/example/matchmaker/matchmaker/registry/Parameter" (29 : Nat) ({ cls := "java/lang/String", name := "equals", desc := "(Ljava/lang/Object;)Z" } : Jvm.MethodName)).before a0 Z = true := hw _ (List.mem_of_getElem? (i := 61) rfl)
theorem w_62 {Z : State} {a0 : Array Value} (hw : ∀ d ∈ tables_1, d.before a0 Z = true) : (Jvm.Cond.declares ({ cls := "java/lang/String", name := "equals", desc := "(Ljava/lang/Object;)Z" } : Jvm.MethodName)).before a0 Z = true := hw _ (List.mem_of_getElem? (i := 62) rfl)
theorem w_63 {Z : State} {a0 : Array Value} (hw : ∀ d ∈ tables_1, d.before a0 Z = true) : (Jvm.Cond.instanceMethod ({ cls := "java/lang/String", name := "equals", desc := "(Ljava/lang/Object;)Z" } : Jvm.MethodName)).before a0 Z = true := hw _ (List.mem_of_getElem? (i := 63) rfl)
theorem w_64 {Z : State} {a0 : Array Value} (hw : ∀ d ∈ tables_1, d.before a0 Z = true) : (Jvm.Cond.selects "java/lang/String" ({ cls := "java/lang/String", name := "equals", desc := "(Ljava/lang/Object;)Z" } : Jvm.MethodName) ({ cls := "java/lang/String", name := "equals", desc := "(Ljava/lang/Object;)Z" } : Jvm.MethodName)).before a0 Z = true := hw _ (List.mem_of_getElem? (i := 64) rfl)
theorem w_72 {Z : State} {a0 : Array Value} (hw : ∀ d ∈ tables_1, d.before a0 Z = true) : (Jvm.Cond.fieldLink "com/example/matchmaker/matchmaker/registry/ParameterEqualsPinLaw" (19 : Nat) "com/example/matchmaker/matchmaker/registry/Parameter$Location" "COOKIE" "Lcom/example/matchmaker/matchmaker/registry/Parameter$Location;").before a0 Z = true := hw _ (List.mem_of_getElem? (i := 72) rfl)
theorem w_74 {Z : State} {a0 : Array Value} (hw : ∀ d ∈ tables_1, d.before a0 Z = true) : (Jvm.Cond.fieldLink "com/example/matchmaker/matchmaker/registry/ParameterEqualsPinLaw" (13 : Nat) "com/example/matchmaker/matchmaker/registry/Parameter$Location" "QUERY" "Lcom/example/matchmaker/matchmaker/registry/Parameter$Location;").before a0 Z = true := hw _ (List.mem_of_getElem? (i := 74) rfl)
theorem w_86 {Z : State} {a0 : Array Value} (hw : ∀ d ∈ tables_1, d.before a0 Z = true) : (Jvm.Cond.superclass "java/lang/String" "java/lang/Object").before a0 Z = true := hw _ (List.mem_of_getElem? (i := 86) rfl)
theorem w_87 {Z : State} {a0 : Array Value} (hw : ∀ d ∈ tables_1, d.before a0 Z = true) : (Jvm.Cond.noSuperclass "java/lang/Object").before a0 Z = true := hw _ (List.mem_of_getElem? (i := 87) rfl)
theorem d_jdk_42_method_149_0 : decode jdk_42_method_149_code 0 = .ok (.aload_n 0, 1) := by decide +kernel
theorem d_jdk_42_method_149_1 : decode jdk_42_method_149_code 1 = .ok (.invokespecial 1, 3) := by decide +kernel
theorem d_jdk_42_method_149_4 : decode jdk_42_method_149_code 4 = .ok (.iload_n 3, 1) := by decide +kernel
theorem d_jdk_42_method_149_5 : decode jdk_42_method_149_code 5 = .ok (.ifCond .ne 22, 3) := by decide +kernel
theorem d_jdk_42_method_149_8 : decode jdk_42_method_149_code 8 = .ok (.aload_n 0, 1) := by decide +kernel
theorem d_jdk_42_method_149_9 : decode jdk_42_method_149_code 9 = .ok (.ldc 7, 2) := by decide +kernel
theorem d_jdk_42_method_149_11 : decode jdk_42_method_149_code 11 = .ok (.getfield 9, 3) := by decide +kernel
theorem d_jdk_42_method_149_14 : decode jdk_42_method_149_code 14 = .ok (.putfield 9, 3) := by decide +kernel
theorem d_jdk_42_method_149_17 : decode jdk_42_method_149_code 17 = .ok (.aload_n 0, 1) := by decide +kernel
theorem d_jdk_42_method_149_18 : decode jdk_42_method_149_code 18 = .ok (.ldc 7, 2) := by decide +kernel
theorem d_jdk_42_method_149_20 : decode jdk_42_method_149_code 20 = .ok (.getfield 15, 3) := by decide +kernel
theorem d_jdk_42_method_149_23 : decode jdk_42_method_149_code 23 = .ok (.putfield 15, 3) := by decide +kernel
theorem d_jdk_42_method_149_26 : decode jdk_42_method_149_code 26 = .ok (.return_, 1) := by decide +kernel
theorem d_jdk_42_method_3_0 : decode jdk_42_method_3_code 0 = .ok (.aload_n 0, 1) := by decide +kernel
theorem d_jdk_42_method_3_1 : decode jdk_42_method_3_code 1 = .ok (.aload_n 1, 1) := by decide +kernel
theorem d_jdk_42_method_3_2 : decode jdk_42_method_3_code 2 = .ok (.iconst 0, 1) := by decide +kernel
theorem d_jdk_42_method_3_3 : decode jdk_42_method_3_code 3 = .ok (.aload_n 1, 1) := by decide +kernel
theorem d_jdk_42_method_3_4 : decode jdk_42_method_3_code 4 = .ok (.arraylength, 1) := by decide +kernel
theorem d_jdk_42_method_3_5 : decode jdk_42_method_3_code 5 = .ok (.aconst_null, 1) := by decide +kernel
theorem d_jdk_42_method_3_6 : decode jdk_42_method_3_code 6 = .ok (.invokespecial 27, 3) := by decide +kernel
theorem d_jdk_42_method_3_9 : decode jdk_42_method_3_code 9 = .ok (.return_, 1) := by decide +kernel
theorem d_method_3_0 : decode method_3_code 0 = .ok (.iload_n 0, 1) := by decide +kernel
theorem d_method_3_1 : decode method_3_code 1 = .ok (.ifCond .ne 14, 3) := by decide +kernel
theorem d_method_3_15 : decode method_3_code 15 = .ok (.iload_n 0, 1) := by decide +kernel
theorem d_method_3_16 : decode method_3_code 16 = .ok (.iconst 1, 1) := by decide +kernel
theorem d_method_3_17 : decode method_3_code 17 = .ok (.if_icmp .ne 18, 3) := by decide +kernel
theorem d_method_3_35 : decode method_3_code 35 = .ok (.new 22, 3) := by decide +kernel
theorem d_method_3_38 : decode method_3_code 38 = .ok (.dup, 1) := by decide +kernel
theorem d_method_3_39 : decode method_3_code 39 = .ok (.iconst 2, 1) := by decide +kernel
theorem d_method_3_40 : decode method_3_code 40 = .ok (.newarray .char, 2) := by decide +kernel
theorem d_method_3_42 : decode method_3_code 42 = .ok (.dup, 1) := by decide +kernel
theorem d_method_3_43 : decode method_3_code 43 = .ok (.iconst 0, 1) := by decide +kernel
theorem d_method_3_44 : decode method_3_code 44 = .ok (.iload_n 1, 1) := by decide +kernel
theorem d_method_3_45 : decode method_3_code 45 = .ok (.castore, 1) := by decide +kernel
theorem d_method_3_46 : decode method_3_code 46 = .ok (.dup, 1) := by decide +kernel
theorem d_method_3_47 : decode method_3_code 47 = .ok (.iconst 1, 1) := by decide +kernel
theorem d_method_3_48 : decode method_3_code 48 = .ok (.iload_n 2, 1) := by decide +kernel
theorem d_method_3_49 : decode method_3_code 49 = .ok (.castore, 1) := by decide +kernel
theorem d_method_3_50 : decode method_3_code 50 = .ok (.invokespecial 24, 3) := by decide +kernel
theorem d_method_3_53 : decode method_3_code 53 = .ok (.areturn, 1) := by decide +kernel
theorem d_method_3_20 : decode method_3_code 20 = .ok (.new 22, 3) := by decide +kernel
theorem d_method_3_23 : decode method_3_code 23 = .ok (.dup, 1) := by decide +kernel
theorem d_method_3_24 : decode method_3_code 24 = .ok (.iconst 1, 1) := by decide +kernel
theorem d_method_3_25 : decode method_3_code 25 = .ok (.newarray .char, 2) := by decide +kernel
theorem d_method_3_27 : decode method_3_code 27 = .ok (.dup, 1) := by decide +kernel
theorem d_method_3_28 : decode method_3_code 28 = .ok (.iconst 0, 1) := by decide +kernel
theorem d_method_3_29 : decode method_3_code 29 = .ok (.iload_n 1, 1) := by decide +kernel
theorem d_method_3_30 : decode method_3_code 30 = .ok (.castore, 1) := by decide +kernel
theorem d_method_3_31 : decode method_3_code 31 = .ok (.invokespecial 24, 3) := by decide +kernel
theorem d_method_3_34 : decode method_3_code 34 = .ok (.areturn, 1) := by decide +kernel
theorem d_method_3_4 : decode method_3_code 4 = .ok (.new 22, 3) := by decide +kernel
theorem d_method_3_7 : decode method_3_code 7 = .ok (.dup, 1) := by decide +kernel
theorem d_method_3_8 : decode method_3_code 8 = .ok (.iconst 0, 1) := by decide +kernel
theorem d_method_3_9 : decode method_3_code 9 = .ok (.newarray .char, 2) := by decide +kernel
theorem d_method_3_11 : decode method_3_code 11 = .ok (.invokespecial 24, 3) := by decide +kernel
theorem d_method_3_14 : decode method_3_code 14 = .ok (.areturn, 1) := by decide +kernel
theorem d_method_2_0 : decode method_2_code 0 = .ok (.iload_n 0, 1) := by decide +kernel
theorem d_method_2_1 : decode method_2_code 1 = .ok (.ifCond .ne 7, 3) := by decide +kernel
theorem d_method_2_8 : decode method_2_code 8 = .ok (.iload_n 0, 1) := by decide +kernel
theorem d_method_2_9 : decode method_2_code 9 = .ok (.iconst 1, 1) := by decide +kernel
theorem d_method_2_10 : decode method_2_code 10 = .ok (.if_icmp .ne 7, 3) := by decide +kernel
theorem d_method_2_17 : decode method_2_code 17 = .ok (.iload_n 0, 1) := by decide +kernel
theorem d_method_2_18 : decode method_2_code 18 = .ok (.iconst 2, 1) := by decide +kernel
theorem d_method_2_19 : decode method_2_code 19 = .ok (.if_icmp .ne 7, 3) := by decide +kernel
theorem d_method_2_26 : decode method_2_code 26 = .ok (.getstatic 19, 3) := by decide +kernel
theorem d_method_2_29 : decode method_2_code 29 = .ok (.areturn, 1) := by decide +kernel
theorem d_method_2_22 : decode method_2_code 22 = .ok (.getstatic 16, 3) := by decide +kernel
theorem d_method_2_25 : decode method_2_code 25 = .ok (.areturn, 1) := by decide +kernel
theorem d_method_2_13 : decode method_2_code 13 = .ok (.getstatic 13, 3) := by decide +kernel
theorem d_method_2_16 : decode method_2_code 16 = .ok (.areturn, 1) := by decide +kernel
theorem d_method_2_4 : decode method_2_code 4 = .ok (.getstatic 7, 3) := by decide +kernel
theorem d_method_2_7 : decode method_2_code 7 = .ok (.areturn, 1) := by decide +kernel
theorem d_jdk_31_method_11_0 : decode jdk_31_method_11_code 0 = .ok (.aload_n 0, 1) := by decide +kernel
theorem d_jdk_31_method_11_1 : decode jdk_31_method_11_code 1 = .ok (.ifnonnull 12, 3) := by decide +kernel
theorem d_jdk_31_method_11_13 : decode jdk_31_method_11_code 13 = .ok (.aload_n 0, 1) := by decide +kernel
theorem d_jdk_31_method_11_14 : decode jdk_31_method_11_code 14 = .ok (.areturn, 1) := by decide +kernel
theorem d_prog_34_method_1_0 : decode prog_34_method_1_code 0 = .ok (.aload_n 0, 1) := by decide +kernel
theorem d_prog_34_method_1_1 : decode prog_34_method_1_code 1 = .ok (.invokespecial 1, 3) := by decide +kernel
theorem d_prog_34_method_1_4 : decode prog_34_method_1_code 4 = .ok (.aload_n 0, 1) := by decide +kernel
theorem d_prog_34_method_1_5 : decode prog_34_method_1_code 5 = .ok (.aload_n 1, 1) := by decide +kernel
theorem d_prog_34_method_1_6 : decode prog_34_method_1_code 6 = .ok (.ldc 7, 2) := by decide +kernel
theorem d_prog_34_method_1_8 : decode prog_34_method_1_code 8 = .ok (.invokestatic 9, 3) := by decide +kernel
theorem d_prog_34_method_1_11 : decode prog_34_method_1_code 11 = .ok (.checkcast 15, 3) := by decide +kernel
theorem d_prog_34_method_1_14 : decode prog_34_method_1_code 14 = .ok (.putfield 17, 3) := by decide +kernel
theorem d_prog_34_method_1_17 : decode prog_34_method_1_code 17 = .ok (.aload_n 0, 1) := by decide +kernel
theorem d_prog_34_method_1_18 : decode prog_34_method_1_code 18 = .ok (.aload_n 2, 1) := by decide +kernel
theorem d_prog_34_method_1_19 : decode prog_34_method_1_code 19 = .ok (.ldc 22, 2) := by decide +kernel
theorem d_prog_34_method_1_21 : decode prog_34_method_1_code 21 = .ok (.invokestatic 9, 3) := by decide +kernel
theorem d_prog_34_method_1_24 : decode prog_34_method_1_code 24 = .ok (.checkcast 24, 3) := by decide +kernel
theorem d_prog_34_method_1_27 : decode prog_34_method_1_code 27 = .ok (.putfield 26, 3) := by decide +kernel
theorem d_prog_34_method_1_30 : decode prog_34_method_1_code 30 = .ok (.return_, 1) := by decide +kernel
theorem d_prog_34_method_4_0 : decode prog_34_method_4_code 0 = .ok (.aload_n 1, 1) := by decide +kernel
theorem d_prog_34_method_4_1 : decode prog_34_method_4_code 1 = .ok (.instanceof 18, 3) := by decide +kernel
theorem d_prog_34_method_4_4 : decode prog_34_method_4_code 4 = .ok (.ifCond .eq 37, 3) := by decide +kernel
theorem d_prog_34_method_4_41 : decode prog_34_method_4_code 41 = .ok (.iconst 0, 1) := by decide +kernel
theorem d_prog_34_method_4_42 : decode prog_34_method_4_code 42 = .ok (.ireturn, 1) := by decide +kernel
theorem d_prog_34_method_4_7 : decode prog_34_method_4_code 7 = .ok (.aload_n 1, 1) := by decide +kernel
theorem d_prog_34_method_4_8 : decode prog_34_method_4_code 8 = .ok (.checkcast 18, 3) := by decide +kernel
theorem d_prog_34_method_4_11 : decode prog_34_method_4_code 11 = .ok (.astore_n 2, 1) := by decide +kernel
theorem d_prog_34_method_4_12 : decode prog_34_method_4_code 12 = .ok (.aload_n 0, 1) := by decide +kernel
theorem d_prog_34_method_4_13 : decode prog_34_method_4_code 13 = .ok (.getfield 17, 3) := by decide +kernel
theorem d_prog_34_method_4_16 : decode prog_34_method_4_code 16 = .ok (.aload_n 2, 1) := by decide +kernel
theorem d_prog_34_method_4_17 : decode prog_34_method_4_code 17 = .ok (.getfield 17, 3) := by decide +kernel
theorem d_prog_34_method_4_20 : decode prog_34_method_4_code 20 = .ok (.invokevirtual 29, 3) := by decide +kernel
theorem d_prog_34_method_4_23 : decode prog_34_method_4_code 23 = .ok (.ifCond .eq 18, 3) := by decide +kernel
theorem d_prog_34_method_4_26 : decode prog_34_method_4_code 26 = .ok (.aload_n 0, 1) := by decide +kernel
theorem d_prog_34_method_4_27 : decode prog_34_method_4_code 27 = .ok (.getfield 26, 3) := by decide +kernel
theorem d_prog_34_method_4_30 : decode prog_34_method_4_code 30 = .ok (.aload_n 2, 1) := by decide +kernel
theorem d_prog_34_method_4_31 : decode prog_34_method_4_code 31 = .ok (.getfield 26, 3) := by decide +kernel
theorem d_prog_34_method_4_34 : decode prog_34_method_4_code 34 = .ok (.if_acmp .ne 7, 3) := by decide +kernel
theorem d_prog_34_method_4_37 : decode prog_34_method_4_code 37 = .ok (.iconst 1, 1) := by decide +kernel
theorem d_prog_34_method_4_38 : decode prog_34_method_4_code 38 = .ok (.goto 4, 3) := by decide +kernel
theorem pn_0 : plainName "java/lang/String" = true := by first | (simp [plainName, overriddenIn]; done) | decide +kernel
theorem pn_1 : plainName "com/example/matchmaker/matchmaker/registry/ParameterEqualsPinLaw" = true := by first | (simp [plainName, overriddenIn]; done) | decide +kernel
theorem pn_2 : plainName "java/util/Objects" = true := by first | (simp [plainName, overriddenIn]; done) | decide +kernel
theorem pn_3 : plainName "com/example/matchmaker/matchmaker/registry/Parameter" = true := by first | (simp [plainName, overriddenIn]; done) | decide +kernel
theorem pd_0 : parseMethodDescriptor "([CIILjava/lang/Void;)V" = some ⟨[(.array .char), .int, .int, (.object "java/lang/Void")], none⟩ := by decide +kernel
theorem pd_1 : parseMethodDescriptor "([C)V" = some ⟨[(.array .char)], none⟩ := by decide +kernel
theorem pd_2 : parseMethodDescriptor "(Ljava/lang/Object;Ljava/lang/String;)Ljava/lang/Object;" = some ⟨[(.object "java/lang/Object"), (.object "java/lang/String")], some (.object "java/lang/Object")⟩ := by decide +kernel
theorem pd_3 : parseMethodDescriptor "(Ljava/lang/Object;)Z" = some ⟨[(.object "java/lang/Object")], some .boolean⟩ := by decide +kernel
theorem pd_4 : parseMethodDescriptor "(ICC)Ljava/lang/String;" = some ⟨[.int, .char, .char], some (.object "java/lang/String")⟩ := by decide +kernel
theorem pd_5 : parseMethodDescriptor "(I)Lcom/example/matchmaker/matchmaker/registry/Parameter$Location;" = some ⟨[.int], some (.object "com/example/matchmaker/matchmaker/registry/Parameter$Location")⟩ := by decide +kernel
theorem pd_6 : parseMethodDescriptor "(Ljava/lang/String;Lcom/example/matchmaker/matchmaker/registry/Parameter$Location;)V" = some ⟨[(.object "java/lang/String"), (.object "com/example/matchmaker/matchmaker/registry/Parameter$Location")], none⟩ := by decide +kernel
theorem ef_own_new4E (m : MethodId) (x : Addr) (b : Addr) : entryFrame m #[(.ref x), (.ref b), (.int (0 : Int32)), (.int (0 : Int32)), .null] 6 = mkF m 0 #[.val (.ref x), .val (.ref b), .val (.int (0 : Int32)), .val (.int (0 : Int32)), .val .null, .unset] [] := by first | (simp [entryFrame, mkF, argsToLocals, Value.category, maxLocals]; done) | rfl
theorem ef_own_new1E (m : MethodId) (x : Addr) (b : Addr) : entryFrame m #[(.ref x), (.ref b)] 2 = mkF m 0 #[.val (.ref x), .val (.ref b)] [] := by first | (simp [entryFrame, mkF, argsToLocals, Value.category, maxLocals]; done) | rfl
theorem ef_own_mk (m : MethodId) (n : Int32) (c0 : Int32) (c1 : Int32) : entryFrame m #[(.int n), (.int c0), (.int c1)] 3 = mkF m 0 #[.val (.int n), .val (.int c0), .val (.int c1)] [] := by first | (simp [entryFrame, mkF, argsToLocals, Value.category, maxLocals]; done) | rfl
theorem ef_own_locc (m : MethodId) (n : Int32) : entryFrame m #[(.int n)] 1 = mkF m 0 #[.val (.int n)] [] := by first | (simp [entryFrame, mkF, argsToLocals, Value.category, maxLocals]; done) | rfl
theorem ef_own_rnn (m : MethodId) (a : Addr) (mm : Addr) : entryFrame m #[(.ref a), (.ref mm)] 2 = mkF m 0 #[.val (.ref a), .val (.ref mm)] [] := by first | (simp [entryFrame, mkF, argsToLocals, Value.category, maxLocals]; done) | rfl
theorem ef_own_ini (m : MethodId) (x : Addr) (a : Addr) (lc : Addr) : entryFrame m #[(.ref x), (.ref a), (.ref lc)] 3 = mkF m 0 #[.val (.ref x), .val (.ref a), .val (.ref lc)] [] := by first | (simp [entryFrame, mkF, argsToLocals, Value.category, maxLocals]; done) | rfl
theorem ef_own_eqN (m : MethodId) (x : Addr) : entryFrame m #[(.ref x), .null] 3 = mkF m 0 #[.val (.ref x), .val .null, .unset] [] := by first | (simp [entryFrame, mkF, argsToLocals, Value.category, maxLocals]; done) | rfl
theorem ef_own_eqS (m : MethodId) (x : Addr) (y : Addr) : entryFrame m #[(.ref x), (.ref y)] 3 = mkF m 0 #[.val (.ref x), .val (.ref y), .unset] [] := by first | (simp [entryFrame, mkF, argsToLocals, Value.category, maxLocals]; done) | rfl
theorem ef_own_eq (m : MethodId) (x : Addr) (y : Addr) : entryFrame m #[(.ref x), (.ref y)] 3 = mkF m 0 #[.val (.ref x), .val (.ref y), .unset] [] := by first | (simp [entryFrame, mkF, argsToLocals, Value.category, maxLocals]; done) | rfl
theorem ef_own_law (m : MethodId) (i0 : Int32) (i1 : Int32) (i2 : Int32) : entryFrame m #[(.int i0), (.int i1), (.int i2)] maxLocals = mkF m 0 #[.val (.int i0), .val (.int i1), .val (.int i2), .unset, .unset, .unset, .unset, .unset, .unset, .unset, .unset, .unset, .unset, .unset, .unset, .unset, .unset, .unset, .unset] [] := by first | (simp [entryFrame, mkF, argsToLocals, Value.category, maxLocals]; done) | rfl
def own_loc (n : Int32) (a b c d : Addr) : Addr := if n = 0 then a else if n = 1 then b else if n = 2 then c else d
theorem own_locE {Q : Addr → Prop} {a b c d : Addr} (n : Int32) (ha : Q a) (hb : Q b) (hc : Q c) (hd : Q d) : Q (own_loc n a b c d) := by unfold own_loc; (repeat' split) <;> assumption
theorem own_plain (l1 l2 c0 c1 d0 d1 k1 k2 : Int32) (a b c d : Addr) (h1 : l1 = 0 ∨ l1 = 1 ∨ l1 = 2) (h2 : l2 = 0 ∨ l2 = 1 ∨ l2 = 2) (r1 : k1 = 0 ∨ k1 = 1 ∨ k1 = 2 ∨ k1 = 3) (r2 : k2 = 0 ∨ k2 = 1 ∨ k2 = 2 ∨ k2 = 3) (n01 : ¬ a = b) (n02 : ¬ a = c) (n03 : ¬ a = d) (n12 : ¬ b = c) (n13 : ¬ b = d) (n23 : ¬ c = d) :
    (if (if l1 = l2 then (if l1 < (1 : Int32) then (if l1 < (2 : Int32) then (1 : Int32) else (if c1 = d1 then (1 : Int32) else (0 : Int32))) else (if c0 = d0 then (if l1 < (2 : Int32) then (1 : Int32) else (if c1 = d1 then (1 : Int32) else (0 : Int32))) else (0 : Int32))) else (0 : Int32)) = (0 : Int32) then (0 : Int32) else (if k1 = k2 then (1 : Int32) else (0 : Int32))) = (if (own_cs l1 c0 c1 = own_cs l2 d0 d1 ∧ own_loc k1 a b c d = own_loc k2 a b c d) then (1 : Int32) else 0) := by
  have e : own_loc k1 a b c d = own_loc k2 a b c d ↔ k1 = k2 := by
    rcases r1 with rfl | rfl | rfl | rfl <;> rcases r2 with rfl | rfl | rfl | rfl <;> simp [own_loc, n01, n02, n03, n12, n13, n23, Ne.symm n01, Ne.symm n02, Ne.symm n03, Ne.symm n12, Ne.symm n13, Ne.symm n23]
  simp only [e]
  clear e r1 r2
  by_cases hk : k1 = k2 <;> rcases h1 with rfl | rfl | rfl <;> rcases h2 with rfl | rfl | rfl <;> simp [own_cs, hk] <;> (repeat' split) <;> simp_all

theorem own_wS {Z : State} {a0 : Array Value} (hw : ∀ d ∈ tables_1, d.before a0 Z = true) : ∀ a ∈ Bundle.stringAtoms, a.before a0 Z = true := fun d hd => hw d ((by decide +kernel : ∀ d ∈ Bundle.stringAtoms, d ∈ tables_1) d hd)
theorem own_ws {Z : State} {a0 : Array Value} (hw : ∀ d ∈ tables_1, d.before a0 Z = true) : ∀ d ∈ StrChars.Road.words, d.before a0 Z = true := fun d hd => hw d ((by decide +kernel : ∀ d ∈ StrChars.Road.words, d ∈ tables_1) d hd)
theorem own_wsEq {Z : State} {a0 : Array Value} (hw : ∀ d ∈ tables_1, d.before a0 Z = true) : ∀ d ∈ StrChars.Road.wordsEq, d.before a0 Z = true := fun d hd => hw d ((by decide +kernel : ∀ d ∈ StrChars.Road.wordsEq, d ∈ tables_1) d hd)
set_option maxRecDepth 65536 in
set_option maxHeartbeats 40000000 in
theorem own_new4E (l : Launch) (Z : State) (a0 : Array Value) (hw : ∀ d ∈ tables_1, d.before a0 Z = true) (hEL : EW Z a0 consts_1) (h0 : Heap) (hO : Ext Z.heap h0) (x : Addr) (b : Addr) (E_x : Exa Z h0 x "java/lang/String") (V_x : Fld Z h0 x "java/lang/String" "value" "[B" .null) (C_x : Fld Z h0 x "java/lang/String" "coder" "B" (.int (0 : Int32))) (gz_x : Z.heap.size ≤ x) :
    CtrS l Z consts_1 (⟨"java/lang/String", "<init>", "([CIILjava/lang/Void;)V"⟩ : MethodName) jdk_42_method_149_code 6 none ({ frames := 1, cells := 4, slots := 8, locals := 12 } : Room) #[(.ref x), (.ref b), (.int (0 : Int32)), (.int (0 : Int32)), .null] h0 (fun v h' => Keep h0 h' [x] ∧ v = none ∧ LStr Z h' x []) := by
  refine CtrS.of (plainFor_of_name pn_0) hO ?_
  intro p e s m below meth c T0 X0 hsh hby hml hret hlk hnm
  refine Goes.cast (ef_own_new4E m x b) ?_
  show Goes _ _ _ _ T0 (mkF m 0 #[.val (.ref x), .val (.ref b), .val (.int (0 : Int32)), .val (.int (0 : Int32)), .val .null, .unset] [])
  refine Goes.go (fun _ k => XS.aloadN X0.here X0.ex rfl (hb hby d_jdk_42_method_149_0) rfl rfl k) ?_
  show Goes _ _ _ _ T0 (mkF m 1 #[.val (.ref x), .val (.ref b), .val (.int (0 : Int32)), .val (.int (0 : Int32)), .val .null, .unset] [(.ref x)])
  refine Wk.initO X0 (w_15 hw) (w_16 hw) (w_17 hw) rfl (by rw [hml]; rfl) rfl (hb hby d_jdk_42_method_149_1) (by decide) (W := 0) (by show 2 * 0 + _ ≤ _; exact Nat.le_of_eq rfl) (by decide) ?_
  intro T1 X1
  show Goes _ _ _ _ T1 (mkF m 4 #[.val (.ref x), .val (.ref b), .val (.int (0 : Int32)), .val (.int (0 : Int32)), .val .null, .unset] [])
  refine Goes.go (fun _ k => XS.iloadN X1.here X1.ex rfl (hb hby d_jdk_42_method_149_4) rfl (XS.ifNo X1.here X1.ex rfl (hb hby d_jdk_42_method_149_5) rfl ((if0 _ _).trans (cd_f (cd := .ne) (x := (0 : Int32)) (y := (0 : Int32)) (by decide))) (XS.aloadN X1.here X1.ex rfl (hb hby d_jdk_42_method_149_8) rfl rfl k))) ?_
  show Goes _ _ _ _ T1 (mkF m 9 #[.val (.ref x), .val (.ref b), .val (.int (0 : Int32)), .val (.int (0 : Int32)), .val .null, .unset] [(.ref x)])
  have K0 : Keep h0 h0 [x] := Keep.refl _ _
  refine Wk.ldcR X1 (w_18 hw) (own_wS hw) hEL (by decide) (vs := []) (z := 0) ⟨by decide, rfl⟩ (by decide) rfl rfl (hb hby d_jdk_42_method_149_9) (n := 0) (by decide) (by decide) (by decide) (by decide) ?_
  intro T2 h2 a2 b2 k2 X2 E2 Ea2 Ca2 Va2 Ab2
  replace E_x := E_x.ext E2
  replace V_x := V_x.ext E2
  replace C_x := C_x.ext E2
  replace K0 := K0.ext E2
  show Goes _ _ _ _ T2 (mkF m 11 #[.val (.ref x), .val (.ref b), .val (.int (0 : Int32)), .val (.int (0 : Int32)), .val .null, .unset] [(.ref a2), (.ref x)])
  refine Wk.getF X2 (host := "") (Or.inl (w_24 hw)) Via.refl Va2 rfl rfl (hb hby d_jdk_42_method_149_11) ?_
  intro T3 X3
  show Goes _ _ _ _ T3 (mkF m 14 #[.val (.ref x), .val (.ref b), .val (.int (0 : Int32)), .val (.int (0 : Int32)), .val .null, .unset] [(.ref b2), (.ref x)])
  have nb : b2 ≠ x := (Exa.neArv E_x Ab2 (w_5 hw)).symm
  refine Wk.putF (hm' := fun h' => h') X3 (host := "") (Or.inl (w_24 hw)) Via.refl V_x E_x (Or.inr ⟨(w_20 hw), rfl, hnm⟩) (w_5 hw) (ty := (.array .byte)) (by decide) rfl rfl gz_x (fun _ => Mark.anew (allS (Or.inr (SafeA.null E_x V_x)) all0)) rfl rfl (hb hby d_jdk_42_method_149_14) ?_
  intro T4 h4 X4 W4
  have F4 := V_x.same W4
  replace E_x := E_x.wr W4
  replace C_x := C_x.other W4 (Or.inr (slot_ne (Or.inr (w_21 hw)) (Or.inr (w_20 hw)) (by decide) (t := .byte) (t' := (.array .byte)) (by decide) (by decide)))
  replace Ab2 := Ab2.other W4 nb
  clear V_x; have V_x := F4
  show Goes _ _ _ _ T4 (mkF m 17 #[.val (.ref x), .val (.ref b), .val (.int (0 : Int32)), .val (.int (0 : Int32)), .val .null, .unset] [])
  replace K0 := K0.wr W4 (Or.inl (List.mem_of_getElem? (i := 0) rfl))
  refine Goes.go (fun _ k => XS.aloadN X4.here X4.ex rfl (hb hby d_jdk_42_method_149_17) rfl rfl k) ?_
  show Goes _ _ _ _ T4 (mkF m 18 #[.val (.ref x), .val (.ref b), .val (.int (0 : Int32)), .val (.int (0 : Int32)), .val .null, .unset] [(.ref x)])
  refine Wk.ldcR X4 (w_18 hw) (own_wS hw) hEL (by decide) (vs := []) (z := 0) ⟨by decide, rfl⟩ (by decide) rfl rfl (hb hby d_jdk_42_method_149_18) (n := 0) (by decide) (by decide) (by decide) (by decide) ?_
  intro T5 h5 a5 b5 k5 X5 E5 Ea5 Ca5 Va5 Ab5
  replace E_x := E_x.ext E5
  replace C_x := C_x.ext E5
  replace Ab2 := Ab2.ext E5
  replace V_x := V_x.ext E5
  replace K0 := K0.ext E5
  show Goes _ _ _ _ T5 (mkF m 20 #[.val (.ref x), .val (.ref b), .val (.int (0 : Int32)), .val (.int (0 : Int32)), .val .null, .unset] [(.ref a5), (.ref x)])
  refine Wk.getF X5 (host := "") (Or.inl (w_25 hw)) Via.refl Ca5 rfl rfl (hb hby d_jdk_42_method_149_20) ?_
  intro T6 X6
  show Goes _ _ _ _ T6 (mkF m 23 #[.val (.ref x), .val (.ref b), .val (.int (0 : Int32)), .val (.int (0 : Int32)), .val .null, .unset] [(.int (0 : Int32)), (.ref x)])
  refine Wk.putFNsame X6 (w_25 hw) Via.refl C_x E_x (Or.inr ⟨(w_21 hw), rfl, hnm⟩) (w_5 hw) (ty := .byte) (by decide) rfl rfl gz_x rfl rfl (hb hby d_jdk_42_method_149_23) ?_
  intro T7 X7
  show Goes _ _ _ _ T7 (mkF m 26 #[.val (.ref x), .val (.ref b), .val (.int (0 : Int32)), .val (.int (0 : Int32)), .val .null, .unset] [])
  refine Goes.outS X7 hEL (fun _ => rfl) hlk (X7.rV hret (hb hby d_jdk_42_method_149_26)) ?_ (by decide) (by decide)
  exact ⟨K0, rfl, E_x, C_x, ⟨_, _, V_x, Ab2⟩, (fun _ q => nomatch q), by decide⟩
set_option maxRecDepth 65536 in
set_option maxHeartbeats 40000000 in
theorem own_new1E (l : Launch) (Z : State) (a0 : Array Value) (hw : ∀ d ∈ tables_1, d.before a0 Z = true) (hEL : EW Z a0 consts_1) (h0 : Heap) (hO : Ext Z.heap h0) (x : Addr) (b : Addr) (E_x : Exa Z h0 x "java/lang/String") (V_x : Fld Z h0 x "java/lang/String" "value" "[B" .null) (C_x : Fld Z h0 x "java/lang/String" "coder" "B" (.int (0 : Int32))) (gz_x : Z.heap.size ≤ x) (kC : ClassId) (dv : Value) (V_b : Arv Z h0 b kC .char (0 : Int32) [] dv) :
    CtrS l Z consts_1 (⟨"java/lang/String", "<init>", "([C)V"⟩ : MethodName) jdk_42_method_3_code 2 none ({ frames := 2, cells := 4, slots := 8, locals := 29 } : Room) #[(.ref x), (.ref b)] h0 (fun v h' => Keep h0 h' [x] ∧ v = none ∧ LStr Z h' x []) := by
  refine CtrS.of (plainFor_of_name pn_0) hO ?_
  intro p e s m below meth c T0 X0 hsh hby hml hret hlk hnm
  refine Goes.cast (ef_own_new1E m x b) ?_
  show Goes _ _ _ _ T0 (mkF m 0 #[.val (.ref x), .val (.ref b)] [])
  refine Goes.go (fun _ k => XS.aloadN X0.here X0.ex rfl (hb hby d_jdk_42_method_3_0) rfl rfl (XS.aloadN X0.here X0.ex rfl (hb hby d_jdk_42_method_3_1) rfl rfl (XS.iconst X0.here X0.ex rfl (hb hby d_jdk_42_method_3_2) (XS.aloadN X0.here X0.ex rfl (hb hby d_jdk_42_method_3_3) rfl rfl k)))) ?_
  show Goes _ _ _ _ T0 (mkF m 4 #[.val (.ref x), .val (.ref b)] [(.ref b), (.int (0 : Int32)), (.ref b), (.ref x)])
  refine Goes.go (X0.alen V_b rfl rfl (hb hby d_jdk_42_method_3_4)) ?_
  show Goes _ _ _ _ T0 (mkF m 5 #[.val (.ref x), .val (.ref b)] [(.int (0 : Int32)), (.int (0 : Int32)), (.ref b), (.ref x)])
  refine Goes.go (fun _ k => XS.aconstNull X0.here X0.ex rfl (hb hby d_jdk_42_method_3_5) k) ?_
  show Goes _ _ _ _ T0 (mkF m 6 #[.val (.ref x), .val (.ref b)] [.null, (.int (0 : Int32)), (.int (0 : Int32)), (.ref b), (.ref x)])
  refine Wk.specialS (y := (⟨"java/lang/String", "<init>", "([CIILjava/lang/Void;)V"⟩ : MethodName)) (W := 0) (kc := 4) (ks := 8) (argsL := [(.ref b), (.int (0 : Int32)), (.int (0 : Int32)), .null]) (rest := []) (as' := #[(.ref x), (.ref b), (.int (0 : Int32)), (.int (0 : Int32)), .null]) (ws := [x]) X0 rfl (w_11 hw) (w_12 hw) (w_14 hw) (by decide) (CtrS.pays (own_new4E l Z a0 hw hEL h0 hO x b E_x V_x C_x gz_x) (w_14 hw) (w_6 hw) (by decide) (by decide) hEL) (fun v h' L q => ⟨q.2, q.1.1⟩) (allS gz_x all0) rfl (by rw [hml]; rfl) (lenOf pd_0 rfl) rfl rfl (by show 2 * 0 + _ ≤ _; exact Nat.le_of_eq rfl) (hb hby d_jdk_42_method_3_6) (by decide) (by decide) ?_
  intro T8 h8 v8 L8 X8 q8 K8
  obtain ⟨⟨-, rfl, Sx8⟩, -⟩ := q8
  show Goes _ _ _ _ T8 (mkF m 9 #[.val (.ref x), .val (.ref b)] [])
  refine Goes.outS X8 hEL (fun _ => rfl) hlk (X8.rV hret (hb hby d_jdk_42_method_3_9)) ?_ (by decide) (by decide)
  exact ⟨K8, rfl, Sx8⟩
set_option maxRecDepth 65536 in
set_option maxHeartbeats 40000000 in
theorem own_mk (l : Launch) (Z : State) (a0 : Array Value) (hw : ∀ d ∈ tables_1, d.before a0 Z = true) (hEL : EW Z a0 consts_1) (h0 : Heap) (hO : Ext Z.heap h0) (n : Int32) (c0 : Int32) (c1 : Int32) (G1 : Int32) (O2 : Sta Z Z.heap "java/lang/String" "COMPACT_STRINGS" "Z" (.int G1)) (P5 : ¬ (G1 = (0 : Int32))) (b0 : ¬ c0 < 0 ∧ ¬ (255 : Int32) < c0) (b1 : ¬ c1 < 0 ∧ ¬ (255 : Int32) < c1) :
    CtrS l Z consts_1 (⟨"com/example/matchmaker/matchmaker/registry/ParameterEqualsPinLaw", "mk", "(ICC)Ljava/lang/String;"⟩ : MethodName) method_3_code 3 (some (.object "java/lang/String")) ({ frames := 4, cells := 6, slots := 14, locals := 66 } : Room) #[(.int n), (.int c0), (.int c1)] h0 (fun v h' => Keep h0 h' [] ∧ ∃ a, v = some (.ref a) ∧ LStr Z h' a (own_cs n c0 c1)) := by
  refine CtrS.of (plainFor_of_name pn_1) hO ?_
  intro p e s m below meth c T0 X0 hsh hby hml hret hlk hnm
  refine Goes.cast (ef_own_mk m n c0 c1) ?_
  show Goes _ _ _ _ T0 (mkF m 0 #[.val (.int n), .val (.int c0), .val (.int c1)] [])
  refine Goes.go (fun _ k => XS.iloadN X0.here X0.ex rfl (hb hby d_method_3_0) rfl k) ?_
  show Goes _ _ _ _ T0 (mkF m 1 #[.val (.int n), .val (.int c0), .val (.int c1)] [(.int n)])
  refine Goes.ifc (pc' := 15) X0.here X0.ex (hb hby d_method_3_1) (by decide) (by decide) (fun hc1 => ?_) (fun hc1 => ?_)
  · have hc1 : ¬ (n = (0 : Int32)) := hc1
    show Goes _ _ _ _ T0 (mkF m 15 #[.val (.int n), .val (.int c0), .val (.int c1)] [])
    refine Goes.go (fun _ k => XS.iloadN X0.here X0.ex rfl (hb hby d_method_3_15) rfl (XS.iconst X0.here X0.ex rfl (hb hby d_method_3_16) k)) ?_
    show Goes _ _ _ _ T0 (mkF m 17 #[.val (.int n), .val (.int c0), .val (.int c1)] [(.int (1 : Int32)), (.int n)])
    refine Goes.icmp (pc' := 35) X0.here X0.ex (hb hby d_method_3_17) (by decide) (by decide) (fun hc17 => ?_) (fun hc17 => ?_)
    · have hc17 : ¬ (n = (1 : Int32)) := hc17
      show Goes _ _ _ _ T0 (mkF m 35 #[.val (.int n), .val (.int c0), .val (.int c1)] [])
      have X9 := X0.mark
      refine Wk.new X9 (w_4 hw) (w_5 hw) (w_6 hw) rfl (hb hby d_method_3_35) (by decide) (by decide) ?_
      intro T10 h10 a10 g10 X10 E10 A10 D10
      have gz_a10 : Z.heap.size ≤ a10 := g10 ▸ X9.old.1
      have gm_a10 : h0.size ≤ a10 := g10 ▸ X9.ext.1
      have F_a10_value : Fld Z h10 a10 "java/lang/String" "value" "[B" .null := D10 (Or.inr (w_20 hw)) (ty := (.array .byte)) (by decide)
      have F_a10_coder : Fld Z h10 a10 "java/lang/String" "coder" "B" (.int (0 : Int32)) := D10 (Or.inr (w_21 hw)) (ty := .byte) (by decide)
      clear D10
      show Goes _ _ _ _ T10 (mkF m 38 #[.val (.int n), .val (.int c0), .val (.int c1)] [(.ref a10)])
      refine Goes.go (fun _ k => XS.dup X10.here X10.ex rfl (hb hby d_method_3_38) rfl rfl (XS.iconst X10.here X10.ex rfl (hb hby d_method_3_39) k)) ?_
      show Goes _ _ _ _ T10 (mkF m 40 #[.val (.int n), .val (.int c0), .val (.int c1)] [(.int (2 : Int32)), (.ref a10), (.ref a10)])
      refine Wk.newA (aty := .char) X10 (w_7 hw) rfl (hb hby d_method_3_40) rfl (by decide) (cap := 2) (by decide) (by decide) (by decide) (by decide) ?_
      intro T11 h11 b11 k11 g11 X11 E11 A11 B_b11
      have lt_a10_b11 : a10 < b11 := by rw [g11]; exact A10.lt
      replace A10 := A10.ext E11
      replace F_a10_value := F_a10_value.ext E11
      replace F_a10_coder := F_a10_coder.ext E11
      have V_b11 : Arv Z h11 b11 k11 .char (2 : Int32) [(.int (0 : Int32)), (.int (0 : Int32))] (.int (0 : Int32)) := A11.pad (pad_rep [] (.int (0 : Int32)) 2)
      have gz_b11 : Z.heap.size ≤ b11 := g11 ▸ X10.old.1
      have gm_b11 : h0.size ≤ b11 := g11 ▸ X10.ext.1
      show Goes _ _ _ _ T11 (mkF m 42 #[.val (.int n), .val (.int c0), .val (.int c1)] [(.ref b11), (.ref a10), (.ref a10)])
      refine Goes.go (fun _ k => XS.dup X11.here X11.ex rfl (hb hby d_method_3_42) rfl rfl (XS.iconst X11.here X11.ex rfl (hb hby d_method_3_43) (XS.iloadN X11.here X11.ex rfl (hb hby d_method_3_44) rfl k))) ?_
      show Goes _ _ _ _ T11 (mkF m 45 #[.val (.int n), .val (.int c0), .val (.int c1)] [(.int c0), (.int (0 : Int32)), (.ref b11), (.ref b11), (.ref a10), (.ref a10)])
      refine Wk.castore (hm' := fun _ => h0) X11 V_b11 ⟨by decide, by decide⟩ (i := 0) rfl (Nat.le_of_ble_eq_true rfl) gz_b11 (fun _ => Mark.stay (allS gm_b11 all0)) rfl rfl (hb hby d_method_3_45) ?_
      intro T12 h12 X12 W12 V12
      replace A10 := A10.wr W12
      replace F_a10_value := F_a10_value.other W12 (Or.inl (Nat.ne_of_lt lt_a10_b11))
      replace F_a10_coder := F_a10_coder.other W12 (Or.inl (Nat.ne_of_lt lt_a10_b11))
      clear V_b11; have V_b11 : Arv Z h12 b11 _ .char (2 : Int32) [(.int (nar .char c0)), (.int (0 : Int32))] (.int (0 : Int32)) := V12
      show Goes _ _ _ _ T12 (mkF m 46 #[.val (.int n), .val (.int c0), .val (.int c1)] [(.ref b11), (.ref a10), (.ref a10)])
      refine Goes.go (fun _ k => XS.dup X12.here X12.ex rfl (hb hby d_method_3_46) rfl rfl (XS.iconst X12.here X12.ex rfl (hb hby d_method_3_47) (XS.iloadN X12.here X12.ex rfl (hb hby d_method_3_48) rfl k))) ?_
      show Goes _ _ _ _ T12 (mkF m 49 #[.val (.int n), .val (.int c0), .val (.int c1)] [(.int c1), (.int (1 : Int32)), (.ref b11), (.ref b11), (.ref a10), (.ref a10)])
      refine Wk.castore (hm' := fun _ => h0) X12 V_b11 ⟨by decide, by decide⟩ (i := 1) rfl (Nat.le_of_ble_eq_true rfl) gz_b11 (fun _ => Mark.stay (allS gm_b11 all0)) rfl rfl (hb hby d_method_3_49) ?_
      intro T13 h13 X13 W13 V13
      replace A10 := A10.wr W13
      replace F_a10_value := F_a10_value.other W13 (Or.inl (Nat.ne_of_lt lt_a10_b11))
      replace F_a10_coder := F_a10_coder.other W13 (Or.inl (Nat.ne_of_lt lt_a10_b11))
      clear V_b11; have V_b11 : Arv Z h13 b11 _ .char (2 : Int32) [(.int (nar .char c0)), (.int (nar .char c1))] (.int (0 : Int32)) := V13
      show Goes _ _ _ _ T13 (mkF m 50 #[.val (.int n), .val (.int c0), .val (.int c1)] [(.ref b11), (.ref a10), (.ref a10)])
      have hp14 : ∀ c ∈ ([(nar .char c0), (nar .char c1)] : List Int32), ¬ c < 0 ∧ ¬ (255 : Int32) < c := by
          intro c hc
          simp only [List.mem_cons, List.not_mem_nil, or_false] at hc
          rcases hc with rfl | rfl
          · rw [own_narc b0]; exact b0
          · rw [own_narc b1]; exact b1
      refine Wk.special (hm' := fun _ => h0) (y := (⟨"java/lang/String", "<init>", "([C)V"⟩ : MethodName)) (W := 1) (kc := 1) (ks := 2) (argsL := [(.ref b11)]) (rest := [(.ref a10)]) (as' := #[(.ref a10), (.ref b11)]) (ws := [a10]) X13 rfl (w_8 hw) (w_9 hw) (w_10 hw) (by decide) (own_newP (own_ws hw) (kI := 4) (w_5 hw) (cs := ([(nar .char c0), (nar .char c1)] : List Int32)) (n := 2) gz_a10 X13.old A10 F_a10_value F_a10_coder V_b11 O2 P5 rfl rfl (by decide) (by decide) hp14 (by decide) (by decide)) (fun v h' L q => ⟨q.2.1, q.2.2.1⟩) (allS gz_a10 all0) (fun _ => Mark.stay (allS gm_a10 all0)) rfl (by rw [hml]; rfl) (lenOf pd_1 rfl) rfl rfl (by show 2 * 0 + _ ≤ _; exact Nat.le_of_eq rfl) (hb hby d_method_3_50) (by decide) (by decide) ?_
      intro T15 h15 v15 L15 X15 q15 K15
      obtain ⟨rfl, -, -, S_a10⟩ := q15
      show Goes _ _ _ _ T15 (mkF m 53 #[.val (.int n), .val (.int c0), .val (.int c1)] [(.ref a10)])
      simp only [own_narc b0, own_narc b1] at S_a10
      refine Goes.outS X15 hEL (fun q => by rw [hret] at q; cases q) hlk (X15.rA hret rfl rfl (hb hby d_method_3_53)) ?_ (by decide) (by decide)
      exact ⟨Ext.oKeepOf X15.ext [], a10, rfl, by unfold own_cs; simp only [hc1, hc17, own_n10, own_n20, own_n21, own_n30, own_n31, own_n32, if_true, if_false, ↓reduceIte]; exact S_a10⟩
    · have hc17 : n = (1 : Int32) := Classical.not_not.mp hc17
      show Goes _ _ _ _ T0 (mkF m 20 #[.val (.int n), .val (.int c0), .val (.int c1)] [])
      have X16 := X0.mark
      refine Wk.new X16 (w_4 hw) (w_5 hw) (w_6 hw) rfl (hb hby d_method_3_20) (by decide) (by decide) ?_
      intro T17 h17 a17 g17 X17 E17 A17 D17
      have gz_a17 : Z.heap.size ≤ a17 := g17 ▸ X16.old.1
      have gm_a17 : h0.size ≤ a17 := g17 ▸ X16.ext.1
      have F_a17_value : Fld Z h17 a17 "java/lang/String" "value" "[B" .null := D17 (Or.inr (w_20 hw)) (ty := (.array .byte)) (by decide)
      have F_a17_coder : Fld Z h17 a17 "java/lang/String" "coder" "B" (.int (0 : Int32)) := D17 (Or.inr (w_21 hw)) (ty := .byte) (by decide)
      clear D17
      show Goes _ _ _ _ T17 (mkF m 23 #[.val (.int n), .val (.int c0), .val (.int c1)] [(.ref a17)])
      refine Goes.go (fun _ k => XS.dup X17.here X17.ex rfl (hb hby d_method_3_23) rfl rfl (XS.iconst X17.here X17.ex rfl (hb hby d_method_3_24) k)) ?_
      show Goes _ _ _ _ T17 (mkF m 25 #[.val (.int n), .val (.int c0), .val (.int c1)] [(.int (1 : Int32)), (.ref a17), (.ref a17)])
      refine Wk.newA (aty := .char) X17 (w_7 hw) rfl (hb hby d_method_3_25) rfl (by decide) (cap := 1) (by decide) (by decide) (by decide) (by decide) ?_
      intro T18 h18 b18 k18 g18 X18 E18 A18 B_b18
      have lt_a17_b18 : a17 < b18 := by rw [g18]; exact A17.lt
      replace A17 := A17.ext E18
      replace F_a17_value := F_a17_value.ext E18
      replace F_a17_coder := F_a17_coder.ext E18
      have V_b18 : Arv Z h18 b18 k18 .char (1 : Int32) [(.int (0 : Int32))] (.int (0 : Int32)) := A18.pad (pad_rep [] (.int (0 : Int32)) 1)
      have gz_b18 : Z.heap.size ≤ b18 := g18 ▸ X17.old.1
      have gm_b18 : h0.size ≤ b18 := g18 ▸ X17.ext.1
      show Goes _ _ _ _ T18 (mkF m 27 #[.val (.int n), .val (.int c0), .val (.int c1)] [(.ref b18), (.ref a17), (.ref a17)])
      refine Goes.go (fun _ k => XS.dup X18.here X18.ex rfl (hb hby d_method_3_27) rfl rfl (XS.iconst X18.here X18.ex rfl (hb hby d_method_3_28) (XS.iloadN X18.here X18.ex rfl (hb hby d_method_3_29) rfl k))) ?_
      show Goes _ _ _ _ T18 (mkF m 30 #[.val (.int n), .val (.int c0), .val (.int c1)] [(.int c0), (.int (0 : Int32)), (.ref b18), (.ref b18), (.ref a17), (.ref a17)])
      refine Wk.castore (hm' := fun _ => h0) X18 V_b18 ⟨by decide, by decide⟩ (i := 0) rfl (Nat.le_of_ble_eq_true rfl) gz_b18 (fun _ => Mark.stay (allS gm_b18 all0)) rfl rfl (hb hby d_method_3_30) ?_
      intro T19 h19 X19 W19 V19
      replace A17 := A17.wr W19
      replace F_a17_value := F_a17_value.other W19 (Or.inl (Nat.ne_of_lt lt_a17_b18))
      replace F_a17_coder := F_a17_coder.other W19 (Or.inl (Nat.ne_of_lt lt_a17_b18))
      clear V_b18; have V_b18 : Arv Z h19 b18 _ .char (1 : Int32) [(.int (nar .char c0))] (.int (0 : Int32)) := V19
      show Goes _ _ _ _ T19 (mkF m 31 #[.val (.int n), .val (.int c0), .val (.int c1)] [(.ref b18), (.ref a17), (.ref a17)])
      have hp20 : ∀ c ∈ ([(nar .char c0)] : List Int32), ¬ c < 0 ∧ ¬ (255 : Int32) < c := by
          intro c hc
          simp only [List.mem_cons, List.not_mem_nil, or_false] at hc
          rcases hc with rfl
          · rw [own_narc b0]; exact b0
      refine Wk.special (hm' := fun _ => h0) (y := (⟨"java/lang/String", "<init>", "([C)V"⟩ : MethodName)) (W := 1) (kc := 1) (ks := 1) (argsL := [(.ref b18)]) (rest := [(.ref a17)]) (as' := #[(.ref a17), (.ref b18)]) (ws := [a17]) X19 rfl (w_8 hw) (w_9 hw) (w_10 hw) (by decide) (own_newP (own_ws hw) (kI := 4) (w_5 hw) (cs := ([(nar .char c0)] : List Int32)) (n := 1) gz_a17 X19.old A17 F_a17_value F_a17_coder V_b18 O2 P5 rfl rfl (by decide) (by decide) hp20 (by decide) (by decide)) (fun v h' L q => ⟨q.2.1, q.2.2.1⟩) (allS gz_a17 all0) (fun _ => Mark.stay (allS gm_a17 all0)) rfl (by rw [hml]; rfl) (lenOf pd_1 rfl) rfl rfl (by show 2 * 0 + _ ≤ _; exact Nat.le_of_eq rfl) (hb hby d_method_3_31) (by decide) (by decide) ?_
      intro T21 h21 v21 L21 X21 q21 K21
      obtain ⟨rfl, -, -, S_a17⟩ := q21
      show Goes _ _ _ _ T21 (mkF m 34 #[.val (.int n), .val (.int c0), .val (.int c1)] [(.ref a17)])
      simp only [own_narc b0, own_narc b1] at S_a17
      refine Goes.outS X21 hEL (fun q => by rw [hret] at q; cases q) hlk (X21.rA hret rfl rfl (hb hby d_method_3_34)) ?_ (by decide) (by decide)
      exact ⟨Ext.oKeepOf X21.ext [], a17, rfl, by unfold own_cs; simp only [hc1, hc17, own_n10, own_n20, own_n21, own_n30, own_n31, own_n32, if_true, if_false, ↓reduceIte]; exact S_a17⟩
  · have hc1 : n = (0 : Int32) := Classical.not_not.mp hc1
    show Goes _ _ _ _ T0 (mkF m 4 #[.val (.int n), .val (.int c0), .val (.int c1)] [])
    have X22 := X0.mark
    refine Wk.new X22 (w_4 hw) (w_5 hw) (w_6 hw) rfl (hb hby d_method_3_4) (by decide) (by decide) ?_
    intro T23 h23 a23 g23 X23 E23 A23 D23
    have gz_a23 : Z.heap.size ≤ a23 := g23 ▸ X22.old.1
    have gm_a23 : h0.size ≤ a23 := g23 ▸ X22.ext.1
    have F_a23_value : Fld Z h23 a23 "java/lang/String" "value" "[B" .null := D23 (Or.inr (w_20 hw)) (ty := (.array .byte)) (by decide)
    have F_a23_coder : Fld Z h23 a23 "java/lang/String" "coder" "B" (.int (0 : Int32)) := D23 (Or.inr (w_21 hw)) (ty := .byte) (by decide)
    clear D23
    show Goes _ _ _ _ T23 (mkF m 7 #[.val (.int n), .val (.int c0), .val (.int c1)] [(.ref a23)])
    refine Goes.go (fun _ k => XS.dup X23.here X23.ex rfl (hb hby d_method_3_7) rfl rfl (XS.iconst X23.here X23.ex rfl (hb hby d_method_3_8) k)) ?_
    show Goes _ _ _ _ T23 (mkF m 9 #[.val (.int n), .val (.int c0), .val (.int c1)] [(.int (0 : Int32)), (.ref a23), (.ref a23)])
    refine Wk.newA (aty := .char) X23 (w_7 hw) rfl (hb hby d_method_3_9) rfl (by decide) (cap := 0) (by decide) (by decide) (by decide) (by decide) ?_
    intro T24 h24 b24 k24 g24 X24 E24 A24 B_b24
    have lt_a23_b24 : a23 < b24 := by rw [g24]; exact A23.lt
    replace A23 := A23.ext E24
    replace F_a23_value := F_a23_value.ext E24
    replace F_a23_coder := F_a23_coder.ext E24
    have V_b24 : Arv Z h24 b24 k24 .char (0 : Int32) [] (.int (0 : Int32)) := A24.pad (pad_rep [] (.int (0 : Int32)) 0)
    have gz_b24 : Z.heap.size ≤ b24 := g24 ▸ X23.old.1
    have gm_b24 : h0.size ≤ b24 := g24 ▸ X23.ext.1
    show Goes _ _ _ _ T24 (mkF m 11 #[.val (.int n), .val (.int c0), .val (.int c1)] [(.ref b24), (.ref a23), (.ref a23)])
    refine Wk.specialS (y := (⟨"java/lang/String", "<init>", "([C)V"⟩ : MethodName)) (W := 1) (kc := 4) (ks := 8) (argsL := [(.ref b24)]) (rest := [(.ref a23)]) (as' := #[(.ref a23), (.ref b24)]) (ws := [a23]) X24 rfl (w_8 hw) (w_9 hw) (w_10 hw) (by decide) (CtrS.pays (own_new1E l Z a0 hw hEL h24 X24.old a23 b24 A23 F_a23_value F_a23_coder gz_a23 _ _ V_b24) (w_10 hw) (w_6 hw) (by decide) (by decide) hEL) (fun v h' L q => ⟨q.2, q.1.1⟩) (allS gz_a23 all0) rfl (by rw [hml]; rfl) (lenOf pd_1 rfl) rfl rfl (by show 2 * 0 + _ ≤ _; exact Nat.le_of_eq rfl) (hb hby d_method_3_11) (by decide) (by decide) ?_
    intro T25 h25 v25 L25 X25 q25 K25
    obtain ⟨⟨-, rfl, S_a23⟩, -⟩ := q25
    show Goes _ _ _ _ T25 (mkF m 14 #[.val (.int n), .val (.int c0), .val (.int c1)] [(.ref a23)])
    have EE25 := X24.ext.oKeep K25 (allS gm_a23 all0)
    refine Goes.outS X25 hEL (fun q => by rw [hret] at q; cases q) hlk (X25.rA hret rfl rfl (hb hby d_method_3_14)) ?_ (by decide) (by decide)
    exact ⟨Ext.oKeepOf EE25 [], a23, rfl, by unfold own_cs; simp only [hc1, own_n10, own_n20, own_n21, own_n30, own_n31, own_n32, if_true, if_false, ↓reduceIte]; exact S_a23⟩
set_option maxRecDepth 65536 in
set_option maxHeartbeats 40000000 in
theorem own_locc (l : Launch) (Z : State) (a0 : Array Value) (hw : ∀ d ∈ tables_1, d.before a0 Z = true) (h0 : Heap) (hO : Ext Z.heap h0) (n : Int32) (p_PATH : Addr) (p_QUERY : Addr) (p_HEADER : Addr) (p_COOKIE : Addr) (S_PATH : Sta Z Z.heap "com/example/matchmaker/matchmaker/registry/Parameter$Location" "PATH" "Lcom/example/matchmaker/matchmaker/registry/Parameter$Location;" (.ref p_PATH)) (S_QUERY : Sta Z Z.heap "com/example/matchmaker/matchmaker/registry/Parameter$Location" "QUERY" "Lcom/example/matchmaker/matchmaker/registry/Parameter$Location;" (.ref p_QUERY)) (S_HEADER : Sta Z Z.heap "com/example/matchmaker/matchmaker/registry/Parameter$Location" "HEADER" "Lcom/example/matchmaker/matchmaker/registry/Parameter$Location;" (.ref p_HEADER)) (S_COOKIE : Sta Z Z.heap "com/example/matchmaker/matchmaker/registry/Parameter$Location" "COOKIE" "Lcom/example/matchmaker/matchmaker/registry/Parameter$Location;" (.ref p_COOKIE)) :
    CtrN l Z (⟨"com/example/matchmaker/matchmaker/registry/ParameterEqualsPinLaw", "loc", "(I)Lcom/example/matchmaker/matchmaker/registry/Parameter$Location;"⟩ : MethodName) method_2_code 1 (some (.object "com/example/matchmaker/matchmaker/registry/Parameter$Location")) ({ frames := 0, cells := 0, slots := 0, locals := 0 } : Room) #[(.int n)] h0 (fun v h' => Keep h0 h' [] ∧ v = some (.ref (own_loc n p_PATH p_QUERY p_HEADER p_COOKIE))) := by
  refine CtrN.of (plainFor_of_name pn_1) hO ?_
  intro p e s m below meth c T0 X0 hsh hby hml hret hlk hnm
  refine Goes.cast (ef_own_locc m n) ?_
  show Goes _ _ _ _ T0 (mkF m 0 #[.val (.int n)] [])
  refine Goes.go (fun _ k => XS.iloadN X0.here X0.ex rfl (hb hby d_method_2_0) rfl k) ?_
  show Goes _ _ _ _ T0 (mkF m 1 #[.val (.int n)] [(.int n)])
  refine Goes.ifc (pc' := 8) X0.here X0.ex (hb hby d_method_2_1) (by decide) (by decide) (fun hc1 => ?_) (fun hc1 => ?_)
  · have hc1 : ¬ (n = (0 : Int32)) := hc1
    show Goes _ _ _ _ T0 (mkF m 8 #[.val (.int n)] [])
    refine Goes.go (fun _ k => XS.iloadN X0.here X0.ex rfl (hb hby d_method_2_8) rfl (XS.iconst X0.here X0.ex rfl (hb hby d_method_2_9) k)) ?_
    show Goes _ _ _ _ T0 (mkF m 10 #[.val (.int n)] [(.int (1 : Int32)), (.int n)])
    refine Goes.icmp (pc' := 17) X0.here X0.ex (hb hby d_method_2_10) (by decide) (by decide) (fun hc10 => ?_) (fun hc10 => ?_)
    · have hc10 : ¬ (n = (1 : Int32)) := hc10
      show Goes _ _ _ _ T0 (mkF m 17 #[.val (.int n)] [])
      refine Goes.go (fun _ k => XS.iloadN X0.here X0.ex rfl (hb hby d_method_2_17) rfl (XS.iconst X0.here X0.ex rfl (hb hby d_method_2_18) k)) ?_
      show Goes _ _ _ _ T0 (mkF m 19 #[.val (.int n)] [(.int (2 : Int32)), (.int n)])
      refine Goes.icmp (pc' := 26) X0.here X0.ex (hb hby d_method_2_19) (by decide) (by decide) (fun hc19 => ?_) (fun hc19 => ?_)
      · have hc19 : ¬ (n = (2 : Int32)) := hc19
        show Goes _ _ _ _ T0 (mkF m 26 #[.val (.int n)] [])
        refine Wk.getS X0 (host := "") (Or.inl (w_72 hw)) Via.refl S_COOKIE rfl (hb hby d_method_2_26) ?_
        intro T26 X26
        show Goes _ _ _ _ T26 (mkF m 29 #[.val (.int n)] [(.ref p_COOKIE)])
        refine Goes.outN X26 (fun q => by rw [hret] at q; cases q) hlk (X26.rA hret rfl rfl (hb hby d_method_2_29)) ?_ (by decide) (by decide)
        exact ⟨Ext.oKeepOf X26.ext [], by unfold own_loc; simp only [hc1, hc10, hc19, own_n10, own_n20, own_n21, own_n30, own_n31, own_n32, if_true, if_false, ↓reduceIte]⟩
      · have hc19 : n = (2 : Int32) := Classical.not_not.mp hc19
        show Goes _ _ _ _ T0 (mkF m 22 #[.val (.int n)] [])
        refine Wk.getS X0 (host := "") (Or.inl (w_32 hw)) Via.refl S_HEADER rfl (hb hby d_method_2_22) ?_
        intro T27 X27
        show Goes _ _ _ _ T27 (mkF m 25 #[.val (.int n)] [(.ref p_HEADER)])
        refine Goes.outN X27 (fun q => by rw [hret] at q; cases q) hlk (X27.rA hret rfl rfl (hb hby d_method_2_25)) ?_ (by decide) (by decide)
        exact ⟨Ext.oKeepOf X27.ext [], by unfold own_loc; simp only [hc1, hc10, hc19, own_n10, own_n20, own_n21, own_n30, own_n31, own_n32, if_true, if_false, ↓reduceIte]⟩
    · have hc10 : n = (1 : Int32) := Classical.not_not.mp hc10
      show Goes _ _ _ _ T0 (mkF m 13 #[.val (.int n)] [])
      refine Wk.getS X0 (host := "") (Or.inl (w_74 hw)) Via.refl S_QUERY rfl (hb hby d_method_2_13) ?_
      intro T28 X28
      show Goes _ _ _ _ T28 (mkF m 16 #[.val (.int n)] [(.ref p_QUERY)])
      refine Goes.outN X28 (fun q => by rw [hret] at q; cases q) hlk (X28.rA hret rfl rfl (hb hby d_method_2_16)) ?_ (by decide) (by decide)
      exact ⟨Ext.oKeepOf X28.ext [], by unfold own_loc; simp only [hc1, hc10, own_n10, own_n20, own_n21, own_n30, own_n31, own_n32, if_true, if_false, ↓reduceIte]⟩
  · have hc1 : n = (0 : Int32) := Classical.not_not.mp hc1
    show Goes _ _ _ _ T0 (mkF m 4 #[.val (.int n)] [])
    refine Wk.getS X0 (host := "") (Or.inl (w_52 hw)) Via.refl S_PATH rfl (hb hby d_method_2_4) ?_
    intro T29 X29
    show Goes _ _ _ _ T29 (mkF m 7 #[.val (.int n)] [(.ref p_PATH)])
    refine Goes.outN X29 (fun q => by rw [hret] at q; cases q) hlk (X29.rA hret rfl rfl (hb hby d_method_2_7)) ?_ (by decide) (by decide)
    exact ⟨Ext.oKeepOf X29.ext [], by unfold own_loc; simp only [hc1, own_n10, own_n20, own_n21, own_n30, own_n31, own_n32, if_true, if_false, ↓reduceIte]⟩
set_option maxRecDepth 65536 in
set_option maxHeartbeats 40000000 in
theorem own_rnn (l : Launch) (Z : State) (a0 : Array Value) (hw : ∀ d ∈ tables_1, d.before a0 Z = true) (h0 : Heap) (hO : Ext Z.heap h0) (a : Addr) (mm : Addr)  :
    CtrN l Z (⟨"java/util/Objects", "requireNonNull", "(Ljava/lang/Object;Ljava/lang/String;)Ljava/lang/Object;"⟩ : MethodName) jdk_31_method_11_code 2 (some (.object "java/lang/Object")) ({ frames := 0, cells := 0, slots := 0, locals := 0 } : Room) #[(.ref a), (.ref mm)] h0 (fun v h' => Keep h0 h' [] ∧ v = some (.ref a)) := by
  refine CtrN.of (plainFor_of_name pn_2) hO ?_
  intro p e s m below meth c T0 X0 hsh hby hml hret hlk hnm
  refine Goes.cast (ef_own_rnn m a mm) ?_
  show Goes _ _ _ _ T0 (mkF m 0 #[.val (.ref a), .val (.ref mm)] [])
  refine Goes.go (fun _ k => XS.aloadN X0.here X0.ex rfl (hb hby d_jdk_31_method_11_0) rfl rfl (XS.ifnonnullYes X0.here X0.ex rfl (pc0 := 1) (pc' := 13) rfl (hb hby d_jdk_31_method_11_1) rfl (by decide) (by decide) (XS.aloadN X0.here X0.ex rfl (hb hby d_jdk_31_method_11_13) rfl rfl k))) ?_
  show Goes _ _ _ _ T0 (mkF m 14 #[.val (.ref a), .val (.ref mm)] [(.ref a)])
  refine Goes.outN X0 (fun q => by rw [hret] at q; cases q) hlk (X0.rA hret rfl rfl (hb hby d_jdk_31_method_11_14)) ?_ (by decide) (by decide)
  exact ⟨Ext.oKeepOf X0.ext [], rfl⟩
set_option maxRecDepth 65536 in
set_option maxHeartbeats 40000000 in
theorem own_ini (l : Launch) (Z : State) (a0 : Array Value) (hw : ∀ d ∈ tables_1, d.before a0 Z = true) (hEL : EW Z a0 consts_1) (h0 : Heap) (hO : Ext Z.heap h0) (x : Addr) (a : Addr) (lc : Addr) (E_x : Exa Z h0 x "com/example/matchmaker/matchmaker/registry/Parameter") (F_x_name : Fld Z h0 x "com/example/matchmaker/matchmaker/registry/Parameter" "name" "Ljava/lang/String;" .null) (F_x_location : Fld Z h0 x "com/example/matchmaker/matchmaker/registry/Parameter" "location" "Lcom/example/matchmaker/matchmaker/registry/Parameter$Location;" .null) (gz_x : Z.heap.size ≤ x) (E_a : Exa Z h0 a "java/lang/String") (E_k : Exa Z h0 lc "com/example/matchmaker/matchmaker/registry/Parameter$Location") :
    CtrS l Z consts_1 (⟨"com/example/matchmaker/matchmaker/registry/Parameter", "<init>", "(Ljava/lang/String;Lcom/example/matchmaker/matchmaker/registry/Parameter$Location;)V"⟩ : MethodName) prog_34_method_1_code 3 none ({ frames := 1, cells := 4, slots := 56, locals := 20 } : Room) #[(.ref x), (.ref a), (.ref lc)] h0 (fun v h' => Keep h0 h' [x] ∧ v = none ∧ Exa Z h' x "com/example/matchmaker/matchmaker/registry/Parameter" ∧ Fld Z h' x "com/example/matchmaker/matchmaker/registry/Parameter" "name" "Ljava/lang/String;" (.ref a) ∧ Fld Z h' x "com/example/matchmaker/matchmaker/registry/Parameter" "location" "Lcom/example/matchmaker/matchmaker/registry/Parameter$Location;" (.ref lc)) := by
  refine CtrS.of (plainFor_of_name pn_3) hO ?_
  intro p e s m below meth c T0 X0 hsh hby hml hret hlk hnm
  refine Goes.cast (ef_own_ini m x a lc) ?_
  show Goes _ _ _ _ T0 (mkF m 0 #[.val (.ref x), .val (.ref a), .val (.ref lc)] [])
  refine Goes.go (fun _ k => XS.aloadN X0.here X0.ex rfl (hb hby d_prog_34_method_1_0) rfl rfl k) ?_
  show Goes _ _ _ _ T0 (mkF m 1 #[.val (.ref x), .val (.ref a), .val (.ref lc)] [(.ref x)])
  have K0 : Keep h0 h0 [x] := Keep.refl _ _
  refine Wk.initO X0 (w_38 hw) (w_16 hw) (w_17 hw) rfl (by rw [hml]; rfl) rfl (hb hby d_prog_34_method_1_1) (by decide) (W := 0) (by show 2 * 0 + _ ≤ _; exact Nat.le_of_eq rfl) (by decide) ?_
  intro T30 X30
  show Goes _ _ _ _ T30 (mkF m 4 #[.val (.ref x), .val (.ref a), .val (.ref lc)] [])
  refine Goes.go (fun _ k => XS.aloadN X30.here X30.ex rfl (hb hby d_prog_34_method_1_4) rfl rfl (XS.aloadN X30.here X30.ex rfl (hb hby d_prog_34_method_1_5) rfl rfl k)) ?_
  show Goes _ _ _ _ T30 (mkF m 6 #[.val (.ref x), .val (.ref a), .val (.ref lc)] [(.ref a), (.ref x)])
  refine Wk.ldcO X30 (w_39 hw) (own_wS hw) hEL rfl (hb hby d_prog_34_method_1_6) (n := 16) (by decide) (by decide) (by decide) (by decide) ?_
  intro T31 h31 a31 X31 E31
  replace E_x := E_x.ext E31
  replace E_a := E_a.ext E31
  replace E_k := E_k.ext E31
  replace F_x_name := F_x_name.ext E31
  replace F_x_location := F_x_location.ext E31
  show Goes _ _ _ _ T31 (mkF m 8 #[.val (.ref x), .val (.ref a), .val (.ref lc)] [(.ref a31), (.ref a), (.ref x)])
  replace K0 := K0.ext E31
  refine Wk.static (hm' := fun _ => h31) (y := (⟨"java/util/Objects", "requireNonNull", "(Ljava/lang/Object;Ljava/lang/String;)Ljava/lang/Object;"⟩ : MethodName)) (W := 1) (kc := 0) (ks := 0) (argsL := [(.ref a), (.ref a31)]) (rest := [(.ref x)]) (as' := #[(.ref a), (.ref a31)]) (ws := []) X31 (w_40 hw) (w_41 hw) (w_42 hw) (w_43 hw) (by decide) (CtrN.pays (own_rnn l Z a0 hw h31 X31.old a a31) (w_43 hw) (w_42 hw) (by decide) (by decide)) (fun v h' L q => ⟨q.2, q.1.1⟩) all0 (fun _ => Mark.stay all0) rfl (by rw [hml]; rfl) (lenOf pd_2 rfl) rfl rfl (by show 2 * 0 + _ ≤ _; exact Nat.le_of_eq rfl) (hb hby d_prog_34_method_1_8) (by decide) (by decide) ?_
  intro T32 h32 v32 L32 X32 q32 K32
  obtain ⟨⟨-, rfl⟩, -⟩ := q32
  replace E_x := E_x.ext K32.oExt
  replace E_a := E_a.ext K32.oExt
  replace E_k := E_k.ext K32.oExt
  replace F_x_name := F_x_name.ext K32.oExt
  replace F_x_location := F_x_location.ext K32.oExt
  replace K0 := K0.ext K32.oExt
  show Goes _ _ _ _ T32 (mkF m 11 #[.val (.ref x), .val (.ref a), .val (.ref lc)] [(.ref a), (.ref x)])
  refine Wk.castY X32 (w_44 hw) (Ins.self E_a) rfl rfl (hb hby d_prog_34_method_1_11) ?_
  intro T33 X33
  show Goes _ _ _ _ T33 (mkF m 14 #[.val (.ref x), .val (.ref a), .val (.ref lc)] [(.ref a), (.ref x)])
  refine Wk.putF (hm' := fun h' => h') X33 (host := "") (Or.inl (w_45 hw)) Via.refl F_x_name E_x (Or.inr ⟨(w_46 hw), rfl, hnm⟩) (w_27 hw) (ty := (.object "java/lang/String")) (by decide) rfl rfl gz_x (fun _ => Mark.anew (allS (Or.inr (SafeA.exa E_x (by decide) (by decide))) all0)) rfl rfl (hb hby d_prog_34_method_1_14) ?_
  intro T34 h34 X34 W34
  have F34 := F_x_name.same W34
  replace E_x := E_x.wr W34
  replace E_a := E_a.wr W34
  replace E_k := E_k.wr W34
  replace F_x_location := F_x_location.other W34 (Or.inr (slot_ne (Or.inr (w_51 hw)) (Or.inr (w_46 hw)) (by decide) (t := (.object "com/example/matchmaker/matchmaker/registry/Parameter$Location")) (t' := (.object "java/lang/String")) (by decide) (by decide)))
  clear F_x_name; have F_x_name := F34
  show Goes _ _ _ _ T34 (mkF m 17 #[.val (.ref x), .val (.ref a), .val (.ref lc)] [])
  replace K0 := K0.wr W34 (Or.inl (List.mem_of_getElem? (i := 0) rfl))
  refine Goes.go (fun _ k => XS.aloadN X34.here X34.ex rfl (hb hby d_prog_34_method_1_17) rfl rfl (XS.aloadN X34.here X34.ex rfl (hb hby d_prog_34_method_1_18) rfl rfl k)) ?_
  show Goes _ _ _ _ T34 (mkF m 19 #[.val (.ref x), .val (.ref a), .val (.ref lc)] [(.ref lc), (.ref x)])
  refine Wk.ldcO X34 (w_47 hw) (own_wS hw) hEL rfl (hb hby d_prog_34_method_1_19) (n := 32) (by decide) (by decide) (by decide) (by decide) ?_
  intro T35 h35 a35 X35 E35
  replace E_x := E_x.ext E35
  replace E_a := E_a.ext E35
  replace E_k := E_k.ext E35
  replace F_x_location := F_x_location.ext E35
  replace F_x_name := F_x_name.ext E35
  show Goes _ _ _ _ T35 (mkF m 21 #[.val (.ref x), .val (.ref a), .val (.ref lc)] [(.ref a35), (.ref lc), (.ref x)])
  replace K0 := K0.ext E35
  refine Wk.static (hm' := fun _ => h35) (y := (⟨"java/util/Objects", "requireNonNull", "(Ljava/lang/Object;Ljava/lang/String;)Ljava/lang/Object;"⟩ : MethodName)) (W := 1) (kc := 0) (ks := 0) (argsL := [(.ref lc), (.ref a35)]) (rest := [(.ref x)]) (as' := #[(.ref lc), (.ref a35)]) (ws := []) X35 (w_40 hw) (w_41 hw) (w_42 hw) (w_43 hw) (by decide) (CtrN.pays (own_rnn l Z a0 hw h35 X35.old lc a35) (w_43 hw) (w_42 hw) (by decide) (by decide)) (fun v h' L q => ⟨q.2, q.1.1⟩) all0 (fun _ => Mark.stay all0) rfl (by rw [hml]; rfl) (lenOf pd_2 rfl) rfl rfl (by show 2 * 0 + _ ≤ _; exact Nat.le_of_eq rfl) (hb hby d_prog_34_method_1_21) (by decide) (by decide) ?_
  intro T36 h36 v36 L36 X36 q36 K36
  obtain ⟨⟨-, rfl⟩, -⟩ := q36
  replace E_x := E_x.ext K36.oExt
  replace E_a := E_a.ext K36.oExt
  replace E_k := E_k.ext K36.oExt
  replace F_x_location := F_x_location.ext K36.oExt
  replace F_x_name := F_x_name.ext K36.oExt
  replace K0 := K0.ext K36.oExt
  show Goes _ _ _ _ T36 (mkF m 24 #[.val (.ref x), .val (.ref a), .val (.ref lc)] [(.ref lc), (.ref x)])
  refine Wk.castY X36 (w_48 hw) (Ins.self E_k) rfl rfl (hb hby d_prog_34_method_1_24) ?_
  intro T37 X37
  show Goes _ _ _ _ T37 (mkF m 27 #[.val (.ref x), .val (.ref a), .val (.ref lc)] [(.ref lc), (.ref x)])
  refine Wk.putF (hm' := fun h' => h') X37 (host := "") (Or.inl (w_50 hw)) Via.refl F_x_location E_x (Or.inr ⟨(w_51 hw), rfl, hnm⟩) (w_27 hw) (ty := (.object "com/example/matchmaker/matchmaker/registry/Parameter$Location")) (by decide) rfl rfl gz_x (fun _ => Mark.anew (allS (Or.inr (SafeA.exa E_x (by decide) (by decide))) all0)) rfl rfl (hb hby d_prog_34_method_1_27) ?_
  intro T38 h38 X38 W38
  have F38 := F_x_location.same W38
  replace E_x := E_x.wr W38
  replace E_a := E_a.wr W38
  replace E_k := E_k.wr W38
  replace F_x_name := F_x_name.other W38 (Or.inr (slot_ne (Or.inr (w_46 hw)) (Or.inr (w_51 hw)) (by decide) (t := (.object "java/lang/String")) (t' := (.object "com/example/matchmaker/matchmaker/registry/Parameter$Location")) (by decide) (by decide)))
  clear F_x_location; have F_x_location := F38
  show Goes _ _ _ _ T38 (mkF m 30 #[.val (.ref x), .val (.ref a), .val (.ref lc)] [])
  replace K0 := K0.wr W38 (Or.inl (List.mem_of_getElem? (i := 0) rfl))
  refine Goes.outS X38 hEL (fun _ => rfl) hlk (X38.rV hret (hb hby d_prog_34_method_1_30)) ?_ (by decide) (by decide)
  exact ⟨K0, rfl, E_x, F_x_name, F_x_location⟩
set_option maxRecDepth 65536 in
set_option maxHeartbeats 40000000 in
theorem own_eqN (l : Launch) (Z : State) (a0 : Array Value) (hw : ∀ d ∈ tables_1, d.before a0 Z = true) (h0 : Heap) (hO : Ext Z.heap h0) (x : Addr)  :
    CtrN l Z (⟨"com/example/matchmaker/matchmaker/registry/Parameter", "equals", "(Ljava/lang/Object;)Z"⟩ : MethodName) prog_34_method_4_code 3 (some .boolean) ({ frames := 3, cells := 0, slots := 0, locals := 42 } : Room) #[(.ref x), .null] h0 (fun v h' => Keep h0 h' [] ∧ v = some (.int (0 : Int32))) := by
  refine CtrN.of (plainFor_of_name pn_3) hO ?_
  intro p e s m below meth c T0 X0 hsh hby hml hret hlk hnm
  refine Goes.cast (ef_own_eqN m x) ?_
  show Goes _ _ _ _ T0 (mkF m 0 #[.val (.ref x), .val .null, .unset] [])
  refine Goes.go (fun _ k => XS.aloadN X0.here X0.ex rfl (hb hby d_prog_34_method_4_0) rfl rfl k) ?_
  show Goes _ _ _ _ T0 (mkF m 1 #[.val (.ref x), .val .null, .unset] [.null])
  refine Goes.go (X0.instNull rfl rfl (hb hby d_prog_34_method_4_1)) ?_
  show Goes _ _ _ _ T0 (mkF m 4 #[.val (.ref x), .val .null, .unset] [(.int (0 : Int32))])
  refine Goes.go (fun _ k => XS.ifYes X0.here X0.ex rfl (pc0 := 4) (pc' := 41) rfl (hb hby d_prog_34_method_4_4) rfl ((if0 _ _).trans (cd_t (cd := .eq) (x := (0 : Int32)) (y := (0 : Int32)) (by decide))) (by decide) (by decide) (XS.iconst X0.here X0.ex rfl (hb hby d_prog_34_method_4_41) k)) ?_
  show Goes _ _ _ _ T0 (mkF m 42 #[.val (.ref x), .val .null, .unset] [(.int (0 : Int32))])
  refine Goes.outN X0 (fun q => by rw [hret] at q; cases q) hlk (X0.rB hret (by simp) (hb hby d_prog_34_method_4_42)) ?_ (by decide) (by decide)
  exact ⟨Ext.oKeepOf X0.ext [], rfl⟩
set_option maxRecDepth 65536 in
set_option maxHeartbeats 40000000 in
theorem own_eqS (l : Launch) (Z : State) (a0 : Array Value) (hw : ∀ d ∈ tables_1, d.before a0 Z = true) (h0 : Heap) (hO : Ext Z.heap h0) (x : Addr) (y : Addr) (E : Exa Z h0 y "java/lang/String") :
    CtrN l Z (⟨"com/example/matchmaker/matchmaker/registry/Parameter", "equals", "(Ljava/lang/Object;)Z"⟩ : MethodName) prog_34_method_4_code 3 (some .boolean) ({ frames := 3, cells := 0, slots := 0, locals := 42 } : Room) #[(.ref x), (.ref y)] h0 (fun v h' => Keep h0 h' [] ∧ v = some (.int (0 : Int32))) := by
  refine CtrN.of (plainFor_of_name pn_3) hO ?_
  intro p e s m below meth c T0 X0 hsh hby hml hret hlk hnm
  refine Goes.cast (ef_own_eqS m x y) ?_
  show Goes _ _ _ _ T0 (mkF m 0 #[.val (.ref x), .val (.ref y), .unset] [])
  refine Goes.go (fun _ k => XS.aloadN X0.here X0.ex rfl (hb hby d_prog_34_method_4_0) rfl rfl k) ?_
  show Goes _ _ _ _ T0 (mkF m 1 #[.val (.ref x), .val (.ref y), .unset] [(.ref y)])
  refine Wk.instNo X0 (w_59 hw) E (own_noinst (w_86 hw) (w_87 hw) (w_27 hw) (by decide) (by decide)) rfl rfl (hb hby d_prog_34_method_4_1) ?_
  intro T40 X40
  show Goes _ _ _ _ T40 (mkF m 4 #[.val (.ref x), .val (.ref y), .unset] [(.int (0 : Int32))])
  refine Goes.go (fun _ k => XS.ifYes X40.here X40.ex rfl (pc0 := 4) (pc' := 41) rfl (hb hby d_prog_34_method_4_4) rfl ((if0 _ _).trans (cd_t (cd := .eq) (x := (0 : Int32)) (y := (0 : Int32)) (by decide))) (by decide) (by decide) (XS.iconst X40.here X40.ex rfl (hb hby d_prog_34_method_4_41) k)) ?_
  show Goes _ _ _ _ T40 (mkF m 42 #[.val (.ref x), .val (.ref y), .unset] [(.int (0 : Int32))])
  refine Goes.outN X40 (fun q => by rw [hret] at q; cases q) hlk (X40.rB hret (by simp) (hb hby d_prog_34_method_4_42)) ?_ (by decide) (by decide)
  exact ⟨Ext.oKeepOf X40.ext [], rfl⟩
set_option maxRecDepth 65536 in
set_option maxHeartbeats 40000000 in
theorem own_eq (l : Launch) (Z : State) (a0 : Array Value) (hw : ∀ d ∈ tables_1, d.before a0 Z = true) (h0 : Heap) (hO : Ext Z.heap h0) (x : Addr) (y : Addr) (a : Addr) (b : Addr) (lx : Addr) (ly : Addr) (cs : List Int32) (ds : List Int32) (G1 : Int32) (O2 : Sta Z Z.heap "java/lang/String" "COMPACT_STRINGS" "Z" (.int G1)) (P5 : ¬ (G1 = (0 : Int32))) (Ey : Exa Z h0 y "com/example/matchmaker/matchmaker/registry/Parameter") (Ix : Fld Z h0 x "com/example/matchmaker/matchmaker/registry/Parameter" "name" "Ljava/lang/String;" (.ref a)) (Iy : Fld Z h0 y "com/example/matchmaker/matchmaker/registry/Parameter" "name" "Ljava/lang/String;" (.ref b)) (Ox : Fld Z h0 x "com/example/matchmaker/matchmaker/registry/Parameter" "location" "Lcom/example/matchmaker/matchmaker/registry/Parameter$Location;" (.ref lx)) (Oy : Fld Z h0 y "com/example/matchmaker/matchmaker/registry/Parameter" "location" "Lcom/example/matchmaker/matchmaker/registry/Parameter$Location;" (.ref ly)) (Sa : LStr Z h0 a cs) (Sb : LStr Z h0 b ds) :
    CtrN l Z (⟨"com/example/matchmaker/matchmaker/registry/Parameter", "equals", "(Ljava/lang/Object;)Z"⟩ : MethodName) prog_34_method_4_code 3 (some .boolean) ({ frames := 3, cells := 0, slots := 0, locals := 42 } : Room) #[(.ref x), (.ref y)] h0 (fun v h' => Keep h0 h' [] ∧ ((v = some (.int (1 : Int32)) ∧ (cs = ds ∧ lx = ly)) ∨ (v = some (.int (0 : Int32)) ∧ ¬ (cs = ds ∧ lx = ly)))) := by
  refine CtrN.of (plainFor_of_name pn_3) hO ?_
  intro p e s m below meth c T0 X0 hsh hby hml hret hlk hnm
  refine Goes.cast (ef_own_eq m x y) ?_
  show Goes _ _ _ _ T0 (mkF m 0 #[.val (.ref x), .val (.ref y), .unset] [])
  refine Goes.go (fun _ k => XS.aloadN X0.here X0.ex rfl (hb hby d_prog_34_method_4_0) rfl rfl k) ?_
  show Goes _ _ _ _ T0 (mkF m 1 #[.val (.ref x), .val (.ref y), .unset] [(.ref y)])
  refine Wk.instY X0 (w_59 hw) (Ins.self Ey) rfl rfl (hb hby d_prog_34_method_4_1) ?_
  intro T41 X41
  show Goes _ _ _ _ T41 (mkF m 4 #[.val (.ref x), .val (.ref y), .unset] [(.int (1 : Int32))])
  refine Goes.go (fun _ k => XS.ifNo X41.here X41.ex rfl (hb hby d_prog_34_method_4_4) rfl ((if0 _ _).trans (cd_f (cd := .eq) (x := (1 : Int32)) (y := (0 : Int32)) (by decide))) (XS.aloadN X41.here X41.ex rfl (hb hby d_prog_34_method_4_7) rfl rfl k)) ?_
  show Goes _ _ _ _ T41 (mkF m 8 #[.val (.ref x), .val (.ref y), .unset] [(.ref y)])
  refine Wk.castY X41 (w_59 hw) (Ins.self Ey) rfl rfl (hb hby d_prog_34_method_4_8) ?_
  intro T42 X42
  show Goes _ _ _ _ T42 (mkF m 11 #[.val (.ref x), .val (.ref y), .unset] [(.ref y)])
  refine Goes.go (fun _ k => XS.astoreN X42.here X42.ex rfl (hb hby d_prog_34_method_4_11) rfl rfl (l' := #[.val (.ref x), .val (.ref y), .val (.ref y)]) rfl (XS.aloadN X42.here X42.ex rfl (hb hby d_prog_34_method_4_12) rfl rfl k)) ?_
  show Goes _ _ _ _ T42 (mkF m 13 #[.val (.ref x), .val (.ref y), .val (.ref y)] [(.ref x)])
  refine Wk.getF X42 (host := "") (Or.inl (w_45 hw)) Via.refl Ix rfl rfl (hb hby d_prog_34_method_4_13) ?_
  intro T43 X43
  show Goes _ _ _ _ T43 (mkF m 16 #[.val (.ref x), .val (.ref y), .val (.ref y)] [(.ref a)])
  refine Goes.go (fun _ k => XS.aloadN X43.here X43.ex rfl (hb hby d_prog_34_method_4_16) rfl rfl k) ?_
  show Goes _ _ _ _ T43 (mkF m 17 #[.val (.ref x), .val (.ref y), .val (.ref y)] [(.ref y), (.ref a)])
  refine Wk.getF X43 (host := "") (Or.inl (w_45 hw)) Via.refl Iy rfl rfl (hb hby d_prog_34_method_4_17) ?_
  intro T44 X44
  show Goes _ _ _ _ T44 (mkF m 20 #[.val (.ref x), .val (.ref y), .val (.ref y)] [(.ref b), (.ref a)])
  refine Wk.virtual (hm' := fun _ => h0) (C := "java/lang/String") (y := (⟨"java/lang/String", "equals", "(Ljava/lang/Object;)Z"⟩ : MethodName)) (z := (⟨"java/lang/String", "equals", "(Ljava/lang/Object;)Z"⟩ : MethodName)) (W := 0) (kc := 0) (ks := 0) (argsL := [(.ref b)]) (rest := []) (as' := #[(.ref a), (.ref b)]) (ws := []) X44 (w_61 hw) (w_62 hw) (w_64 hw) (w_63 hw) (by decide) Sa.1 (nf_sel (w_64 hw)) (own_eqP (own_wsEq hw) (kI := 4) (w_5 hw) Sa Sb O2 P5 X44.old (by decide) (by decide)) (fun v h' L q => ⟨by rw [q.2.1]; exact Fr.nil _, by rw [q.2.2]; exact Keep.refl _ _⟩) all0 (fun _ => Mark.stay all0) rfl (by rw [hml]; rfl) (lenOf pd_3 rfl) rfl rfl (by show 2 * 0 + _ ≤ _; exact Nat.le_of_eq rfl) (hb hby d_prog_34_method_4_20) (by decide) (by decide) ?_
  intro T45 h45 v45 L45 X45 q45 K45
  obtain ⟨hE45, -, -⟩ := q45
  replace Ox := Ox.ext K45.oExt
  replace Oy := Oy.ext K45.oExt
  rcases hE45 with ⟨rfl, hq1⟩ | ⟨rfl, hq1⟩
  · show Goes _ _ _ _ T45 (mkF m 23 #[.val (.ref x), .val (.ref y), .val (.ref y)] [(.int (1 : Int32))])
    refine Goes.go (fun _ k => XS.ifNo X45.here X45.ex rfl (hb hby d_prog_34_method_4_23) rfl ((if0 _ _).trans (cd_f (cd := .eq) (x := (1 : Int32)) (y := (0 : Int32)) (by decide))) (XS.aloadN X45.here X45.ex rfl (hb hby d_prog_34_method_4_26) rfl rfl k)) ?_
    show Goes _ _ _ _ T45 (mkF m 27 #[.val (.ref x), .val (.ref y), .val (.ref y)] [(.ref x)])
    refine Wk.getF X45 (host := "") (Or.inl (w_50 hw)) Via.refl Ox rfl rfl (hb hby d_prog_34_method_4_27) ?_
    intro T46 X46
    show Goes _ _ _ _ T46 (mkF m 30 #[.val (.ref x), .val (.ref y), .val (.ref y)] [(.ref lx)])
    refine Goes.go (fun _ k => XS.aloadN X46.here X46.ex rfl (hb hby d_prog_34_method_4_30) rfl rfl k) ?_
    show Goes _ _ _ _ T46 (mkF m 31 #[.val (.ref x), .val (.ref y), .val (.ref y)] [(.ref y), (.ref lx)])
    refine Wk.getF X46 (host := "") (Or.inl (w_50 hw)) Via.refl Oy rfl rfl (hb hby d_prog_34_method_4_31) ?_
    intro T47 X47
    show Goes _ _ _ _ T47 (mkF m 34 #[.val (.ref x), .val (.ref y), .val (.ref y)] [(.ref ly), (.ref lx)])
    refine Goes.acmp (pc' := 41) X47.here X47.ex (hb hby d_prog_34_method_4_34) rfl rfl (by decide) (by decide) (fun hc34 => ?_) (fun hc34 => ?_)
    · have hc34 : ¬ lx = ly := by simpa [Jvm.Free.XT.acmp] using hc34
      show Goes _ _ _ _ T47 (mkF m 41 #[.val (.ref x), .val (.ref y), .val (.ref y)] [])
      refine Goes.go (fun _ k => XS.iconst X47.here X47.ex rfl (hb hby d_prog_34_method_4_41) k) ?_
      show Goes _ _ _ _ T47 (mkF m 42 #[.val (.ref x), .val (.ref y), .val (.ref y)] [(.int (0 : Int32))])
      refine Goes.outN X47 (fun q => by rw [hret] at q; cases q) hlk (X47.rB hret (by simp) (hb hby d_prog_34_method_4_42)) ?_ (by decide) (by decide)
      exact ⟨Ext.oKeepOf X47.ext [], Or.inr ⟨rfl, fun q => hc34 q.2⟩⟩
    · have hc34 : lx = ly := by simpa [Jvm.Free.XT.acmp] using hc34
      show Goes _ _ _ _ T47 (mkF m 37 #[.val (.ref x), .val (.ref y), .val (.ref y)] [])
      refine Goes.go (fun _ k => XS.iconst X47.here X47.ex rfl (hb hby d_prog_34_method_4_37) (XS.goto X47.here X47.ex rfl (pc0 := 38) (pc' := 42) rfl (hb hby d_prog_34_method_4_38) (by decide) (by decide) k)) ?_
      show Goes _ _ _ _ T47 (mkF m 42 #[.val (.ref x), .val (.ref y), .val (.ref y)] [(.int (1 : Int32))])
      refine Goes.outN X47 (fun q => by rw [hret] at q; cases q) hlk (X47.rB hret (by simp) (hb hby d_prog_34_method_4_42)) ?_ (by decide) (by decide)
      exact ⟨Ext.oKeepOf X47.ext [], Or.inl ⟨rfl, hq1, hc34⟩⟩
  · show Goes _ _ _ _ T45 (mkF m 23 #[.val (.ref x), .val (.ref y), .val (.ref y)] [(.int (0 : Int32))])
    refine Goes.go (fun _ k => XS.ifYes X45.here X45.ex rfl (pc0 := 23) (pc' := 41) rfl (hb hby d_prog_34_method_4_23) rfl ((if0 _ _).trans (cd_t (cd := .eq) (x := (0 : Int32)) (y := (0 : Int32)) (by decide))) (by decide) (by decide) (XS.iconst X45.here X45.ex rfl (hb hby d_prog_34_method_4_41) k)) ?_
    show Goes _ _ _ _ T45 (mkF m 42 #[.val (.ref x), .val (.ref y), .val (.ref y)] [(.int (0 : Int32))])
    refine Goes.outN X45 (fun q => by rw [hret] at q; cases q) hlk (X45.rB hret (by simp) (hb hby d_prog_34_method_4_42)) ?_ (by decide) (by decide)
    exact ⟨Ext.oKeepOf X45.ext [], Or.inr ⟨rfl, fun q => hq1 q.1⟩⟩
set_option maxRecDepth 65536 in
set_option maxHeartbeats 40000000 in
theorem own_law (l : Launch) (Z : State) (a0 : Array Value) (hw : ∀ d ∈ tables_1, d.before a0 Z = true) (hEL : EW Z a0 consts_1) (h0 : Heap) (hO : Ext Z.heap h0) (i0 : Int32) (i1 : Int32) (i2 : Int32) (G1 : Int32) (p_PATH : Addr) (p_QUERY : Addr) (p_HEADER : Addr) (p_COOKIE : Addr) (O2 : Sta Z Z.heap "java/lang/String" "COMPACT_STRINGS" "Z" (.int G1)) (P5 : ¬ (G1 = (0 : Int32))) (S_PATH : Sta Z Z.heap "com/example/matchmaker/matchmaker/registry/Parameter$Location" "PATH" "Lcom/example/matchmaker/matchmaker/registry/Parameter$Location;" (.ref p_PATH)) (S_QUERY : Sta Z Z.heap "com/example/matchmaker/matchmaker/registry/Parameter$Location" "QUERY" "Lcom/example/matchmaker/matchmaker/registry/Parameter$Location;" (.ref p_QUERY)) (S_HEADER : Sta Z Z.heap "com/example/matchmaker/matchmaker/registry/Parameter$Location" "HEADER" "Lcom/example/matchmaker/matchmaker/registry/Parameter$Location;" (.ref p_HEADER)) (S_COOKIE : Sta Z Z.heap "com/example/matchmaker/matchmaker/registry/Parameter$Location" "COOKIE" "Lcom/example/matchmaker/matchmaker/registry/Parameter$Location;" (.ref p_COOKIE)) (E_PATH : Exa Z Z.heap p_PATH "com/example/matchmaker/matchmaker/registry/Parameter$Location") (E_QUERY : Exa Z Z.heap p_QUERY "com/example/matchmaker/matchmaker/registry/Parameter$Location") (E_HEADER : Exa Z Z.heap p_HEADER "com/example/matchmaker/matchmaker/registry/Parameter$Location") (E_COOKIE : Exa Z Z.heap p_COOKIE "com/example/matchmaker/matchmaker/registry/Parameter$Location") (n01 : ¬ p_PATH = p_QUERY) (n02 : ¬ p_PATH = p_HEADER) (n03 : ¬ p_PATH = p_COOKIE) (n12 : ¬ p_QUERY = p_HEADER) (n13 : ¬ p_QUERY = p_COOKIE) (n23 : ¬ p_HEADER = p_COOKIE) :
    CtrS l Z consts_1 x code maxLocals ret room_1 #[(.int i0), (.int i1), (.int i2)] h0 (fun v h' => v = some (.int (1 : Int32))) := by
  refine CtrS.of (plainFor_of_name pn_1) hO ?_
  intro p e s m below meth c T0 X0 hsh hby hml hret hlk hnm
  refine Goes.cast (ef_own_law m i0 i1 i2) ?_
  show Goes _ _ _ _ T0 (mkF m 0 #[.val (.int i0), .val (.int i1), .val (.int i2), .unset, .unset, .unset, .unset, .unset, .unset, .unset, .unset, .unset, .unset, .unset, .unset, .unset, .unset, .unset, .unset] [])
  refine Goes.go (fun _ k => XS.iloadN X0.here X0.ex rfl (hb hby at_0) rfl (XS.bipush X0.here X0.ex rfl (hb hby at_1) (XS.iushr X0.here X0.ex rfl (hb hby at_3) rfl (XS.iconst X0.here X0.ex rfl (hb hby at_4) (XS.iand X0.here X0.ex rfl (hb hby at_5) rfl k))))) ?_
  show Goes _ _ _ _ T0 (mkF m 6 #[.val (.int i0), .val (.int i1), .val (.int i2), .unset, .unset, .unset, .unset, .unset, .unset, .unset, .unset, .unset, .unset, .unset, .unset, .unset, .unset, .unset, .unset] [(.int (((i2.toUInt32 >>> ((6 : Int32) &&& 31).toUInt32).toInt32) &&& (1 : Int32)))])
  suffices hJ6 : Goes p.tables e below (EndS Z s consts_1 room_1.cells room_1.slots (fun v h' => v = some (.int (1 : Int32)))) T0 (mkF m 14 #[.val (.int i0), .val (.int i1), .val (.int i2), .unset, .unset, .unset, .unset, .unset, .unset, .unset, .unset, .unset, .unset, .unset, .unset, .unset, .unset, .unset, .unset] [(.int (if (((i2.toUInt32 >>> ((6 : Int32) &&& 31).toUInt32).toInt32) &&& (1 : Int32)) = (0 : Int32) then i1 else i0))]) by
    refine Goes.ifc (pc' := 13) X0.here X0.ex (hb hby at_6) (by decide) (by decide) (fun hr1 => ?_) (fun hr1 => ?_)
    · have hr1 : (((i2.toUInt32 >>> ((6 : Int32) &&& 31).toUInt32).toInt32) &&& (1 : Int32)) = (0 : Int32) := hr1
      show Goes _ _ _ _ T0 (mkF m 13 #[.val (.int i0), .val (.int i1), .val (.int i2), .unset, .unset, .unset, .unset, .unset, .unset, .unset, .unset, .unset, .unset, .unset, .unset, .unset, .unset, .unset, .unset] [])
      refine Goes.go (fun _ k => XS.iloadN X0.here X0.ex rfl (hb hby at_13) rfl k) ?_
      show Goes _ _ _ _ T0 (mkF m 14 #[.val (.int i0), .val (.int i1), .val (.int i2), .unset, .unset, .unset, .unset, .unset, .unset, .unset, .unset, .unset, .unset, .unset, .unset, .unset, .unset, .unset, .unset] [(.int i1)])
      (try simp only [if_pos hr1] at hJ6 ⊢)
      exact hJ6
    · have hr1 : ¬ ((((i2.toUInt32 >>> ((6 : Int32) &&& 31).toUInt32).toInt32) &&& (1 : Int32)) = (0 : Int32)) := hr1
      show Goes _ _ _ _ T0 (mkF m 9 #[.val (.int i0), .val (.int i1), .val (.int i2), .unset, .unset, .unset, .unset, .unset, .unset, .unset, .unset, .unset, .unset, .unset, .unset, .unset, .unset, .unset, .unset] [])
      refine Goes.go (fun _ k => XS.iloadN X0.here X0.ex rfl (hb hby at_9) rfl (XS.goto X0.here X0.ex rfl (pc0 := 10) (pc' := 14) rfl (hb hby at_10) (by decide) (by decide) k)) ?_
      show Goes _ _ _ _ T0 (mkF m 14 #[.val (.int i0), .val (.int i1), .val (.int i2), .unset, .unset, .unset, .unset, .unset, .unset, .unset, .unset, .unset, .unset, .unset, .unset, .unset, .unset, .unset, .unset] [(.int i0)])
      (try simp only [if_neg hr1] at hJ6 ⊢)
      exact hJ6
  refine Goes.go (fun _ k => XS.istoreN X0.here X0.ex rfl (hb hby at_14) rfl (l' := #[.val (.int i0), .val (.int i1), .val (.int i2), .val (.int (if (((i2.toUInt32 >>> ((6 : Int32) &&& 31).toUInt32).toInt32) &&& (1 : Int32)) = (0 : Int32) then i1 else i0)), .unset, .unset, .unset, .unset, .unset, .unset, .unset, .unset, .unset, .unset, .unset, .unset, .unset, .unset, .unset]) rfl k) ?_
  show Goes _ _ _ _ T0 (mkF m 15 #[.val (.int i0), .val (.int i1), .val (.int i2), .val (.int (if (((i2.toUInt32 >>> ((6 : Int32) &&& 31).toUInt32).toInt32) &&& (1 : Int32)) = (0 : Int32) then i1 else i0)), .unset, .unset, .unset, .unset, .unset, .unset, .unset, .unset, .unset, .unset, .unset, .unset, .unset, .unset, .unset] [])
  obtain ⟨bb, hbb⟩ : ∃ z : Int32, z = (if (((i2.toUInt32 >>> ((6 : Int32) &&& 31).toUInt32).toInt32) &&& (1 : Int32)) = (0 : Int32) then i1 else i0) := ⟨_, rfl⟩
  refine Goes.cast (show (mkF m 15 #[.val (.int i0), .val (.int i1), .val (.int i2), .val (.int (if (((i2.toUInt32 >>> ((6 : Int32) &&& 31).toUInt32).toInt32) &&& (1 : Int32)) = (0 : Int32) then i1 else i0)), .unset, .unset, .unset, .unset, .unset, .unset, .unset, .unset, .unset, .unset, .unset, .unset, .unset, .unset, .unset] []) = (mkF m 15 #[.val (.int i0), .val (.int i1), .val (.int i2), .val (.int bb), .unset, .unset, .unset, .unset, .unset, .unset, .unset, .unset, .unset, .unset, .unset, .unset, .unset, .unset, .unset] []) from by rw [hbb]) ?_
  show Goes _ _ _ _ T0 (mkF m 15 #[.val (.int i0), .val (.int i1), .val (.int i2), .val (.int bb), .unset, .unset, .unset, .unset, .unset, .unset, .unset, .unset, .unset, .unset, .unset, .unset, .unset, .unset, .unset] [])
  refine Goes.go (fun _ k => XS.iloadN X0.here X0.ex rfl (hb hby at_15) rfl (XS.bipush X0.here X0.ex rfl (hb hby at_16) (XS.iushr X0.here X0.ex rfl (hb hby at_18) rfl (XS.sipush X0.here X0.ex rfl (hb hby at_19) (XS.iand X0.here X0.ex rfl (hb hby at_22) rfl (XS.iconst X0.here X0.ex rfl (hb hby at_23) k)))))) ?_
  show Goes _ _ _ _ T0 (mkF m 24 #[.val (.int i0), .val (.int i1), .val (.int i2), .val (.int bb), .unset, .unset, .unset, .unset, .unset, .unset, .unset, .unset, .unset, .unset, .unset, .unset, .unset, .unset, .unset] [(.int (3 : Int32)), (.int (((i0.toUInt32 >>> ((16 : Int32) &&& 31).toUInt32).toInt32) &&& (32767 : Int32)))])
  refine Goes.go (fun _ k => XS.irem X0.here X0.ex rfl (hb hby at_24) rfl (by decide) (XS.istore X0.here X0.ex rfl (hb hby at_25) rfl (l' := #[.val (.int i0), .val (.int i1), .val (.int i2), .val (.int bb), .val (.int ((((i0.toUInt32 >>> ((16 : Int32) &&& 31).toUInt32).toInt32) &&& (32767 : Int32)) - ((((i0.toUInt32 >>> ((16 : Int32) &&& 31).toUInt32).toInt32) &&& (32767 : Int32)) / (3 : Int32)) * (3 : Int32))), .unset, .unset, .unset, .unset, .unset, .unset, .unset, .unset, .unset, .unset, .unset, .unset, .unset, .unset]) rfl (XS.iloadN X0.here X0.ex rfl (hb hby at_27) rfl (XS.sipush X0.here X0.ex rfl (hb hby at_28) (XS.iand X0.here X0.ex rfl (hb hby at_31) rfl (XS.i2c X0.here X0.ex rfl (hb hby at_32) rfl k)))))) ?_
  show Goes _ _ _ _ T0 (mkF m 33 #[.val (.int i0), .val (.int i1), .val (.int i2), .val (.int bb), .val (.int ((((i0.toUInt32 >>> ((16 : Int32) &&& 31).toUInt32).toInt32) &&& (32767 : Int32)) - ((((i0.toUInt32 >>> ((16 : Int32) &&& 31).toUInt32).toInt32) &&& (32767 : Int32)) / (3 : Int32)) * (3 : Int32))), .unset, .unset, .unset, .unset, .unset, .unset, .unset, .unset, .unset, .unset, .unset, .unset, .unset, .unset] [(.int ((i0 &&& (255 : Int32)).toUInt32.toUInt16.toUInt32.toInt32))])
  refine Goes.cast (congrArg (fun zq_ => (mkF m 33 #[.val (.int i0), .val (.int i1), .val (.int i2), .val (.int bb), .val (.int ((((i0.toUInt32 >>> ((16 : Int32) &&& 31).toUInt32).toInt32) &&& (32767 : Int32)) - ((((i0.toUInt32 >>> ((16 : Int32) &&& 31).toUInt32).toInt32) &&& (32767 : Int32)) / (3 : Int32)) * (3 : Int32))), .unset, .unset, .unset, .unset, .unset, .unset, .unset, .unset, .unset, .unset, .unset, .unset, .unset, .unset] [(.int zq_)])) (i2c_mask i0)) ?_
  show Goes _ _ _ _ T0 (mkF m 33 #[.val (.int i0), .val (.int i1), .val (.int i2), .val (.int bb), .val (.int ((((i0.toUInt32 >>> ((16 : Int32) &&& 31).toUInt32).toInt32) &&& (32767 : Int32)) - ((((i0.toUInt32 >>> ((16 : Int32) &&& 31).toUInt32).toInt32) &&& (32767 : Int32)) / (3 : Int32)) * (3 : Int32))), .unset, .unset, .unset, .unset, .unset, .unset, .unset, .unset, .unset, .unset, .unset, .unset, .unset, .unset] [(.int (i0 &&& (255 : Int32)))])
  refine Goes.go (fun _ k => XS.istore X0.here X0.ex rfl (hb hby at_33) rfl (l' := #[.val (.int i0), .val (.int i1), .val (.int i2), .val (.int bb), .val (.int ((((i0.toUInt32 >>> ((16 : Int32) &&& 31).toUInt32).toInt32) &&& (32767 : Int32)) - ((((i0.toUInt32 >>> ((16 : Int32) &&& 31).toUInt32).toInt32) &&& (32767 : Int32)) / (3 : Int32)) * (3 : Int32))), .val (.int (i0 &&& (255 : Int32))), .unset, .unset, .unset, .unset, .unset, .unset, .unset, .unset, .unset, .unset, .unset, .unset, .unset]) rfl (XS.iloadN X0.here X0.ex rfl (hb hby at_35) rfl (XS.bipush X0.here X0.ex rfl (hb hby at_36) (XS.iushr X0.here X0.ex rfl (hb hby at_38) rfl (XS.sipush X0.here X0.ex rfl (hb hby at_39) (XS.iand X0.here X0.ex rfl (hb hby at_42) rfl k)))))) ?_
  show Goes _ _ _ _ T0 (mkF m 43 #[.val (.int i0), .val (.int i1), .val (.int i2), .val (.int bb), .val (.int ((((i0.toUInt32 >>> ((16 : Int32) &&& 31).toUInt32).toInt32) &&& (32767 : Int32)) - ((((i0.toUInt32 >>> ((16 : Int32) &&& 31).toUInt32).toInt32) &&& (32767 : Int32)) / (3 : Int32)) * (3 : Int32))), .val (.int (i0 &&& (255 : Int32))), .unset, .unset, .unset, .unset, .unset, .unset, .unset, .unset, .unset, .unset, .unset, .unset, .unset] [(.int (((i0.toUInt32 >>> ((8 : Int32) &&& 31).toUInt32).toInt32) &&& (255 : Int32)))])
  refine Goes.go (fun _ k => XS.i2c X0.here X0.ex rfl (hb hby at_43) rfl k) ?_
  show Goes _ _ _ _ T0 (mkF m 44 #[.val (.int i0), .val (.int i1), .val (.int i2), .val (.int bb), .val (.int ((((i0.toUInt32 >>> ((16 : Int32) &&& 31).toUInt32).toInt32) &&& (32767 : Int32)) - ((((i0.toUInt32 >>> ((16 : Int32) &&& 31).toUInt32).toInt32) &&& (32767 : Int32)) / (3 : Int32)) * (3 : Int32))), .val (.int (i0 &&& (255 : Int32))), .unset, .unset, .unset, .unset, .unset, .unset, .unset, .unset, .unset, .unset, .unset, .unset, .unset] [(.int ((((i0.toUInt32 >>> ((8 : Int32) &&& 31).toUInt32).toInt32) &&& (255 : Int32)).toUInt32.toUInt16.toUInt32.toInt32))])
  refine Goes.cast (congrArg (fun zq_ => (mkF m 44 #[.val (.int i0), .val (.int i1), .val (.int i2), .val (.int bb), .val (.int ((((i0.toUInt32 >>> ((16 : Int32) &&& 31).toUInt32).toInt32) &&& (32767 : Int32)) - ((((i0.toUInt32 >>> ((16 : Int32) &&& 31).toUInt32).toInt32) &&& (32767 : Int32)) / (3 : Int32)) * (3 : Int32))), .val (.int (i0 &&& (255 : Int32))), .unset, .unset, .unset, .unset, .unset, .unset, .unset, .unset, .unset, .unset, .unset, .unset, .unset] [(.int zq_)])) (i2c_mask ((i0.toUInt32 >>> ((8 : Int32) &&& 31).toUInt32).toInt32))) ?_
  show Goes _ _ _ _ T0 (mkF m 44 #[.val (.int i0), .val (.int i1), .val (.int i2), .val (.int bb), .val (.int ((((i0.toUInt32 >>> ((16 : Int32) &&& 31).toUInt32).toInt32) &&& (32767 : Int32)) - ((((i0.toUInt32 >>> ((16 : Int32) &&& 31).toUInt32).toInt32) &&& (32767 : Int32)) / (3 : Int32)) * (3 : Int32))), .val (.int (i0 &&& (255 : Int32))), .unset, .unset, .unset, .unset, .unset, .unset, .unset, .unset, .unset, .unset, .unset, .unset, .unset] [(.int (((i0.toUInt32 >>> ((8 : Int32) &&& 31).toUInt32).toInt32) &&& (255 : Int32)))])
  refine Goes.go (fun _ k => XS.istore X0.here X0.ex rfl (hb hby at_44) rfl (l' := #[.val (.int i0), .val (.int i1), .val (.int i2), .val (.int bb), .val (.int ((((i0.toUInt32 >>> ((16 : Int32) &&& 31).toUInt32).toInt32) &&& (32767 : Int32)) - ((((i0.toUInt32 >>> ((16 : Int32) &&& 31).toUInt32).toInt32) &&& (32767 : Int32)) / (3 : Int32)) * (3 : Int32))), .val (.int (i0 &&& (255 : Int32))), .val (.int (((i0.toUInt32 >>> ((8 : Int32) &&& 31).toUInt32).toInt32) &&& (255 : Int32))), .unset, .unset, .unset, .unset, .unset, .unset, .unset, .unset, .unset, .unset, .unset, .unset]) rfl (XS.iloadN X0.here X0.ex rfl (hb hby at_46) rfl (XS.bipush X0.here X0.ex rfl (hb hby at_47) (XS.iushr X0.here X0.ex rfl (hb hby at_49) rfl (XS.sipush X0.here X0.ex rfl (hb hby at_50) (XS.iand X0.here X0.ex rfl (hb hby at_53) rfl k)))))) ?_
  show Goes _ _ _ _ T0 (mkF m 54 #[.val (.int i0), .val (.int i1), .val (.int i2), .val (.int bb), .val (.int ((((i0.toUInt32 >>> ((16 : Int32) &&& 31).toUInt32).toInt32) &&& (32767 : Int32)) - ((((i0.toUInt32 >>> ((16 : Int32) &&& 31).toUInt32).toInt32) &&& (32767 : Int32)) / (3 : Int32)) * (3 : Int32))), .val (.int (i0 &&& (255 : Int32))), .val (.int (((i0.toUInt32 >>> ((8 : Int32) &&& 31).toUInt32).toInt32) &&& (255 : Int32))), .unset, .unset, .unset, .unset, .unset, .unset, .unset, .unset, .unset, .unset, .unset, .unset] [(.int (((bb.toUInt32 >>> ((16 : Int32) &&& 31).toUInt32).toInt32) &&& (32767 : Int32)))])
  refine Goes.go (fun _ k => XS.iconst X0.here X0.ex rfl (hb hby at_54) (XS.irem X0.here X0.ex rfl (hb hby at_55) rfl (by decide) (XS.istore X0.here X0.ex rfl (hb hby at_56) rfl (l' := #[.val (.int i0), .val (.int i1), .val (.int i2), .val (.int bb), .val (.int ((((i0.toUInt32 >>> ((16 : Int32) &&& 31).toUInt32).toInt32) &&& (32767 : Int32)) - ((((i0.toUInt32 >>> ((16 : Int32) &&& 31).toUInt32).toInt32) &&& (32767 : Int32)) / (3 : Int32)) * (3 : Int32))), .val (.int (i0 &&& (255 : Int32))), .val (.int (((i0.toUInt32 >>> ((8 : Int32) &&& 31).toUInt32).toInt32) &&& (255 : Int32))), .val (.int ((((bb.toUInt32 >>> ((16 : Int32) &&& 31).toUInt32).toInt32) &&& (32767 : Int32)) - ((((bb.toUInt32 >>> ((16 : Int32) &&& 31).toUInt32).toInt32) &&& (32767 : Int32)) / (3 : Int32)) * (3 : Int32))), .unset, .unset, .unset, .unset, .unset, .unset, .unset, .unset, .unset, .unset, .unset]) rfl (XS.iloadN X0.here X0.ex rfl (hb hby at_58) rfl (XS.sipush X0.here X0.ex rfl (hb hby at_59) (XS.iand X0.here X0.ex rfl (hb hby at_62) rfl k)))))) ?_
  show Goes _ _ _ _ T0 (mkF m 63 #[.val (.int i0), .val (.int i1), .val (.int i2), .val (.int bb), .val (.int ((((i0.toUInt32 >>> ((16 : Int32) &&& 31).toUInt32).toInt32) &&& (32767 : Int32)) - ((((i0.toUInt32 >>> ((16 : Int32) &&& 31).toUInt32).toInt32) &&& (32767 : Int32)) / (3 : Int32)) * (3 : Int32))), .val (.int (i0 &&& (255 : Int32))), .val (.int (((i0.toUInt32 >>> ((8 : Int32) &&& 31).toUInt32).toInt32) &&& (255 : Int32))), .val (.int ((((bb.toUInt32 >>> ((16 : Int32) &&& 31).toUInt32).toInt32) &&& (32767 : Int32)) - ((((bb.toUInt32 >>> ((16 : Int32) &&& 31).toUInt32).toInt32) &&& (32767 : Int32)) / (3 : Int32)) * (3 : Int32))), .unset, .unset, .unset, .unset, .unset, .unset, .unset, .unset, .unset, .unset, .unset] [(.int (bb &&& (255 : Int32)))])
  refine Goes.go (fun _ k => XS.i2c X0.here X0.ex rfl (hb hby at_63) rfl k) ?_
  show Goes _ _ _ _ T0 (mkF m 64 #[.val (.int i0), .val (.int i1), .val (.int i2), .val (.int bb), .val (.int ((((i0.toUInt32 >>> ((16 : Int32) &&& 31).toUInt32).toInt32) &&& (32767 : Int32)) - ((((i0.toUInt32 >>> ((16 : Int32) &&& 31).toUInt32).toInt32) &&& (32767 : Int32)) / (3 : Int32)) * (3 : Int32))), .val (.int (i0 &&& (255 : Int32))), .val (.int (((i0.toUInt32 >>> ((8 : Int32) &&& 31).toUInt32).toInt32) &&& (255 : Int32))), .val (.int ((((bb.toUInt32 >>> ((16 : Int32) &&& 31).toUInt32).toInt32) &&& (32767 : Int32)) - ((((bb.toUInt32 >>> ((16 : Int32) &&& 31).toUInt32).toInt32) &&& (32767 : Int32)) / (3 : Int32)) * (3 : Int32))), .unset, .unset, .unset, .unset, .unset, .unset, .unset, .unset, .unset, .unset, .unset] [(.int ((bb &&& (255 : Int32)).toUInt32.toUInt16.toUInt32.toInt32))])
  refine Goes.cast (congrArg (fun zq_ => (mkF m 64 #[.val (.int i0), .val (.int i1), .val (.int i2), .val (.int bb), .val (.int ((((i0.toUInt32 >>> ((16 : Int32) &&& 31).toUInt32).toInt32) &&& (32767 : Int32)) - ((((i0.toUInt32 >>> ((16 : Int32) &&& 31).toUInt32).toInt32) &&& (32767 : Int32)) / (3 : Int32)) * (3 : Int32))), .val (.int (i0 &&& (255 : Int32))), .val (.int (((i0.toUInt32 >>> ((8 : Int32) &&& 31).toUInt32).toInt32) &&& (255 : Int32))), .val (.int ((((bb.toUInt32 >>> ((16 : Int32) &&& 31).toUInt32).toInt32) &&& (32767 : Int32)) - ((((bb.toUInt32 >>> ((16 : Int32) &&& 31).toUInt32).toInt32) &&& (32767 : Int32)) / (3 : Int32)) * (3 : Int32))), .unset, .unset, .unset, .unset, .unset, .unset, .unset, .unset, .unset, .unset, .unset] [(.int zq_)])) (i2c_mask bb)) ?_
  show Goes _ _ _ _ T0 (mkF m 64 #[.val (.int i0), .val (.int i1), .val (.int i2), .val (.int bb), .val (.int ((((i0.toUInt32 >>> ((16 : Int32) &&& 31).toUInt32).toInt32) &&& (32767 : Int32)) - ((((i0.toUInt32 >>> ((16 : Int32) &&& 31).toUInt32).toInt32) &&& (32767 : Int32)) / (3 : Int32)) * (3 : Int32))), .val (.int (i0 &&& (255 : Int32))), .val (.int (((i0.toUInt32 >>> ((8 : Int32) &&& 31).toUInt32).toInt32) &&& (255 : Int32))), .val (.int ((((bb.toUInt32 >>> ((16 : Int32) &&& 31).toUInt32).toInt32) &&& (32767 : Int32)) - ((((bb.toUInt32 >>> ((16 : Int32) &&& 31).toUInt32).toInt32) &&& (32767 : Int32)) / (3 : Int32)) * (3 : Int32))), .unset, .unset, .unset, .unset, .unset, .unset, .unset, .unset, .unset, .unset, .unset] [(.int (bb &&& (255 : Int32)))])
  refine Goes.go (fun _ k => XS.istore X0.here X0.ex rfl (hb hby at_64) rfl (l' := #[.val (.int i0), .val (.int i1), .val (.int i2), .val (.int bb), .val (.int ((((i0.toUInt32 >>> ((16 : Int32) &&& 31).toUInt32).toInt32) &&& (32767 : Int32)) - ((((i0.toUInt32 >>> ((16 : Int32) &&& 31).toUInt32).toInt32) &&& (32767 : Int32)) / (3 : Int32)) * (3 : Int32))), .val (.int (i0 &&& (255 : Int32))), .val (.int (((i0.toUInt32 >>> ((8 : Int32) &&& 31).toUInt32).toInt32) &&& (255 : Int32))), .val (.int ((((bb.toUInt32 >>> ((16 : Int32) &&& 31).toUInt32).toInt32) &&& (32767 : Int32)) - ((((bb.toUInt32 >>> ((16 : Int32) &&& 31).toUInt32).toInt32) &&& (32767 : Int32)) / (3 : Int32)) * (3 : Int32))), .val (.int (bb &&& (255 : Int32))), .unset, .unset, .unset, .unset, .unset, .unset, .unset, .unset, .unset, .unset]) rfl (XS.iloadN X0.here X0.ex rfl (hb hby at_66) rfl (XS.bipush X0.here X0.ex rfl (hb hby at_67) (XS.iushr X0.here X0.ex rfl (hb hby at_69) rfl (XS.sipush X0.here X0.ex rfl (hb hby at_70) (XS.iand X0.here X0.ex rfl (hb hby at_73) rfl k)))))) ?_
  show Goes _ _ _ _ T0 (mkF m 74 #[.val (.int i0), .val (.int i1), .val (.int i2), .val (.int bb), .val (.int ((((i0.toUInt32 >>> ((16 : Int32) &&& 31).toUInt32).toInt32) &&& (32767 : Int32)) - ((((i0.toUInt32 >>> ((16 : Int32) &&& 31).toUInt32).toInt32) &&& (32767 : Int32)) / (3 : Int32)) * (3 : Int32))), .val (.int (i0 &&& (255 : Int32))), .val (.int (((i0.toUInt32 >>> ((8 : Int32) &&& 31).toUInt32).toInt32) &&& (255 : Int32))), .val (.int ((((bb.toUInt32 >>> ((16 : Int32) &&& 31).toUInt32).toInt32) &&& (32767 : Int32)) - ((((bb.toUInt32 >>> ((16 : Int32) &&& 31).toUInt32).toInt32) &&& (32767 : Int32)) / (3 : Int32)) * (3 : Int32))), .val (.int (bb &&& (255 : Int32))), .unset, .unset, .unset, .unset, .unset, .unset, .unset, .unset, .unset, .unset] [(.int (((bb.toUInt32 >>> ((8 : Int32) &&& 31).toUInt32).toInt32) &&& (255 : Int32)))])
  refine Goes.go (fun _ k => XS.i2c X0.here X0.ex rfl (hb hby at_74) rfl k) ?_
  show Goes _ _ _ _ T0 (mkF m 75 #[.val (.int i0), .val (.int i1), .val (.int i2), .val (.int bb), .val (.int ((((i0.toUInt32 >>> ((16 : Int32) &&& 31).toUInt32).toInt32) &&& (32767 : Int32)) - ((((i0.toUInt32 >>> ((16 : Int32) &&& 31).toUInt32).toInt32) &&& (32767 : Int32)) / (3 : Int32)) * (3 : Int32))), .val (.int (i0 &&& (255 : Int32))), .val (.int (((i0.toUInt32 >>> ((8 : Int32) &&& 31).toUInt32).toInt32) &&& (255 : Int32))), .val (.int ((((bb.toUInt32 >>> ((16 : Int32) &&& 31).toUInt32).toInt32) &&& (32767 : Int32)) - ((((bb.toUInt32 >>> ((16 : Int32) &&& 31).toUInt32).toInt32) &&& (32767 : Int32)) / (3 : Int32)) * (3 : Int32))), .val (.int (bb &&& (255 : Int32))), .unset, .unset, .unset, .unset, .unset, .unset, .unset, .unset, .unset, .unset] [(.int ((((bb.toUInt32 >>> ((8 : Int32) &&& 31).toUInt32).toInt32) &&& (255 : Int32)).toUInt32.toUInt16.toUInt32.toInt32))])
  refine Goes.cast (congrArg (fun zq_ => (mkF m 75 #[.val (.int i0), .val (.int i1), .val (.int i2), .val (.int bb), .val (.int ((((i0.toUInt32 >>> ((16 : Int32) &&& 31).toUInt32).toInt32) &&& (32767 : Int32)) - ((((i0.toUInt32 >>> ((16 : Int32) &&& 31).toUInt32).toInt32) &&& (32767 : Int32)) / (3 : Int32)) * (3 : Int32))), .val (.int (i0 &&& (255 : Int32))), .val (.int (((i0.toUInt32 >>> ((8 : Int32) &&& 31).toUInt32).toInt32) &&& (255 : Int32))), .val (.int ((((bb.toUInt32 >>> ((16 : Int32) &&& 31).toUInt32).toInt32) &&& (32767 : Int32)) - ((((bb.toUInt32 >>> ((16 : Int32) &&& 31).toUInt32).toInt32) &&& (32767 : Int32)) / (3 : Int32)) * (3 : Int32))), .val (.int (bb &&& (255 : Int32))), .unset, .unset, .unset, .unset, .unset, .unset, .unset, .unset, .unset, .unset] [(.int zq_)])) (i2c_mask ((bb.toUInt32 >>> ((8 : Int32) &&& 31).toUInt32).toInt32))) ?_
  show Goes _ _ _ _ T0 (mkF m 75 #[.val (.int i0), .val (.int i1), .val (.int i2), .val (.int bb), .val (.int ((((i0.toUInt32 >>> ((16 : Int32) &&& 31).toUInt32).toInt32) &&& (32767 : Int32)) - ((((i0.toUInt32 >>> ((16 : Int32) &&& 31).toUInt32).toInt32) &&& (32767 : Int32)) / (3 : Int32)) * (3 : Int32))), .val (.int (i0 &&& (255 : Int32))), .val (.int (((i0.toUInt32 >>> ((8 : Int32) &&& 31).toUInt32).toInt32) &&& (255 : Int32))), .val (.int ((((bb.toUInt32 >>> ((16 : Int32) &&& 31).toUInt32).toInt32) &&& (32767 : Int32)) - ((((bb.toUInt32 >>> ((16 : Int32) &&& 31).toUInt32).toInt32) &&& (32767 : Int32)) / (3 : Int32)) * (3 : Int32))), .val (.int (bb &&& (255 : Int32))), .unset, .unset, .unset, .unset, .unset, .unset, .unset, .unset, .unset, .unset] [(.int (((bb.toUInt32 >>> ((8 : Int32) &&& 31).toUInt32).toInt32) &&& (255 : Int32)))])
  refine Goes.go (fun _ k => XS.istore X0.here X0.ex rfl (hb hby at_75) rfl (l' := #[.val (.int i0), .val (.int i1), .val (.int i2), .val (.int bb), .val (.int ((((i0.toUInt32 >>> ((16 : Int32) &&& 31).toUInt32).toInt32) &&& (32767 : Int32)) - ((((i0.toUInt32 >>> ((16 : Int32) &&& 31).toUInt32).toInt32) &&& (32767 : Int32)) / (3 : Int32)) * (3 : Int32))), .val (.int (i0 &&& (255 : Int32))), .val (.int (((i0.toUInt32 >>> ((8 : Int32) &&& 31).toUInt32).toInt32) &&& (255 : Int32))), .val (.int ((((bb.toUInt32 >>> ((16 : Int32) &&& 31).toUInt32).toInt32) &&& (32767 : Int32)) - ((((bb.toUInt32 >>> ((16 : Int32) &&& 31).toUInt32).toInt32) &&& (32767 : Int32)) / (3 : Int32)) * (3 : Int32))), .val (.int (bb &&& (255 : Int32))), .val (.int (((bb.toUInt32 >>> ((8 : Int32) &&& 31).toUInt32).toInt32) &&& (255 : Int32))), .unset, .unset, .unset, .unset, .unset, .unset, .unset, .unset, .unset]) rfl (XS.iloadN X0.here X0.ex rfl (hb hby at_77) rfl (XS.iconst X0.here X0.ex rfl (hb hby at_78) (XS.iand X0.here X0.ex rfl (hb hby at_79) rfl (XS.istore X0.here X0.ex rfl (hb hby at_80) rfl (l' := #[.val (.int i0), .val (.int i1), .val (.int i2), .val (.int bb), .val (.int ((((i0.toUInt32 >>> ((16 : Int32) &&& 31).toUInt32).toInt32) &&& (32767 : Int32)) - ((((i0.toUInt32 >>> ((16 : Int32) &&& 31).toUInt32).toInt32) &&& (32767 : Int32)) / (3 : Int32)) * (3 : Int32))), .val (.int (i0 &&& (255 : Int32))), .val (.int (((i0.toUInt32 >>> ((8 : Int32) &&& 31).toUInt32).toInt32) &&& (255 : Int32))), .val (.int ((((bb.toUInt32 >>> ((16 : Int32) &&& 31).toUInt32).toInt32) &&& (32767 : Int32)) - ((((bb.toUInt32 >>> ((16 : Int32) &&& 31).toUInt32).toInt32) &&& (32767 : Int32)) / (3 : Int32)) * (3 : Int32))), .val (.int (bb &&& (255 : Int32))), .val (.int (((bb.toUInt32 >>> ((8 : Int32) &&& 31).toUInt32).toInt32) &&& (255 : Int32))), .val (.int (i2 &&& (3 : Int32))), .unset, .unset, .unset, .unset, .unset, .unset, .unset, .unset]) rfl (XS.iloadN X0.here X0.ex rfl (hb hby at_82) rfl k)))))) ?_
  show Goes _ _ _ _ T0 (mkF m 83 #[.val (.int i0), .val (.int i1), .val (.int i2), .val (.int bb), .val (.int ((((i0.toUInt32 >>> ((16 : Int32) &&& 31).toUInt32).toInt32) &&& (32767 : Int32)) - ((((i0.toUInt32 >>> ((16 : Int32) &&& 31).toUInt32).toInt32) &&& (32767 : Int32)) / (3 : Int32)) * (3 : Int32))), .val (.int (i0 &&& (255 : Int32))), .val (.int (((i0.toUInt32 >>> ((8 : Int32) &&& 31).toUInt32).toInt32) &&& (255 : Int32))), .val (.int ((((bb.toUInt32 >>> ((16 : Int32) &&& 31).toUInt32).toInt32) &&& (32767 : Int32)) - ((((bb.toUInt32 >>> ((16 : Int32) &&& 31).toUInt32).toInt32) &&& (32767 : Int32)) / (3 : Int32)) * (3 : Int32))), .val (.int (bb &&& (255 : Int32))), .val (.int (((bb.toUInt32 >>> ((8 : Int32) &&& 31).toUInt32).toInt32) &&& (255 : Int32))), .val (.int (i2 &&& (3 : Int32))), .unset, .unset, .unset, .unset, .unset, .unset, .unset, .unset] [(.int i2)])
  refine Goes.go (fun _ k => XS.iconst X0.here X0.ex rfl (hb hby at_83) (XS.iushr X0.here X0.ex rfl (hb hby at_84) rfl (XS.iconst X0.here X0.ex rfl (hb hby at_85) (XS.iand X0.here X0.ex rfl (hb hby at_86) rfl (XS.istore X0.here X0.ex rfl (hb hby at_87) rfl (l' := #[.val (.int i0), .val (.int i1), .val (.int i2), .val (.int bb), .val (.int ((((i0.toUInt32 >>> ((16 : Int32) &&& 31).toUInt32).toInt32) &&& (32767 : Int32)) - ((((i0.toUInt32 >>> ((16 : Int32) &&& 31).toUInt32).toInt32) &&& (32767 : Int32)) / (3 : Int32)) * (3 : Int32))), .val (.int (i0 &&& (255 : Int32))), .val (.int (((i0.toUInt32 >>> ((8 : Int32) &&& 31).toUInt32).toInt32) &&& (255 : Int32))), .val (.int ((((bb.toUInt32 >>> ((16 : Int32) &&& 31).toUInt32).toInt32) &&& (32767 : Int32)) - ((((bb.toUInt32 >>> ((16 : Int32) &&& 31).toUInt32).toInt32) &&& (32767 : Int32)) / (3 : Int32)) * (3 : Int32))), .val (.int (bb &&& (255 : Int32))), .val (.int (((bb.toUInt32 >>> ((8 : Int32) &&& 31).toUInt32).toInt32) &&& (255 : Int32))), .val (.int (i2 &&& (3 : Int32))), .val (.int (((i2.toUInt32 >>> ((2 : Int32) &&& 31).toUInt32).toInt32) &&& (3 : Int32))), .unset, .unset, .unset, .unset, .unset, .unset, .unset]) rfl (XS.iloadN X0.here X0.ex rfl (hb hby at_89) rfl k)))))) ?_
  show Goes _ _ _ _ T0 (mkF m 90 #[.val (.int i0), .val (.int i1), .val (.int i2), .val (.int bb), .val (.int ((((i0.toUInt32 >>> ((16 : Int32) &&& 31).toUInt32).toInt32) &&& (32767 : Int32)) - ((((i0.toUInt32 >>> ((16 : Int32) &&& 31).toUInt32).toInt32) &&& (32767 : Int32)) / (3 : Int32)) * (3 : Int32))), .val (.int (i0 &&& (255 : Int32))), .val (.int (((i0.toUInt32 >>> ((8 : Int32) &&& 31).toUInt32).toInt32) &&& (255 : Int32))), .val (.int ((((bb.toUInt32 >>> ((16 : Int32) &&& 31).toUInt32).toInt32) &&& (32767 : Int32)) - ((((bb.toUInt32 >>> ((16 : Int32) &&& 31).toUInt32).toInt32) &&& (32767 : Int32)) / (3 : Int32)) * (3 : Int32))), .val (.int (bb &&& (255 : Int32))), .val (.int (((bb.toUInt32 >>> ((8 : Int32) &&& 31).toUInt32).toInt32) &&& (255 : Int32))), .val (.int (i2 &&& (3 : Int32))), .val (.int (((i2.toUInt32 >>> ((2 : Int32) &&& 31).toUInt32).toInt32) &&& (3 : Int32))), .unset, .unset, .unset, .unset, .unset, .unset, .unset] [(.int i2)])
  refine Goes.go (fun _ k => XS.iconst X0.here X0.ex rfl (hb hby at_90) (XS.iushr X0.here X0.ex rfl (hb hby at_91) rfl (XS.iconst X0.here X0.ex rfl (hb hby at_92) (XS.iand X0.here X0.ex rfl (hb hby at_93) rfl (XS.istore X0.here X0.ex rfl (hb hby at_94) rfl (l' := #[.val (.int i0), .val (.int i1), .val (.int i2), .val (.int bb), .val (.int ((((i0.toUInt32 >>> ((16 : Int32) &&& 31).toUInt32).toInt32) &&& (32767 : Int32)) - ((((i0.toUInt32 >>> ((16 : Int32) &&& 31).toUInt32).toInt32) &&& (32767 : Int32)) / (3 : Int32)) * (3 : Int32))), .val (.int (i0 &&& (255 : Int32))), .val (.int (((i0.toUInt32 >>> ((8 : Int32) &&& 31).toUInt32).toInt32) &&& (255 : Int32))), .val (.int ((((bb.toUInt32 >>> ((16 : Int32) &&& 31).toUInt32).toInt32) &&& (32767 : Int32)) - ((((bb.toUInt32 >>> ((16 : Int32) &&& 31).toUInt32).toInt32) &&& (32767 : Int32)) / (3 : Int32)) * (3 : Int32))), .val (.int (bb &&& (255 : Int32))), .val (.int (((bb.toUInt32 >>> ((8 : Int32) &&& 31).toUInt32).toInt32) &&& (255 : Int32))), .val (.int (i2 &&& (3 : Int32))), .val (.int (((i2.toUInt32 >>> ((2 : Int32) &&& 31).toUInt32).toInt32) &&& (3 : Int32))), .val (.int (((i2.toUInt32 >>> ((4 : Int32) &&& 31).toUInt32).toInt32) &&& (3 : Int32))), .unset, .unset, .unset, .unset, .unset, .unset]) rfl k))))) ?_
  show Goes _ _ _ _ T0 (mkF m 96 #[.val (.int i0), .val (.int i1), .val (.int i2), .val (.int bb), .val (.int ((((i0.toUInt32 >>> ((16 : Int32) &&& 31).toUInt32).toInt32) &&& (32767 : Int32)) - ((((i0.toUInt32 >>> ((16 : Int32) &&& 31).toUInt32).toInt32) &&& (32767 : Int32)) / (3 : Int32)) * (3 : Int32))), .val (.int (i0 &&& (255 : Int32))), .val (.int (((i0.toUInt32 >>> ((8 : Int32) &&& 31).toUInt32).toInt32) &&& (255 : Int32))), .val (.int ((((bb.toUInt32 >>> ((16 : Int32) &&& 31).toUInt32).toInt32) &&& (32767 : Int32)) - ((((bb.toUInt32 >>> ((16 : Int32) &&& 31).toUInt32).toInt32) &&& (32767 : Int32)) / (3 : Int32)) * (3 : Int32))), .val (.int (bb &&& (255 : Int32))), .val (.int (((bb.toUInt32 >>> ((8 : Int32) &&& 31).toUInt32).toInt32) &&& (255 : Int32))), .val (.int (i2 &&& (3 : Int32))), .val (.int (((i2.toUInt32 >>> ((2 : Int32) &&& 31).toUInt32).toInt32) &&& (3 : Int32))), .val (.int (((i2.toUInt32 >>> ((4 : Int32) &&& 31).toUInt32).toInt32) &&& (3 : Int32))), .unset, .unset, .unset, .unset, .unset, .unset] [])
  obtain ⟨l1, hl1⟩ : ∃ z : Int32, z = ((((i0.toUInt32 >>> ((16 : Int32) &&& 31).toUInt32).toInt32) &&& (32767 : Int32)) - ((((i0.toUInt32 >>> ((16 : Int32) &&& 31).toUInt32).toInt32) &&& (32767 : Int32)) / (3 : Int32)) * (3 : Int32)) := ⟨_, rfl⟩
  refine Goes.cast (show (mkF m 96 #[.val (.int i0), .val (.int i1), .val (.int i2), .val (.int bb), .val (.int ((((i0.toUInt32 >>> ((16 : Int32) &&& 31).toUInt32).toInt32) &&& (32767 : Int32)) - ((((i0.toUInt32 >>> ((16 : Int32) &&& 31).toUInt32).toInt32) &&& (32767 : Int32)) / (3 : Int32)) * (3 : Int32))), .val (.int (i0 &&& (255 : Int32))), .val (.int (((i0.toUInt32 >>> ((8 : Int32) &&& 31).toUInt32).toInt32) &&& (255 : Int32))), .val (.int ((((bb.toUInt32 >>> ((16 : Int32) &&& 31).toUInt32).toInt32) &&& (32767 : Int32)) - ((((bb.toUInt32 >>> ((16 : Int32) &&& 31).toUInt32).toInt32) &&& (32767 : Int32)) / (3 : Int32)) * (3 : Int32))), .val (.int (bb &&& (255 : Int32))), .val (.int (((bb.toUInt32 >>> ((8 : Int32) &&& 31).toUInt32).toInt32) &&& (255 : Int32))), .val (.int (i2 &&& (3 : Int32))), .val (.int (((i2.toUInt32 >>> ((2 : Int32) &&& 31).toUInt32).toInt32) &&& (3 : Int32))), .val (.int (((i2.toUInt32 >>> ((4 : Int32) &&& 31).toUInt32).toInt32) &&& (3 : Int32))), .unset, .unset, .unset, .unset, .unset, .unset] []) = (mkF m 96 #[.val (.int i0), .val (.int i1), .val (.int i2), .val (.int bb), .val (.int l1), .val (.int (i0 &&& (255 : Int32))), .val (.int (((i0.toUInt32 >>> ((8 : Int32) &&& 31).toUInt32).toInt32) &&& (255 : Int32))), .val (.int ((((bb.toUInt32 >>> ((16 : Int32) &&& 31).toUInt32).toInt32) &&& (32767 : Int32)) - ((((bb.toUInt32 >>> ((16 : Int32) &&& 31).toUInt32).toInt32) &&& (32767 : Int32)) / (3 : Int32)) * (3 : Int32))), .val (.int (bb &&& (255 : Int32))), .val (.int (((bb.toUInt32 >>> ((8 : Int32) &&& 31).toUInt32).toInt32) &&& (255 : Int32))), .val (.int (i2 &&& (3 : Int32))), .val (.int (((i2.toUInt32 >>> ((2 : Int32) &&& 31).toUInt32).toInt32) &&& (3 : Int32))), .val (.int (((i2.toUInt32 >>> ((4 : Int32) &&& 31).toUInt32).toInt32) &&& (3 : Int32))), .unset, .unset, .unset, .unset, .unset, .unset] []) from by rw [hl1]) ?_
  show Goes _ _ _ _ T0 (mkF m 96 #[.val (.int i0), .val (.int i1), .val (.int i2), .val (.int bb), .val (.int l1), .val (.int (i0 &&& (255 : Int32))), .val (.int (((i0.toUInt32 >>> ((8 : Int32) &&& 31).toUInt32).toInt32) &&& (255 : Int32))), .val (.int ((((bb.toUInt32 >>> ((16 : Int32) &&& 31).toUInt32).toInt32) &&& (32767 : Int32)) - ((((bb.toUInt32 >>> ((16 : Int32) &&& 31).toUInt32).toInt32) &&& (32767 : Int32)) / (3 : Int32)) * (3 : Int32))), .val (.int (bb &&& (255 : Int32))), .val (.int (((bb.toUInt32 >>> ((8 : Int32) &&& 31).toUInt32).toInt32) &&& (255 : Int32))), .val (.int (i2 &&& (3 : Int32))), .val (.int (((i2.toUInt32 >>> ((2 : Int32) &&& 31).toUInt32).toInt32) &&& (3 : Int32))), .val (.int (((i2.toUInt32 >>> ((4 : Int32) &&& 31).toUInt32).toInt32) &&& (3 : Int32))), .unset, .unset, .unset, .unset, .unset, .unset] [])
  obtain ⟨c0, hc0⟩ : ∃ z : Int32, z = (i0 &&& (255 : Int32)) := ⟨_, rfl⟩
  refine Goes.cast (show (mkF m 96 #[.val (.int i0), .val (.int i1), .val (.int i2), .val (.int bb), .val (.int l1), .val (.int (i0 &&& (255 : Int32))), .val (.int (((i0.toUInt32 >>> ((8 : Int32) &&& 31).toUInt32).toInt32) &&& (255 : Int32))), .val (.int ((((bb.toUInt32 >>> ((16 : Int32) &&& 31).toUInt32).toInt32) &&& (32767 : Int32)) - ((((bb.toUInt32 >>> ((16 : Int32) &&& 31).toUInt32).toInt32) &&& (32767 : Int32)) / (3 : Int32)) * (3 : Int32))), .val (.int (bb &&& (255 : Int32))), .val (.int (((bb.toUInt32 >>> ((8 : Int32) &&& 31).toUInt32).toInt32) &&& (255 : Int32))), .val (.int (i2 &&& (3 : Int32))), .val (.int (((i2.toUInt32 >>> ((2 : Int32) &&& 31).toUInt32).toInt32) &&& (3 : Int32))), .val (.int (((i2.toUInt32 >>> ((4 : Int32) &&& 31).toUInt32).toInt32) &&& (3 : Int32))), .unset, .unset, .unset, .unset, .unset, .unset] []) = (mkF m 96 #[.val (.int i0), .val (.int i1), .val (.int i2), .val (.int bb), .val (.int l1), .val (.int c0), .val (.int (((i0.toUInt32 >>> ((8 : Int32) &&& 31).toUInt32).toInt32) &&& (255 : Int32))), .val (.int ((((bb.toUInt32 >>> ((16 : Int32) &&& 31).toUInt32).toInt32) &&& (32767 : Int32)) - ((((bb.toUInt32 >>> ((16 : Int32) &&& 31).toUInt32).toInt32) &&& (32767 : Int32)) / (3 : Int32)) * (3 : Int32))), .val (.int (bb &&& (255 : Int32))), .val (.int (((bb.toUInt32 >>> ((8 : Int32) &&& 31).toUInt32).toInt32) &&& (255 : Int32))), .val (.int (i2 &&& (3 : Int32))), .val (.int (((i2.toUInt32 >>> ((2 : Int32) &&& 31).toUInt32).toInt32) &&& (3 : Int32))), .val (.int (((i2.toUInt32 >>> ((4 : Int32) &&& 31).toUInt32).toInt32) &&& (3 : Int32))), .unset, .unset, .unset, .unset, .unset, .unset] []) from by rw [hc0]) ?_
  show Goes _ _ _ _ T0 (mkF m 96 #[.val (.int i0), .val (.int i1), .val (.int i2), .val (.int bb), .val (.int l1), .val (.int c0), .val (.int (((i0.toUInt32 >>> ((8 : Int32) &&& 31).toUInt32).toInt32) &&& (255 : Int32))), .val (.int ((((bb.toUInt32 >>> ((16 : Int32) &&& 31).toUInt32).toInt32) &&& (32767 : Int32)) - ((((bb.toUInt32 >>> ((16 : Int32) &&& 31).toUInt32).toInt32) &&& (32767 : Int32)) / (3 : Int32)) * (3 : Int32))), .val (.int (bb &&& (255 : Int32))), .val (.int (((bb.toUInt32 >>> ((8 : Int32) &&& 31).toUInt32).toInt32) &&& (255 : Int32))), .val (.int (i2 &&& (3 : Int32))), .val (.int (((i2.toUInt32 >>> ((2 : Int32) &&& 31).toUInt32).toInt32) &&& (3 : Int32))), .val (.int (((i2.toUInt32 >>> ((4 : Int32) &&& 31).toUInt32).toInt32) &&& (3 : Int32))), .unset, .unset, .unset, .unset, .unset, .unset] [])
  obtain ⟨c1, hc1⟩ : ∃ z : Int32, z = (((i0.toUInt32 >>> ((8 : Int32) &&& 31).toUInt32).toInt32) &&& (255 : Int32)) := ⟨_, rfl⟩
  refine Goes.cast (show (mkF m 96 #[.val (.int i0), .val (.int i1), .val (.int i2), .val (.int bb), .val (.int l1), .val (.int c0), .val (.int (((i0.toUInt32 >>> ((8 : Int32) &&& 31).toUInt32).toInt32) &&& (255 : Int32))), .val (.int ((((bb.toUInt32 >>> ((16 : Int32) &&& 31).toUInt32).toInt32) &&& (32767 : Int32)) - ((((bb.toUInt32 >>> ((16 : Int32) &&& 31).toUInt32).toInt32) &&& (32767 : Int32)) / (3 : Int32)) * (3 : Int32))), .val (.int (bb &&& (255 : Int32))), .val (.int (((bb.toUInt32 >>> ((8 : Int32) &&& 31).toUInt32).toInt32) &&& (255 : Int32))), .val (.int (i2 &&& (3 : Int32))), .val (.int (((i2.toUInt32 >>> ((2 : Int32) &&& 31).toUInt32).toInt32) &&& (3 : Int32))), .val (.int (((i2.toUInt32 >>> ((4 : Int32) &&& 31).toUInt32).toInt32) &&& (3 : Int32))), .unset, .unset, .unset, .unset, .unset, .unset] []) = (mkF m 96 #[.val (.int i0), .val (.int i1), .val (.int i2), .val (.int bb), .val (.int l1), .val (.int c0), .val (.int c1), .val (.int ((((bb.toUInt32 >>> ((16 : Int32) &&& 31).toUInt32).toInt32) &&& (32767 : Int32)) - ((((bb.toUInt32 >>> ((16 : Int32) &&& 31).toUInt32).toInt32) &&& (32767 : Int32)) / (3 : Int32)) * (3 : Int32))), .val (.int (bb &&& (255 : Int32))), .val (.int (((bb.toUInt32 >>> ((8 : Int32) &&& 31).toUInt32).toInt32) &&& (255 : Int32))), .val (.int (i2 &&& (3 : Int32))), .val (.int (((i2.toUInt32 >>> ((2 : Int32) &&& 31).toUInt32).toInt32) &&& (3 : Int32))), .val (.int (((i2.toUInt32 >>> ((4 : Int32) &&& 31).toUInt32).toInt32) &&& (3 : Int32))), .unset, .unset, .unset, .unset, .unset, .unset] []) from by rw [hc1]) ?_
  show Goes _ _ _ _ T0 (mkF m 96 #[.val (.int i0), .val (.int i1), .val (.int i2), .val (.int bb), .val (.int l1), .val (.int c0), .val (.int c1), .val (.int ((((bb.toUInt32 >>> ((16 : Int32) &&& 31).toUInt32).toInt32) &&& (32767 : Int32)) - ((((bb.toUInt32 >>> ((16 : Int32) &&& 31).toUInt32).toInt32) &&& (32767 : Int32)) / (3 : Int32)) * (3 : Int32))), .val (.int (bb &&& (255 : Int32))), .val (.int (((bb.toUInt32 >>> ((8 : Int32) &&& 31).toUInt32).toInt32) &&& (255 : Int32))), .val (.int (i2 &&& (3 : Int32))), .val (.int (((i2.toUInt32 >>> ((2 : Int32) &&& 31).toUInt32).toInt32) &&& (3 : Int32))), .val (.int (((i2.toUInt32 >>> ((4 : Int32) &&& 31).toUInt32).toInt32) &&& (3 : Int32))), .unset, .unset, .unset, .unset, .unset, .unset] [])
  obtain ⟨l2, hl2⟩ : ∃ z : Int32, z = ((((bb.toUInt32 >>> ((16 : Int32) &&& 31).toUInt32).toInt32) &&& (32767 : Int32)) - ((((bb.toUInt32 >>> ((16 : Int32) &&& 31).toUInt32).toInt32) &&& (32767 : Int32)) / (3 : Int32)) * (3 : Int32)) := ⟨_, rfl⟩
  refine Goes.cast (show (mkF m 96 #[.val (.int i0), .val (.int i1), .val (.int i2), .val (.int bb), .val (.int l1), .val (.int c0), .val (.int c1), .val (.int ((((bb.toUInt32 >>> ((16 : Int32) &&& 31).toUInt32).toInt32) &&& (32767 : Int32)) - ((((bb.toUInt32 >>> ((16 : Int32) &&& 31).toUInt32).toInt32) &&& (32767 : Int32)) / (3 : Int32)) * (3 : Int32))), .val (.int (bb &&& (255 : Int32))), .val (.int (((bb.toUInt32 >>> ((8 : Int32) &&& 31).toUInt32).toInt32) &&& (255 : Int32))), .val (.int (i2 &&& (3 : Int32))), .val (.int (((i2.toUInt32 >>> ((2 : Int32) &&& 31).toUInt32).toInt32) &&& (3 : Int32))), .val (.int (((i2.toUInt32 >>> ((4 : Int32) &&& 31).toUInt32).toInt32) &&& (3 : Int32))), .unset, .unset, .unset, .unset, .unset, .unset] []) = (mkF m 96 #[.val (.int i0), .val (.int i1), .val (.int i2), .val (.int bb), .val (.int l1), .val (.int c0), .val (.int c1), .val (.int l2), .val (.int (bb &&& (255 : Int32))), .val (.int (((bb.toUInt32 >>> ((8 : Int32) &&& 31).toUInt32).toInt32) &&& (255 : Int32))), .val (.int (i2 &&& (3 : Int32))), .val (.int (((i2.toUInt32 >>> ((2 : Int32) &&& 31).toUInt32).toInt32) &&& (3 : Int32))), .val (.int (((i2.toUInt32 >>> ((4 : Int32) &&& 31).toUInt32).toInt32) &&& (3 : Int32))), .unset, .unset, .unset, .unset, .unset, .unset] []) from by rw [hl2]) ?_
  show Goes _ _ _ _ T0 (mkF m 96 #[.val (.int i0), .val (.int i1), .val (.int i2), .val (.int bb), .val (.int l1), .val (.int c0), .val (.int c1), .val (.int l2), .val (.int (bb &&& (255 : Int32))), .val (.int (((bb.toUInt32 >>> ((8 : Int32) &&& 31).toUInt32).toInt32) &&& (255 : Int32))), .val (.int (i2 &&& (3 : Int32))), .val (.int (((i2.toUInt32 >>> ((2 : Int32) &&& 31).toUInt32).toInt32) &&& (3 : Int32))), .val (.int (((i2.toUInt32 >>> ((4 : Int32) &&& 31).toUInt32).toInt32) &&& (3 : Int32))), .unset, .unset, .unset, .unset, .unset, .unset] [])
  obtain ⟨d0, hd0⟩ : ∃ z : Int32, z = (bb &&& (255 : Int32)) := ⟨_, rfl⟩
  refine Goes.cast (show (mkF m 96 #[.val (.int i0), .val (.int i1), .val (.int i2), .val (.int bb), .val (.int l1), .val (.int c0), .val (.int c1), .val (.int l2), .val (.int (bb &&& (255 : Int32))), .val (.int (((bb.toUInt32 >>> ((8 : Int32) &&& 31).toUInt32).toInt32) &&& (255 : Int32))), .val (.int (i2 &&& (3 : Int32))), .val (.int (((i2.toUInt32 >>> ((2 : Int32) &&& 31).toUInt32).toInt32) &&& (3 : Int32))), .val (.int (((i2.toUInt32 >>> ((4 : Int32) &&& 31).toUInt32).toInt32) &&& (3 : Int32))), .unset, .unset, .unset, .unset, .unset, .unset] []) = (mkF m 96 #[.val (.int i0), .val (.int i1), .val (.int i2), .val (.int bb), .val (.int l1), .val (.int c0), .val (.int c1), .val (.int l2), .val (.int d0), .val (.int (((bb.toUInt32 >>> ((8 : Int32) &&& 31).toUInt32).toInt32) &&& (255 : Int32))), .val (.int (i2 &&& (3 : Int32))), .val (.int (((i2.toUInt32 >>> ((2 : Int32) &&& 31).toUInt32).toInt32) &&& (3 : Int32))), .val (.int (((i2.toUInt32 >>> ((4 : Int32) &&& 31).toUInt32).toInt32) &&& (3 : Int32))), .unset, .unset, .unset, .unset, .unset, .unset] []) from by rw [hd0]) ?_
  show Goes _ _ _ _ T0 (mkF m 96 #[.val (.int i0), .val (.int i1), .val (.int i2), .val (.int bb), .val (.int l1), .val (.int c0), .val (.int c1), .val (.int l2), .val (.int d0), .val (.int (((bb.toUInt32 >>> ((8 : Int32) &&& 31).toUInt32).toInt32) &&& (255 : Int32))), .val (.int (i2 &&& (3 : Int32))), .val (.int (((i2.toUInt32 >>> ((2 : Int32) &&& 31).toUInt32).toInt32) &&& (3 : Int32))), .val (.int (((i2.toUInt32 >>> ((4 : Int32) &&& 31).toUInt32).toInt32) &&& (3 : Int32))), .unset, .unset, .unset, .unset, .unset, .unset] [])
  obtain ⟨d1, hd1⟩ : ∃ z : Int32, z = (((bb.toUInt32 >>> ((8 : Int32) &&& 31).toUInt32).toInt32) &&& (255 : Int32)) := ⟨_, rfl⟩
  refine Goes.cast (show (mkF m 96 #[.val (.int i0), .val (.int i1), .val (.int i2), .val (.int bb), .val (.int l1), .val (.int c0), .val (.int c1), .val (.int l2), .val (.int d0), .val (.int (((bb.toUInt32 >>> ((8 : Int32) &&& 31).toUInt32).toInt32) &&& (255 : Int32))), .val (.int (i2 &&& (3 : Int32))), .val (.int (((i2.toUInt32 >>> ((2 : Int32) &&& 31).toUInt32).toInt32) &&& (3 : Int32))), .val (.int (((i2.toUInt32 >>> ((4 : Int32) &&& 31).toUInt32).toInt32) &&& (3 : Int32))), .unset, .unset, .unset, .unset, .unset, .unset] []) = (mkF m 96 #[.val (.int i0), .val (.int i1), .val (.int i2), .val (.int bb), .val (.int l1), .val (.int c0), .val (.int c1), .val (.int l2), .val (.int d0), .val (.int d1), .val (.int (i2 &&& (3 : Int32))), .val (.int (((i2.toUInt32 >>> ((2 : Int32) &&& 31).toUInt32).toInt32) &&& (3 : Int32))), .val (.int (((i2.toUInt32 >>> ((4 : Int32) &&& 31).toUInt32).toInt32) &&& (3 : Int32))), .unset, .unset, .unset, .unset, .unset, .unset] []) from by rw [hd1]) ?_
  show Goes _ _ _ _ T0 (mkF m 96 #[.val (.int i0), .val (.int i1), .val (.int i2), .val (.int bb), .val (.int l1), .val (.int c0), .val (.int c1), .val (.int l2), .val (.int d0), .val (.int d1), .val (.int (i2 &&& (3 : Int32))), .val (.int (((i2.toUInt32 >>> ((2 : Int32) &&& 31).toUInt32).toInt32) &&& (3 : Int32))), .val (.int (((i2.toUInt32 >>> ((4 : Int32) &&& 31).toUInt32).toInt32) &&& (3 : Int32))), .unset, .unset, .unset, .unset, .unset, .unset] [])
  obtain ⟨k1, hk1⟩ : ∃ z : Int32, z = (i2 &&& (3 : Int32)) := ⟨_, rfl⟩
  refine Goes.cast (show (mkF m 96 #[.val (.int i0), .val (.int i1), .val (.int i2), .val (.int bb), .val (.int l1), .val (.int c0), .val (.int c1), .val (.int l2), .val (.int d0), .val (.int d1), .val (.int (i2 &&& (3 : Int32))), .val (.int (((i2.toUInt32 >>> ((2 : Int32) &&& 31).toUInt32).toInt32) &&& (3 : Int32))), .val (.int (((i2.toUInt32 >>> ((4 : Int32) &&& 31).toUInt32).toInt32) &&& (3 : Int32))), .unset, .unset, .unset, .unset, .unset, .unset] []) = (mkF m 96 #[.val (.int i0), .val (.int i1), .val (.int i2), .val (.int bb), .val (.int l1), .val (.int c0), .val (.int c1), .val (.int l2), .val (.int d0), .val (.int d1), .val (.int k1), .val (.int (((i2.toUInt32 >>> ((2 : Int32) &&& 31).toUInt32).toInt32) &&& (3 : Int32))), .val (.int (((i2.toUInt32 >>> ((4 : Int32) &&& 31).toUInt32).toInt32) &&& (3 : Int32))), .unset, .unset, .unset, .unset, .unset, .unset] []) from by rw [hk1]) ?_
  show Goes _ _ _ _ T0 (mkF m 96 #[.val (.int i0), .val (.int i1), .val (.int i2), .val (.int bb), .val (.int l1), .val (.int c0), .val (.int c1), .val (.int l2), .val (.int d0), .val (.int d1), .val (.int k1), .val (.int (((i2.toUInt32 >>> ((2 : Int32) &&& 31).toUInt32).toInt32) &&& (3 : Int32))), .val (.int (((i2.toUInt32 >>> ((4 : Int32) &&& 31).toUInt32).toInt32) &&& (3 : Int32))), .unset, .unset, .unset, .unset, .unset, .unset] [])
  obtain ⟨k2, hk2⟩ : ∃ z : Int32, z = (((i2.toUInt32 >>> ((2 : Int32) &&& 31).toUInt32).toInt32) &&& (3 : Int32)) := ⟨_, rfl⟩
  refine Goes.cast (show (mkF m 96 #[.val (.int i0), .val (.int i1), .val (.int i2), .val (.int bb), .val (.int l1), .val (.int c0), .val (.int c1), .val (.int l2), .val (.int d0), .val (.int d1), .val (.int k1), .val (.int (((i2.toUInt32 >>> ((2 : Int32) &&& 31).toUInt32).toInt32) &&& (3 : Int32))), .val (.int (((i2.toUInt32 >>> ((4 : Int32) &&& 31).toUInt32).toInt32) &&& (3 : Int32))), .unset, .unset, .unset, .unset, .unset, .unset] []) = (mkF m 96 #[.val (.int i0), .val (.int i1), .val (.int i2), .val (.int bb), .val (.int l1), .val (.int c0), .val (.int c1), .val (.int l2), .val (.int d0), .val (.int d1), .val (.int k1), .val (.int k2), .val (.int (((i2.toUInt32 >>> ((4 : Int32) &&& 31).toUInt32).toInt32) &&& (3 : Int32))), .unset, .unset, .unset, .unset, .unset, .unset] []) from by rw [hk2]) ?_
  show Goes _ _ _ _ T0 (mkF m 96 #[.val (.int i0), .val (.int i1), .val (.int i2), .val (.int bb), .val (.int l1), .val (.int c0), .val (.int c1), .val (.int l2), .val (.int d0), .val (.int d1), .val (.int k1), .val (.int k2), .val (.int (((i2.toUInt32 >>> ((4 : Int32) &&& 31).toUInt32).toInt32) &&& (3 : Int32))), .unset, .unset, .unset, .unset, .unset, .unset] [])
  obtain ⟨kind, hkind⟩ : ∃ z : Int32, z = (((i2.toUInt32 >>> ((4 : Int32) &&& 31).toUInt32).toInt32) &&& (3 : Int32)) := ⟨_, rfl⟩
  refine Goes.cast (show (mkF m 96 #[.val (.int i0), .val (.int i1), .val (.int i2), .val (.int bb), .val (.int l1), .val (.int c0), .val (.int c1), .val (.int l2), .val (.int d0), .val (.int d1), .val (.int k1), .val (.int k2), .val (.int (((i2.toUInt32 >>> ((4 : Int32) &&& 31).toUInt32).toInt32) &&& (3 : Int32))), .unset, .unset, .unset, .unset, .unset, .unset] []) = (mkF m 96 #[.val (.int i0), .val (.int i1), .val (.int i2), .val (.int bb), .val (.int l1), .val (.int c0), .val (.int c1), .val (.int l2), .val (.int d0), .val (.int d1), .val (.int k1), .val (.int k2), .val (.int kind), .unset, .unset, .unset, .unset, .unset, .unset] []) from by rw [hkind]) ?_
  show Goes _ _ _ _ T0 (mkF m 96 #[.val (.int i0), .val (.int i1), .val (.int i2), .val (.int bb), .val (.int l1), .val (.int c0), .val (.int c1), .val (.int l2), .val (.int d0), .val (.int d1), .val (.int k1), .val (.int k2), .val (.int kind), .unset, .unset, .unset, .unset, .unset, .unset] [])
  have b_c0 : ¬ c0 < 0 ∧ ¬ (255 : Int32) < c0 := by rw [hc0]; exact own_b255 _
  have b_c1 : ¬ c1 < 0 ∧ ¬ (255 : Int32) < c1 := by rw [hc1]; exact own_b255 _
  have b_d0 : ¬ d0 < 0 ∧ ¬ (255 : Int32) < d0 := by rw [hd0]; exact own_b255 _
  have b_d1 : ¬ d1 < 0 ∧ ¬ (255 : Int32) < d1 := by rw [hd1]; exact own_b255 _
  have r_l1 : l1 = 0 ∨ l1 = 1 ∨ l1 = 2 := by rw [hl1]; exact own_enum3 (own_rem _ 32767 3 (by decide) (by decide))
  have r_l2 : l2 = 0 ∨ l2 = 1 ∨ l2 = 2 := by rw [hl2]; exact own_enum3 (own_rem _ 32767 3 (by decide) (by decide))
  have r_k1 : k1 = 0 ∨ k1 = 1 ∨ k1 = 2 ∨ k1 = 3 := by rw [hk1]; exact own_and3 _
  have r_k2 : k2 = 0 ∨ k2 = 1 ∨ k2 = 2 ∨ k2 = 3 := by rw [hk2]; exact own_and3 _
  refine Goes.go (fun _ k => XS.iload X0.here X0.ex rfl (hb hby at_96) rfl (XS.iload X0.here X0.ex rfl (hb hby at_98) rfl (XS.iload X0.here X0.ex rfl (hb hby at_100) rfl k))) ?_
  show Goes _ _ _ _ T0 (mkF m 102 #[.val (.int i0), .val (.int i1), .val (.int i2), .val (.int bb), .val (.int l1), .val (.int c0), .val (.int c1), .val (.int l2), .val (.int d0), .val (.int d1), .val (.int k1), .val (.int k2), .val (.int kind), .unset, .unset, .unset, .unset, .unset, .unset] [(.int c1), (.int c0), (.int l1)])
  refine Wk.staticS (y := (⟨"com/example/matchmaker/matchmaker/registry/ParameterEqualsPinLaw", "mk", "(ICC)Ljava/lang/String;"⟩ : MethodName)) (W := 0) (kc := 6) (ks := 14) (argsL := [(.int l1), (.int c0), (.int c1)]) (rest := []) (as' := #[(.int l1), (.int c0), (.int c1)]) (ws := []) X0 (w_0 hw) (w_1 hw) (w_2 hw) (w_3 hw) (by decide) (CtrS.pays (own_mk l Z a0 hw hEL h0 X0.old l1 c0 c1 G1 O2 P5 b_c0 b_c1) (w_3 hw) (w_2 hw) (by decide) (by decide) hEL) (fun v h' L q => ⟨q.2, q.1.1⟩) all0 rfl (by rw [hml]; rfl) (lenOf pd_4 rfl) rfl rfl (by show 2 * 0 + _ ≤ _; exact Nat.le_of_eq rfl) (hb hby at_102) (by decide) (by decide) ?_
  intro T48 h48 v48 L48 X48 q48 K48
  obtain ⟨⟨-, a48, rfl, S48⟩, -⟩ := q48
  show Goes _ _ _ _ T48 (mkF m 105 #[.val (.int i0), .val (.int i1), .val (.int i2), .val (.int bb), .val (.int l1), .val (.int c0), .val (.int c1), .val (.int l2), .val (.int d0), .val (.int d1), .val (.int k1), .val (.int k2), .val (.int kind), .unset, .unset, .unset, .unset, .unset, .unset] [(.ref a48)])
  refine Goes.go (fun _ k => XS.astore X48.here X48.ex rfl (hb hby at_105) rfl rfl (l' := #[.val (.int i0), .val (.int i1), .val (.int i2), .val (.int bb), .val (.int l1), .val (.int c0), .val (.int c1), .val (.int l2), .val (.int d0), .val (.int d1), .val (.int k1), .val (.int k2), .val (.int kind), .val (.ref a48), .unset, .unset, .unset, .unset, .unset]) rfl (XS.iload X48.here X48.ex rfl (hb hby at_107) rfl (XS.iload X48.here X48.ex rfl (hb hby at_109) rfl (XS.iload X48.here X48.ex rfl (hb hby at_111) rfl k)))) ?_
  show Goes _ _ _ _ T48 (mkF m 113 #[.val (.int i0), .val (.int i1), .val (.int i2), .val (.int bb), .val (.int l1), .val (.int c0), .val (.int c1), .val (.int l2), .val (.int d0), .val (.int d1), .val (.int k1), .val (.int k2), .val (.int kind), .val (.ref a48), .unset, .unset, .unset, .unset, .unset] [(.int d1), (.int d0), (.int l2)])
  refine Wk.staticS (y := (⟨"com/example/matchmaker/matchmaker/registry/ParameterEqualsPinLaw", "mk", "(ICC)Ljava/lang/String;"⟩ : MethodName)) (W := 0) (kc := 6) (ks := 14) (argsL := [(.int l2), (.int d0), (.int d1)]) (rest := []) (as' := #[(.int l2), (.int d0), (.int d1)]) (ws := []) X48 (w_0 hw) (w_1 hw) (w_2 hw) (w_3 hw) (by decide) (CtrS.pays (own_mk l Z a0 hw hEL h48 X48.old l2 d0 d1 G1 O2 P5 b_d0 b_d1) (w_3 hw) (w_2 hw) (by decide) (by decide) hEL) (fun v h' L q => ⟨q.2, q.1.1⟩) all0 rfl (by rw [hml]; rfl) (lenOf pd_4 rfl) rfl rfl (by show 2 * 0 + _ ≤ _; exact Nat.le_of_eq rfl) (hb hby at_113) (by decide) (by decide) ?_
  intro T49 h49 v49 L49 X49 q49 K49
  obtain ⟨⟨-, a49, rfl, S49⟩, -⟩ := q49
  replace S48 := S48.ext K49.oExt
  show Goes _ _ _ _ T49 (mkF m 116 #[.val (.int i0), .val (.int i1), .val (.int i2), .val (.int bb), .val (.int l1), .val (.int c0), .val (.int c1), .val (.int l2), .val (.int d0), .val (.int d1), .val (.int k1), .val (.int k2), .val (.int kind), .val (.ref a48), .unset, .unset, .unset, .unset, .unset] [(.ref a49)])
  refine Goes.go (fun _ k => XS.astore X49.here X49.ex rfl (hb hby at_116) rfl rfl (l' := #[.val (.int i0), .val (.int i1), .val (.int i2), .val (.int bb), .val (.int l1), .val (.int c0), .val (.int c1), .val (.int l2), .val (.int d0), .val (.int d1), .val (.int k1), .val (.int k2), .val (.int kind), .val (.ref a48), .val (.ref a49), .unset, .unset, .unset, .unset]) rfl k) ?_
  show Goes _ _ _ _ T49 (mkF m 118 #[.val (.int i0), .val (.int i1), .val (.int i2), .val (.int bb), .val (.int l1), .val (.int c0), .val (.int c1), .val (.int l2), .val (.int d0), .val (.int d1), .val (.int k1), .val (.int k2), .val (.int kind), .val (.ref a48), .val (.ref a49), .unset, .unset, .unset, .unset] [])
  have X50 := X49.mark
  refine Wk.new X50 (w_26 hw) (w_27 hw) (w_28 hw) rfl (hb hby at_118) (by decide) (by decide) ?_
  intro T51 h51 a51 g51 X51 E51 A51 D51
  have gz_a51 : Z.heap.size ≤ a51 := g51 ▸ X50.old.1
  have gm_a51 : h49.size ≤ a51 := g51 ▸ X50.ext.1
  have F_a51_name : Fld Z h51 a51 "com/example/matchmaker/matchmaker/registry/Parameter" "name" "Ljava/lang/String;" .null := D51 (Or.inr (w_46 hw)) (ty := (.object "java/lang/String")) (by decide)
  have F_a51_location : Fld Z h51 a51 "com/example/matchmaker/matchmaker/registry/Parameter" "location" "Lcom/example/matchmaker/matchmaker/registry/Parameter$Location;" .null := D51 (Or.inr (w_51 hw)) (ty := (.object "com/example/matchmaker/matchmaker/registry/Parameter$Location")) (by decide)
  clear D51
  show Goes _ _ _ _ T51 (mkF m 121 #[.val (.int i0), .val (.int i1), .val (.int i2), .val (.int bb), .val (.int l1), .val (.int c0), .val (.int c1), .val (.int l2), .val (.int d0), .val (.int d1), .val (.int k1), .val (.int k2), .val (.int kind), .val (.ref a48), .val (.ref a49), .unset, .unset, .unset, .unset] [(.ref a51)])
  refine Goes.go (fun _ k => XS.dup X51.here X51.ex rfl (hb hby at_121) rfl rfl (XS.aload X51.here X51.ex rfl (hb hby at_122) rfl rfl (XS.iload X51.here X51.ex rfl (hb hby at_124) rfl k))) ?_
  show Goes _ _ _ _ T51 (mkF m 126 #[.val (.int i0), .val (.int i1), .val (.int i2), .val (.int bb), .val (.int l1), .val (.int c0), .val (.int c1), .val (.int l2), .val (.int d0), .val (.int d1), .val (.int k1), .val (.int k2), .val (.int kind), .val (.ref a48), .val (.ref a49), .unset, .unset, .unset, .unset] [(.int k1), (.ref a48), (.ref a51), (.ref a51)])
  refine Wk.static (hm' := fun _ => h49) (y := (⟨"com/example/matchmaker/matchmaker/registry/ParameterEqualsPinLaw", "loc", "(I)Lcom/example/matchmaker/matchmaker/registry/Parameter$Location;"⟩ : MethodName)) (W := 3) (kc := 0) (ks := 0) (argsL := [(.int k1)]) (rest := [(.ref a48), (.ref a51), (.ref a51)]) (as' := #[(.int k1)]) (ws := []) X51 (w_29 hw) (w_30 hw) (w_2 hw) (w_31 hw) (by decide) (CtrN.pays (own_locc l Z a0 hw h51 X51.old k1 p_PATH p_QUERY p_HEADER p_COOKIE S_PATH S_QUERY S_HEADER S_COOKIE) (w_31 hw) (w_2 hw) (by decide) (by decide)) (fun v h' L q => ⟨q.2, q.1.1⟩) all0 (fun _ => Mark.stay all0) rfl (by rw [hml]; rfl) (lenOf pd_5 rfl) rfl rfl (by show 2 * 0 + _ ≤ _; exact Nat.le_of_eq rfl) (hb hby at_126) (by decide) (by decide) ?_
  intro T52 h52 v52 L52 X52 q52 K52
  obtain ⟨⟨-, rfl⟩, -⟩ := q52
  replace A51 := A51.ext K52.oExt
  replace F_a51_name := F_a51_name.ext K52.oExt
  replace F_a51_location := F_a51_location.ext K52.oExt
  show Goes _ _ _ _ T52 (mkF m 129 #[.val (.int i0), .val (.int i1), .val (.int i2), .val (.int bb), .val (.int l1), .val (.int c0), .val (.int c1), .val (.int l2), .val (.int d0), .val (.int d1), .val (.int k1), .val (.int k2), .val (.int kind), .val (.ref a48), .val (.ref a49), .unset, .unset, .unset, .unset] [(.ref (own_loc k1 p_PATH p_QUERY p_HEADER p_COOKIE)), (.ref a48), (.ref a51), (.ref a51)])
  have Ek51 := (own_locE (Q := fun a => Exa Z Z.heap a "com/example/matchmaker/matchmaker/registry/Parameter$Location") k1 E_PATH E_QUERY E_HEADER E_COOKIE).ext X52.old
  have ES51 := S48.ext X52.ext
  refine Wk.specialS (y := (⟨"com/example/matchmaker/matchmaker/registry/Parameter", "<init>", "(Ljava/lang/String;Lcom/example/matchmaker/matchmaker/registry/Parameter$Location;)V"⟩ : MethodName)) (W := 1) (kc := 4) (ks := 56) (argsL := [(.ref a48), (.ref (own_loc k1 p_PATH p_QUERY p_HEADER p_COOKIE))]) (rest := [(.ref a51)]) (as' := #[(.ref a51), (.ref a48), (.ref (own_loc k1 p_PATH p_QUERY p_HEADER p_COOKIE))]) (ws := [a51]) X52 rfl (w_35 hw) (w_36 hw) (w_37 hw) (by decide) (CtrS.pays (own_ini l Z a0 hw hEL h52 X52.old a51 a48 (own_loc k1 p_PATH p_QUERY p_HEADER p_COOKIE) A51 F_a51_name F_a51_location gz_a51 ES51.1 Ek51) (w_37 hw) (w_28 hw) (by decide) (by decide) hEL) (fun v h' L q => ⟨q.2, q.1.1⟩) (allS gz_a51 all0) rfl (by rw [hml]; rfl) (lenOf pd_6 rfl) rfl rfl (by show 2 * 0 + _ ≤ _; exact Nat.le_of_eq rfl) (hb hby at_129) (by decide) (by decide) ?_
  intro T53 h53 v53 L53 X53 q53 K53
  obtain ⟨⟨-, rfl, Ex53, Fi53, Fo53⟩, -⟩ := q53
  show Goes _ _ _ _ T53 (mkF m 132 #[.val (.int i0), .val (.int i1), .val (.int i2), .val (.int bb), .val (.int l1), .val (.int c0), .val (.int c1), .val (.int l2), .val (.int d0), .val (.int d1), .val (.int k1), .val (.int k2), .val (.int kind), .val (.ref a48), .val (.ref a49), .unset, .unset, .unset, .unset] [(.ref a51)])
  have EE53 := X52.ext.oKeep K53 (allS gm_a51 all0)
  replace S48 := S48.ext EE53
  replace S49 := S49.ext EE53
  refine Goes.go (fun _ k => XS.astore X53.here X53.ex rfl (hb hby at_132) rfl rfl (l' := #[.val (.int i0), .val (.int i1), .val (.int i2), .val (.int bb), .val (.int l1), .val (.int c0), .val (.int c1), .val (.int l2), .val (.int d0), .val (.int d1), .val (.int k1), .val (.int k2), .val (.int kind), .val (.ref a48), .val (.ref a49), .val (.ref a51), .unset, .unset, .unset]) rfl k) ?_
  show Goes _ _ _ _ T53 (mkF m 134 #[.val (.int i0), .val (.int i1), .val (.int i2), .val (.int bb), .val (.int l1), .val (.int c0), .val (.int c1), .val (.int l2), .val (.int d0), .val (.int d1), .val (.int k1), .val (.int k2), .val (.int kind), .val (.ref a48), .val (.ref a49), .val (.ref a51), .unset, .unset, .unset] [])
  have X54 := X53.mark
  refine Wk.new X54 (w_26 hw) (w_27 hw) (w_28 hw) rfl (hb hby at_134) (by decide) (by decide) ?_
  intro T55 h55 a55 g55 X55 E55 A55 D55
  have gz_a55 : Z.heap.size ≤ a55 := g55 ▸ X54.old.1
  have gm_a55 : h53.size ≤ a55 := g55 ▸ X54.ext.1
  have F_a55_name : Fld Z h55 a55 "com/example/matchmaker/matchmaker/registry/Parameter" "name" "Ljava/lang/String;" .null := D55 (Or.inr (w_46 hw)) (ty := (.object "java/lang/String")) (by decide)
  have F_a55_location : Fld Z h55 a55 "com/example/matchmaker/matchmaker/registry/Parameter" "location" "Lcom/example/matchmaker/matchmaker/registry/Parameter$Location;" .null := D55 (Or.inr (w_51 hw)) (ty := (.object "com/example/matchmaker/matchmaker/registry/Parameter$Location")) (by decide)
  clear D55
  show Goes _ _ _ _ T55 (mkF m 137 #[.val (.int i0), .val (.int i1), .val (.int i2), .val (.int bb), .val (.int l1), .val (.int c0), .val (.int c1), .val (.int l2), .val (.int d0), .val (.int d1), .val (.int k1), .val (.int k2), .val (.int kind), .val (.ref a48), .val (.ref a49), .val (.ref a51), .unset, .unset, .unset] [(.ref a55)])
  refine Goes.go (fun _ k => XS.dup X55.here X55.ex rfl (hb hby at_137) rfl rfl (XS.aload X55.here X55.ex rfl (hb hby at_138) rfl rfl (XS.iload X55.here X55.ex rfl (hb hby at_140) rfl k))) ?_
  show Goes _ _ _ _ T55 (mkF m 142 #[.val (.int i0), .val (.int i1), .val (.int i2), .val (.int bb), .val (.int l1), .val (.int c0), .val (.int c1), .val (.int l2), .val (.int d0), .val (.int d1), .val (.int k1), .val (.int k2), .val (.int kind), .val (.ref a48), .val (.ref a49), .val (.ref a51), .unset, .unset, .unset] [(.int k2), (.ref a49), (.ref a55), (.ref a55)])
  refine Wk.static (hm' := fun _ => h53) (y := (⟨"com/example/matchmaker/matchmaker/registry/ParameterEqualsPinLaw", "loc", "(I)Lcom/example/matchmaker/matchmaker/registry/Parameter$Location;"⟩ : MethodName)) (W := 3) (kc := 0) (ks := 0) (argsL := [(.int k2)]) (rest := [(.ref a49), (.ref a55), (.ref a55)]) (as' := #[(.int k2)]) (ws := []) X55 (w_29 hw) (w_30 hw) (w_2 hw) (w_31 hw) (by decide) (CtrN.pays (own_locc l Z a0 hw h55 X55.old k2 p_PATH p_QUERY p_HEADER p_COOKIE S_PATH S_QUERY S_HEADER S_COOKIE) (w_31 hw) (w_2 hw) (by decide) (by decide)) (fun v h' L q => ⟨q.2, q.1.1⟩) all0 (fun _ => Mark.stay all0) rfl (by rw [hml]; rfl) (lenOf pd_5 rfl) rfl rfl (by show 2 * 0 + _ ≤ _; exact Nat.le_of_eq rfl) (hb hby at_142) (by decide) (by decide) ?_
  intro T56 h56 v56 L56 X56 q56 K56
  obtain ⟨⟨-, rfl⟩, -⟩ := q56
  replace A55 := A55.ext K56.oExt
  replace F_a55_name := F_a55_name.ext K56.oExt
  replace F_a55_location := F_a55_location.ext K56.oExt
  show Goes _ _ _ _ T56 (mkF m 145 #[.val (.int i0), .val (.int i1), .val (.int i2), .val (.int bb), .val (.int l1), .val (.int c0), .val (.int c1), .val (.int l2), .val (.int d0), .val (.int d1), .val (.int k1), .val (.int k2), .val (.int kind), .val (.ref a48), .val (.ref a49), .val (.ref a51), .unset, .unset, .unset] [(.ref (own_loc k2 p_PATH p_QUERY p_HEADER p_COOKIE)), (.ref a49), (.ref a55), (.ref a55)])
  have Ek55 := (own_locE (Q := fun a => Exa Z Z.heap a "com/example/matchmaker/matchmaker/registry/Parameter$Location") k2 E_PATH E_QUERY E_HEADER E_COOKIE).ext X56.old
  have ES55 := S49.ext X56.ext
  refine Wk.specialS (y := (⟨"com/example/matchmaker/matchmaker/registry/Parameter", "<init>", "(Ljava/lang/String;Lcom/example/matchmaker/matchmaker/registry/Parameter$Location;)V"⟩ : MethodName)) (W := 1) (kc := 4) (ks := 56) (argsL := [(.ref a49), (.ref (own_loc k2 p_PATH p_QUERY p_HEADER p_COOKIE))]) (rest := [(.ref a55)]) (as' := #[(.ref a55), (.ref a49), (.ref (own_loc k2 p_PATH p_QUERY p_HEADER p_COOKIE))]) (ws := [a55]) X56 rfl (w_35 hw) (w_36 hw) (w_37 hw) (by decide) (CtrS.pays (own_ini l Z a0 hw hEL h56 X56.old a55 a49 (own_loc k2 p_PATH p_QUERY p_HEADER p_COOKIE) A55 F_a55_name F_a55_location gz_a55 ES55.1 Ek55) (w_37 hw) (w_28 hw) (by decide) (by decide) hEL) (fun v h' L q => ⟨q.2, q.1.1⟩) (allS gz_a55 all0) rfl (by rw [hml]; rfl) (lenOf pd_6 rfl) rfl rfl (by show 2 * 0 + _ ≤ _; exact Nat.le_of_eq rfl) (hb hby at_145) (by decide) (by decide) ?_
  intro T57 h57 v57 L57 X57 q57 K57
  obtain ⟨⟨-, rfl, Ex57, Fi57, Fo57⟩, -⟩ := q57
  show Goes _ _ _ _ T57 (mkF m 148 #[.val (.int i0), .val (.int i1), .val (.int i2), .val (.int bb), .val (.int l1), .val (.int c0), .val (.int c1), .val (.int l2), .val (.int d0), .val (.int d1), .val (.int k1), .val (.int k2), .val (.int kind), .val (.ref a48), .val (.ref a49), .val (.ref a51), .unset, .unset, .unset] [(.ref a55)])
  have EE57 := X56.ext.oKeep K57 (allS gm_a55 all0)
  replace S48 := S48.ext EE57
  replace S49 := S49.ext EE57
  replace Ex53 := Ex53.ext EE57
  replace Fi53 := Fi53.ext EE57
  replace Fo53 := Fo53.ext EE57
  refine Goes.go (fun _ k => XS.astore X57.here X57.ex rfl (hb hby at_148) rfl rfl (l' := #[.val (.int i0), .val (.int i1), .val (.int i2), .val (.int bb), .val (.int l1), .val (.int c0), .val (.int c1), .val (.int l2), .val (.int d0), .val (.int d1), .val (.int k1), .val (.int k2), .val (.int kind), .val (.ref a48), .val (.ref a49), .val (.ref a51), .val (.ref a55), .unset, .unset]) rfl (XS.iload X57.here X57.ex rfl (hb hby at_150) rfl (XS.iconst X57.here X57.ex rfl (hb hby at_152) k))) ?_
  show Goes _ _ _ _ T57 (mkF m 153 #[.val (.int i0), .val (.int i1), .val (.int i2), .val (.int bb), .val (.int l1), .val (.int c0), .val (.int c1), .val (.int l2), .val (.int d0), .val (.int d1), .val (.int k1), .val (.int k2), .val (.int kind), .val (.ref a48), .val (.ref a49), .val (.ref a51), .val (.ref a55), .unset, .unset] [(.int (1 : Int32)), (.int kind)])
  refine Goes.icmp (pc' := 171) X57.here X57.ex (hb hby at_153) (by decide) (by decide) (fun hc153 => ?_) (fun hc153 => ?_)
  · have hc153 : ¬ (kind = (1 : Int32)) := hc153
    show Goes _ _ _ _ T57 (mkF m 171 #[.val (.int i0), .val (.int i1), .val (.int i2), .val (.int bb), .val (.int l1), .val (.int c0), .val (.int c1), .val (.int l2), .val (.int d0), .val (.int d1), .val (.int k1), .val (.int k2), .val (.int kind), .val (.ref a48), .val (.ref a49), .val (.ref a51), .val (.ref a55), .unset, .unset] [])
    refine Goes.go (fun _ k => XS.iload X57.here X57.ex rfl (hb hby at_171) rfl (XS.iconst X57.here X57.ex rfl (hb hby at_173) k)) ?_
    show Goes _ _ _ _ T57 (mkF m 174 #[.val (.int i0), .val (.int i1), .val (.int i2), .val (.int bb), .val (.int l1), .val (.int c0), .val (.int c1), .val (.int l2), .val (.int d0), .val (.int d1), .val (.int k1), .val (.int k2), .val (.int kind), .val (.ref a48), .val (.ref a49), .val (.ref a51), .val (.ref a55), .unset, .unset] [(.int (2 : Int32)), (.int kind)])
    refine Goes.icmp (pc' := 193) X57.here X57.ex (hb hby at_174) (by decide) (by decide) (fun hc174 => ?_) (fun hc174 => ?_)
    · have hc174 : ¬ (kind = (2 : Int32)) := hc174
      show Goes _ _ _ _ T57 (mkF m 193 #[.val (.int i0), .val (.int i1), .val (.int i2), .val (.int bb), .val (.int l1), .val (.int c0), .val (.int c1), .val (.int l2), .val (.int d0), .val (.int d1), .val (.int k1), .val (.int k2), .val (.int kind), .val (.ref a48), .val (.ref a49), .val (.ref a51), .val (.ref a55), .unset, .unset] [])
      refine Goes.go (fun _ k => XS.iload X57.here X57.ex rfl (hb hby at_193) rfl (XS.iconst X57.here X57.ex rfl (hb hby at_195) k)) ?_
      show Goes _ _ _ _ T57 (mkF m 196 #[.val (.int i0), .val (.int i1), .val (.int i2), .val (.int bb), .val (.int l1), .val (.int c0), .val (.int c1), .val (.int l2), .val (.int d0), .val (.int d1), .val (.int k1), .val (.int k2), .val (.int kind), .val (.ref a48), .val (.ref a49), .val (.ref a51), .val (.ref a55), .unset, .unset] [(.int (3 : Int32)), (.int kind)])
      refine Goes.icmp (pc' := 207) X57.here X57.ex (hb hby at_196) (by decide) (by decide) (fun hc196 => ?_) (fun hc196 => ?_)
      · have hc196 : ¬ (kind = (3 : Int32)) := hc196
        show Goes _ _ _ _ T57 (mkF m 207 #[.val (.int i0), .val (.int i1), .val (.int i2), .val (.int bb), .val (.int l1), .val (.int c0), .val (.int c1), .val (.int l2), .val (.int d0), .val (.int d1), .val (.int k1), .val (.int k2), .val (.int kind), .val (.ref a48), .val (.ref a49), .val (.ref a51), .val (.ref a55), .unset, .unset] [])
        suffices hJ207 : Goes p.tables e below (EndS Z s consts_1 room_1.cells room_1.slots (fun v h' => v = some (.int (1 : Int32)))) T57 (mkF m 245 #[.val (.int i0), .val (.int i1), .val (.int i2), .val (.int bb), .val (.int l1), .val (.int c0), .val (.int c1), .val (.int l2), .val (.int d0), .val (.int d1), .val (.int k1), .val (.int k2), .val (.int kind), .val (.ref a48), .val (.ref a49), .val (.ref a51), .val (.ref a55), .unset, .unset] [(.int (if l1 = l2 then (if l1 < (1 : Int32) then (if l1 < (2 : Int32) then (1 : Int32) else (if c1 = d1 then (1 : Int32) else (0 : Int32))) else (if c0 = d0 then (if l1 < (2 : Int32) then (1 : Int32) else (if c1 = d1 then (1 : Int32) else (0 : Int32))) else (0 : Int32))) else (0 : Int32)))]) by
          refine Goes.go (fun _ k => XS.iload X57.here X57.ex rfl (hb hby at_207) rfl (XS.iload X57.here X57.ex rfl (hb hby at_209) rfl k)) ?_
          show Goes _ _ _ _ T57 (mkF m 211 #[.val (.int i0), .val (.int i1), .val (.int i2), .val (.int bb), .val (.int l1), .val (.int c0), .val (.int c1), .val (.int l2), .val (.int d0), .val (.int d1), .val (.int k1), .val (.int k2), .val (.int kind), .val (.ref a48), .val (.ref a49), .val (.ref a51), .val (.ref a55), .unset, .unset] [(.int l2), (.int l1)])
          refine Goes.icmp (pc' := 244) X57.here X57.ex (hb hby at_211) (by decide) (by decide) (fun hr1 => ?_) (fun hr1 => ?_)
          · have hr1 : ¬ (l1 = l2) := hr1
            show Goes _ _ _ _ T57 (mkF m 244 #[.val (.int i0), .val (.int i1), .val (.int i2), .val (.int bb), .val (.int l1), .val (.int c0), .val (.int c1), .val (.int l2), .val (.int d0), .val (.int d1), .val (.int k1), .val (.int k2), .val (.int kind), .val (.ref a48), .val (.ref a49), .val (.ref a51), .val (.ref a55), .unset, .unset] [])
            refine Goes.go (fun _ k => XS.iconst X57.here X57.ex rfl (hb hby at_244) k) ?_
            show Goes _ _ _ _ T57 (mkF m 245 #[.val (.int i0), .val (.int i1), .val (.int i2), .val (.int bb), .val (.int l1), .val (.int c0), .val (.int c1), .val (.int l2), .val (.int d0), .val (.int d1), .val (.int k1), .val (.int k2), .val (.int kind), .val (.ref a48), .val (.ref a49), .val (.ref a51), .val (.ref a55), .unset, .unset] [(.int (0 : Int32))])
            (try simp only [if_neg hr1] at hJ207 ⊢)
            exact hJ207
          · have hr1 : l1 = l2 := Classical.not_not.mp hr1
            show Goes _ _ _ _ T57 (mkF m 214 #[.val (.int i0), .val (.int i1), .val (.int i2), .val (.int bb), .val (.int l1), .val (.int c0), .val (.int c1), .val (.int l2), .val (.int d0), .val (.int d1), .val (.int k1), .val (.int k2), .val (.int kind), .val (.ref a48), .val (.ref a49), .val (.ref a51), .val (.ref a55), .unset, .unset] [])
            refine Goes.go (fun _ k => XS.iload X57.here X57.ex rfl (hb hby at_214) rfl (XS.iconst X57.here X57.ex rfl (hb hby at_216) k)) ?_
            show Goes _ _ _ _ T57 (mkF m 217 #[.val (.int i0), .val (.int i1), .val (.int i2), .val (.int bb), .val (.int l1), .val (.int c0), .val (.int c1), .val (.int l2), .val (.int d0), .val (.int d1), .val (.int k1), .val (.int k2), .val (.int kind), .val (.ref a48), .val (.ref a49), .val (.ref a51), .val (.ref a55), .unset, .unset] [(.int (1 : Int32)), (.int l1)])
            refine Goes.icmp (pc' := 227) X57.here X57.ex (hb hby at_217) (by decide) (by decide) (fun hr2 => ?_) (fun hr2 => ?_)
            · have hr2 : l1 < (1 : Int32) := hr2
              show Goes _ _ _ _ T57 (mkF m 227 #[.val (.int i0), .val (.int i1), .val (.int i2), .val (.int bb), .val (.int l1), .val (.int c0), .val (.int c1), .val (.int l2), .val (.int d0), .val (.int d1), .val (.int k1), .val (.int k2), .val (.int kind), .val (.ref a48), .val (.ref a49), .val (.ref a51), .val (.ref a55), .unset, .unset] [])
              refine Goes.go (fun _ k => XS.iload X57.here X57.ex rfl (hb hby at_227) rfl (XS.iconst X57.here X57.ex rfl (hb hby at_229) k)) ?_
              show Goes _ _ _ _ T57 (mkF m 230 #[.val (.int i0), .val (.int i1), .val (.int i2), .val (.int bb), .val (.int l1), .val (.int c0), .val (.int c1), .val (.int l2), .val (.int d0), .val (.int d1), .val (.int k1), .val (.int k2), .val (.int kind), .val (.ref a48), .val (.ref a49), .val (.ref a51), .val (.ref a55), .unset, .unset] [(.int (2 : Int32)), (.int l1)])
              refine Goes.icmp (pc' := 240) X57.here X57.ex (hb hby at_230) (by decide) (by decide) (fun hr3 => ?_) (fun hr3 => ?_)
              · have hr3 : l1 < (2 : Int32) := hr3
                show Goes _ _ _ _ T57 (mkF m 240 #[.val (.int i0), .val (.int i1), .val (.int i2), .val (.int bb), .val (.int l1), .val (.int c0), .val (.int c1), .val (.int l2), .val (.int d0), .val (.int d1), .val (.int k1), .val (.int k2), .val (.int kind), .val (.ref a48), .val (.ref a49), .val (.ref a51), .val (.ref a55), .unset, .unset] [])
                refine Goes.go (fun _ k => XS.iconst X57.here X57.ex rfl (hb hby at_240) (XS.goto X57.here X57.ex rfl (pc0 := 241) (pc' := 245) rfl (hb hby at_241) (by decide) (by decide) k)) ?_
                show Goes _ _ _ _ T57 (mkF m 245 #[.val (.int i0), .val (.int i1), .val (.int i2), .val (.int bb), .val (.int l1), .val (.int c0), .val (.int c1), .val (.int l2), .val (.int d0), .val (.int d1), .val (.int k1), .val (.int k2), .val (.int kind), .val (.ref a48), .val (.ref a49), .val (.ref a51), .val (.ref a55), .unset, .unset] [(.int (1 : Int32))])
                (try simp only [if_pos hr1, if_pos hr2, if_pos hr3] at hJ207 ⊢)
                exact hJ207
              · have hr3 : ¬ (l1 < (2 : Int32)) := hr3
                show Goes _ _ _ _ T57 (mkF m 233 #[.val (.int i0), .val (.int i1), .val (.int i2), .val (.int bb), .val (.int l1), .val (.int c0), .val (.int c1), .val (.int l2), .val (.int d0), .val (.int d1), .val (.int k1), .val (.int k2), .val (.int kind), .val (.ref a48), .val (.ref a49), .val (.ref a51), .val (.ref a55), .unset, .unset] [])
                refine Goes.go (fun _ k => XS.iload X57.here X57.ex rfl (hb hby at_233) rfl (XS.iload X57.here X57.ex rfl (hb hby at_235) rfl k)) ?_
                show Goes _ _ _ _ T57 (mkF m 237 #[.val (.int i0), .val (.int i1), .val (.int i2), .val (.int bb), .val (.int l1), .val (.int c0), .val (.int c1), .val (.int l2), .val (.int d0), .val (.int d1), .val (.int k1), .val (.int k2), .val (.int kind), .val (.ref a48), .val (.ref a49), .val (.ref a51), .val (.ref a55), .unset, .unset] [(.int d1), (.int c1)])
                refine Goes.icmp (pc' := 244) X57.here X57.ex (hb hby at_237) (by decide) (by decide) (fun hr4 => ?_) (fun hr4 => ?_)
                · have hr4 : ¬ (c1 = d1) := hr4
                  show Goes _ _ _ _ T57 (mkF m 244 #[.val (.int i0), .val (.int i1), .val (.int i2), .val (.int bb), .val (.int l1), .val (.int c0), .val (.int c1), .val (.int l2), .val (.int d0), .val (.int d1), .val (.int k1), .val (.int k2), .val (.int kind), .val (.ref a48), .val (.ref a49), .val (.ref a51), .val (.ref a55), .unset, .unset] [])
                  refine Goes.go (fun _ k => XS.iconst X57.here X57.ex rfl (hb hby at_244) k) ?_
                  show Goes _ _ _ _ T57 (mkF m 245 #[.val (.int i0), .val (.int i1), .val (.int i2), .val (.int bb), .val (.int l1), .val (.int c0), .val (.int c1), .val (.int l2), .val (.int d0), .val (.int d1), .val (.int k1), .val (.int k2), .val (.int kind), .val (.ref a48), .val (.ref a49), .val (.ref a51), .val (.ref a55), .unset, .unset] [(.int (0 : Int32))])
                  (try simp only [if_pos hr1, if_pos hr2, if_neg hr3, if_neg hr4] at hJ207 ⊢)
                  exact hJ207
                · have hr4 : c1 = d1 := Classical.not_not.mp hr4
                  show Goes _ _ _ _ T57 (mkF m 240 #[.val (.int i0), .val (.int i1), .val (.int i2), .val (.int bb), .val (.int l1), .val (.int c0), .val (.int c1), .val (.int l2), .val (.int d0), .val (.int d1), .val (.int k1), .val (.int k2), .val (.int kind), .val (.ref a48), .val (.ref a49), .val (.ref a51), .val (.ref a55), .unset, .unset] [])
                  refine Goes.go (fun _ k => XS.iconst X57.here X57.ex rfl (hb hby at_240) (XS.goto X57.here X57.ex rfl (pc0 := 241) (pc' := 245) rfl (hb hby at_241) (by decide) (by decide) k)) ?_
                  show Goes _ _ _ _ T57 (mkF m 245 #[.val (.int i0), .val (.int i1), .val (.int i2), .val (.int bb), .val (.int l1), .val (.int c0), .val (.int c1), .val (.int l2), .val (.int d0), .val (.int d1), .val (.int k1), .val (.int k2), .val (.int kind), .val (.ref a48), .val (.ref a49), .val (.ref a51), .val (.ref a55), .unset, .unset] [(.int (1 : Int32))])
                  (try simp only [if_pos hr1, if_pos hr2, if_neg hr3, if_pos hr4] at hJ207 ⊢)
                  exact hJ207
            · have hr2 : ¬ (l1 < (1 : Int32)) := hr2
              show Goes _ _ _ _ T57 (mkF m 220 #[.val (.int i0), .val (.int i1), .val (.int i2), .val (.int bb), .val (.int l1), .val (.int c0), .val (.int c1), .val (.int l2), .val (.int d0), .val (.int d1), .val (.int k1), .val (.int k2), .val (.int kind), .val (.ref a48), .val (.ref a49), .val (.ref a51), .val (.ref a55), .unset, .unset] [])
              refine Goes.go (fun _ k => XS.iload X57.here X57.ex rfl (hb hby at_220) rfl (XS.iload X57.here X57.ex rfl (hb hby at_222) rfl k)) ?_
              show Goes _ _ _ _ T57 (mkF m 224 #[.val (.int i0), .val (.int i1), .val (.int i2), .val (.int bb), .val (.int l1), .val (.int c0), .val (.int c1), .val (.int l2), .val (.int d0), .val (.int d1), .val (.int k1), .val (.int k2), .val (.int kind), .val (.ref a48), .val (.ref a49), .val (.ref a51), .val (.ref a55), .unset, .unset] [(.int d0), (.int c0)])
              refine Goes.icmp (pc' := 244) X57.here X57.ex (hb hby at_224) (by decide) (by decide) (fun hr5 => ?_) (fun hr5 => ?_)
              · have hr5 : ¬ (c0 = d0) := hr5
                show Goes _ _ _ _ T57 (mkF m 244 #[.val (.int i0), .val (.int i1), .val (.int i2), .val (.int bb), .val (.int l1), .val (.int c0), .val (.int c1), .val (.int l2), .val (.int d0), .val (.int d1), .val (.int k1), .val (.int k2), .val (.int kind), .val (.ref a48), .val (.ref a49), .val (.ref a51), .val (.ref a55), .unset, .unset] [])
                refine Goes.go (fun _ k => XS.iconst X57.here X57.ex rfl (hb hby at_244) k) ?_
                show Goes _ _ _ _ T57 (mkF m 245 #[.val (.int i0), .val (.int i1), .val (.int i2), .val (.int bb), .val (.int l1), .val (.int c0), .val (.int c1), .val (.int l2), .val (.int d0), .val (.int d1), .val (.int k1), .val (.int k2), .val (.int kind), .val (.ref a48), .val (.ref a49), .val (.ref a51), .val (.ref a55), .unset, .unset] [(.int (0 : Int32))])
                (try simp only [if_pos hr1, if_neg hr2, if_neg hr5] at hJ207 ⊢)
                exact hJ207
              · have hr5 : c0 = d0 := Classical.not_not.mp hr5
                show Goes _ _ _ _ T57 (mkF m 227 #[.val (.int i0), .val (.int i1), .val (.int i2), .val (.int bb), .val (.int l1), .val (.int c0), .val (.int c1), .val (.int l2), .val (.int d0), .val (.int d1), .val (.int k1), .val (.int k2), .val (.int kind), .val (.ref a48), .val (.ref a49), .val (.ref a51), .val (.ref a55), .unset, .unset] [])
                refine Goes.go (fun _ k => XS.iload X57.here X57.ex rfl (hb hby at_227) rfl (XS.iconst X57.here X57.ex rfl (hb hby at_229) k)) ?_
                show Goes _ _ _ _ T57 (mkF m 230 #[.val (.int i0), .val (.int i1), .val (.int i2), .val (.int bb), .val (.int l1), .val (.int c0), .val (.int c1), .val (.int l2), .val (.int d0), .val (.int d1), .val (.int k1), .val (.int k2), .val (.int kind), .val (.ref a48), .val (.ref a49), .val (.ref a51), .val (.ref a55), .unset, .unset] [(.int (2 : Int32)), (.int l1)])
                refine Goes.icmp (pc' := 240) X57.here X57.ex (hb hby at_230) (by decide) (by decide) (fun hr6 => ?_) (fun hr6 => ?_)
                · have hr6 : l1 < (2 : Int32) := hr6
                  show Goes _ _ _ _ T57 (mkF m 240 #[.val (.int i0), .val (.int i1), .val (.int i2), .val (.int bb), .val (.int l1), .val (.int c0), .val (.int c1), .val (.int l2), .val (.int d0), .val (.int d1), .val (.int k1), .val (.int k2), .val (.int kind), .val (.ref a48), .val (.ref a49), .val (.ref a51), .val (.ref a55), .unset, .unset] [])
                  refine Goes.go (fun _ k => XS.iconst X57.here X57.ex rfl (hb hby at_240) (XS.goto X57.here X57.ex rfl (pc0 := 241) (pc' := 245) rfl (hb hby at_241) (by decide) (by decide) k)) ?_
                  show Goes _ _ _ _ T57 (mkF m 245 #[.val (.int i0), .val (.int i1), .val (.int i2), .val (.int bb), .val (.int l1), .val (.int c0), .val (.int c1), .val (.int l2), .val (.int d0), .val (.int d1), .val (.int k1), .val (.int k2), .val (.int kind), .val (.ref a48), .val (.ref a49), .val (.ref a51), .val (.ref a55), .unset, .unset] [(.int (1 : Int32))])
                  (try simp only [if_pos hr1, if_neg hr2, if_pos hr5, if_pos hr6] at hJ207 ⊢)
                  exact hJ207
                · have hr6 : ¬ (l1 < (2 : Int32)) := hr6
                  show Goes _ _ _ _ T57 (mkF m 233 #[.val (.int i0), .val (.int i1), .val (.int i2), .val (.int bb), .val (.int l1), .val (.int c0), .val (.int c1), .val (.int l2), .val (.int d0), .val (.int d1), .val (.int k1), .val (.int k2), .val (.int kind), .val (.ref a48), .val (.ref a49), .val (.ref a51), .val (.ref a55), .unset, .unset] [])
                  refine Goes.go (fun _ k => XS.iload X57.here X57.ex rfl (hb hby at_233) rfl (XS.iload X57.here X57.ex rfl (hb hby at_235) rfl k)) ?_
                  show Goes _ _ _ _ T57 (mkF m 237 #[.val (.int i0), .val (.int i1), .val (.int i2), .val (.int bb), .val (.int l1), .val (.int c0), .val (.int c1), .val (.int l2), .val (.int d0), .val (.int d1), .val (.int k1), .val (.int k2), .val (.int kind), .val (.ref a48), .val (.ref a49), .val (.ref a51), .val (.ref a55), .unset, .unset] [(.int d1), (.int c1)])
                  refine Goes.icmp (pc' := 244) X57.here X57.ex (hb hby at_237) (by decide) (by decide) (fun hr7 => ?_) (fun hr7 => ?_)
                  · have hr7 : ¬ (c1 = d1) := hr7
                    show Goes _ _ _ _ T57 (mkF m 244 #[.val (.int i0), .val (.int i1), .val (.int i2), .val (.int bb), .val (.int l1), .val (.int c0), .val (.int c1), .val (.int l2), .val (.int d0), .val (.int d1), .val (.int k1), .val (.int k2), .val (.int kind), .val (.ref a48), .val (.ref a49), .val (.ref a51), .val (.ref a55), .unset, .unset] [])
                    refine Goes.go (fun _ k => XS.iconst X57.here X57.ex rfl (hb hby at_244) k) ?_
                    show Goes _ _ _ _ T57 (mkF m 245 #[.val (.int i0), .val (.int i1), .val (.int i2), .val (.int bb), .val (.int l1), .val (.int c0), .val (.int c1), .val (.int l2), .val (.int d0), .val (.int d1), .val (.int k1), .val (.int k2), .val (.int kind), .val (.ref a48), .val (.ref a49), .val (.ref a51), .val (.ref a55), .unset, .unset] [(.int (0 : Int32))])
                    (try simp only [if_pos hr1, if_neg hr2, if_pos hr5, if_neg hr6, if_neg hr7] at hJ207 ⊢)
                    exact hJ207
                  · have hr7 : c1 = d1 := Classical.not_not.mp hr7
                    show Goes _ _ _ _ T57 (mkF m 240 #[.val (.int i0), .val (.int i1), .val (.int i2), .val (.int bb), .val (.int l1), .val (.int c0), .val (.int c1), .val (.int l2), .val (.int d0), .val (.int d1), .val (.int k1), .val (.int k2), .val (.int kind), .val (.ref a48), .val (.ref a49), .val (.ref a51), .val (.ref a55), .unset, .unset] [])
                    refine Goes.go (fun _ k => XS.iconst X57.here X57.ex rfl (hb hby at_240) (XS.goto X57.here X57.ex rfl (pc0 := 241) (pc' := 245) rfl (hb hby at_241) (by decide) (by decide) k)) ?_
                    show Goes _ _ _ _ T57 (mkF m 245 #[.val (.int i0), .val (.int i1), .val (.int i2), .val (.int bb), .val (.int l1), .val (.int c0), .val (.int c1), .val (.int l2), .val (.int d0), .val (.int d1), .val (.int k1), .val (.int k2), .val (.int kind), .val (.ref a48), .val (.ref a49), .val (.ref a51), .val (.ref a55), .unset, .unset] [(.int (1 : Int32))])
                    (try simp only [if_pos hr1, if_neg hr2, if_pos hr5, if_neg hr6, if_pos hr7] at hJ207 ⊢)
                    exact hJ207
        refine Goes.go (fun _ k => XS.istore X57.here X57.ex rfl (hb hby at_245) rfl (l' := #[.val (.int i0), .val (.int i1), .val (.int i2), .val (.int bb), .val (.int l1), .val (.int c0), .val (.int c1), .val (.int l2), .val (.int d0), .val (.int d1), .val (.int k1), .val (.int k2), .val (.int kind), .val (.ref a48), .val (.ref a49), .val (.ref a51), .val (.ref a55), .val (.int (if l1 = l2 then (if l1 < (1 : Int32) then (if l1 < (2 : Int32) then (1 : Int32) else (if c1 = d1 then (1 : Int32) else (0 : Int32))) else (if c0 = d0 then (if l1 < (2 : Int32) then (1 : Int32) else (if c1 = d1 then (1 : Int32) else (0 : Int32))) else (0 : Int32))) else (0 : Int32))), .unset]) rfl k) ?_
        show Goes _ _ _ _ T57 (mkF m 247 #[.val (.int i0), .val (.int i1), .val (.int i2), .val (.int bb), .val (.int l1), .val (.int c0), .val (.int c1), .val (.int l2), .val (.int d0), .val (.int d1), .val (.int k1), .val (.int k2), .val (.int kind), .val (.ref a48), .val (.ref a49), .val (.ref a51), .val (.ref a55), .val (.int (if l1 = l2 then (if l1 < (1 : Int32) then (if l1 < (2 : Int32) then (1 : Int32) else (if c1 = d1 then (1 : Int32) else (0 : Int32))) else (if c0 = d0 then (if l1 < (2 : Int32) then (1 : Int32) else (if c1 = d1 then (1 : Int32) else (0 : Int32))) else (0 : Int32))) else (0 : Int32))), .unset] [])
        suffices hJ247 : Goes p.tables e below (EndS Z s consts_1 room_1.cells room_1.slots (fun v h' => v = some (.int (1 : Int32)))) T57 (mkF m 264 #[.val (.int i0), .val (.int i1), .val (.int i2), .val (.int bb), .val (.int l1), .val (.int c0), .val (.int c1), .val (.int l2), .val (.int d0), .val (.int d1), .val (.int k1), .val (.int k2), .val (.int kind), .val (.ref a48), .val (.ref a49), .val (.ref a51), .val (.ref a55), .val (.int (if l1 = l2 then (if l1 < (1 : Int32) then (if l1 < (2 : Int32) then (1 : Int32) else (if c1 = d1 then (1 : Int32) else (0 : Int32))) else (if c0 = d0 then (if l1 < (2 : Int32) then (1 : Int32) else (if c1 = d1 then (1 : Int32) else (0 : Int32))) else (0 : Int32))) else (0 : Int32))), .unset] [(.int (if (if l1 = l2 then (if l1 < (1 : Int32) then (if l1 < (2 : Int32) then (1 : Int32) else (if c1 = d1 then (1 : Int32) else (0 : Int32))) else (if c0 = d0 then (if l1 < (2 : Int32) then (1 : Int32) else (if c1 = d1 then (1 : Int32) else (0 : Int32))) else (0 : Int32))) else (0 : Int32)) = (0 : Int32) then (0 : Int32) else (if k1 = k2 then (1 : Int32) else (0 : Int32))))]) by
          refine Goes.go (fun _ k => XS.iload X57.here X57.ex rfl (hb hby at_247) rfl k) ?_
          show Goes _ _ _ _ T57 (mkF m 249 #[.val (.int i0), .val (.int i1), .val (.int i2), .val (.int bb), .val (.int l1), .val (.int c0), .val (.int c1), .val (.int l2), .val (.int d0), .val (.int d1), .val (.int k1), .val (.int k2), .val (.int kind), .val (.ref a48), .val (.ref a49), .val (.ref a51), .val (.ref a55), .val (.int (if l1 = l2 then (if l1 < (1 : Int32) then (if l1 < (2 : Int32) then (1 : Int32) else (if c1 = d1 then (1 : Int32) else (0 : Int32))) else (if c0 = d0 then (if l1 < (2 : Int32) then (1 : Int32) else (if c1 = d1 then (1 : Int32) else (0 : Int32))) else (0 : Int32))) else (0 : Int32))), .unset] [(.int (if l1 = l2 then (if l1 < (1 : Int32) then (if l1 < (2 : Int32) then (1 : Int32) else (if c1 = d1 then (1 : Int32) else (0 : Int32))) else (if c0 = d0 then (if l1 < (2 : Int32) then (1 : Int32) else (if c1 = d1 then (1 : Int32) else (0 : Int32))) else (0 : Int32))) else (0 : Int32)))])
          refine Goes.ifc (pc' := 263) X57.here X57.ex (hb hby at_249) (by decide) (by decide) (fun hr1 => ?_) (fun hr1 => ?_)
          · have hr1 : (if l1 = l2 then (if l1 < (1 : Int32) then (if l1 < (2 : Int32) then (1 : Int32) else (if c1 = d1 then (1 : Int32) else (0 : Int32))) else (if c0 = d0 then (if l1 < (2 : Int32) then (1 : Int32) else (if c1 = d1 then (1 : Int32) else (0 : Int32))) else (0 : Int32))) else (0 : Int32)) = (0 : Int32) := hr1
            show Goes _ _ _ _ T57 (mkF m 263 #[.val (.int i0), .val (.int i1), .val (.int i2), .val (.int bb), .val (.int l1), .val (.int c0), .val (.int c1), .val (.int l2), .val (.int d0), .val (.int d1), .val (.int k1), .val (.int k2), .val (.int kind), .val (.ref a48), .val (.ref a49), .val (.ref a51), .val (.ref a55), .val (.int (if l1 = l2 then (if l1 < (1 : Int32) then (if l1 < (2 : Int32) then (1 : Int32) else (if c1 = d1 then (1 : Int32) else (0 : Int32))) else (if c0 = d0 then (if l1 < (2 : Int32) then (1 : Int32) else (if c1 = d1 then (1 : Int32) else (0 : Int32))) else (0 : Int32))) else (0 : Int32))), .unset] [])
            refine Goes.go (fun _ k => XS.iconst X57.here X57.ex rfl (hb hby at_263) k) ?_
            show Goes _ _ _ _ T57 (mkF m 264 #[.val (.int i0), .val (.int i1), .val (.int i2), .val (.int bb), .val (.int l1), .val (.int c0), .val (.int c1), .val (.int l2), .val (.int d0), .val (.int d1), .val (.int k1), .val (.int k2), .val (.int kind), .val (.ref a48), .val (.ref a49), .val (.ref a51), .val (.ref a55), .val (.int (if l1 = l2 then (if l1 < (1 : Int32) then (if l1 < (2 : Int32) then (1 : Int32) else (if c1 = d1 then (1 : Int32) else (0 : Int32))) else (if c0 = d0 then (if l1 < (2 : Int32) then (1 : Int32) else (if c1 = d1 then (1 : Int32) else (0 : Int32))) else (0 : Int32))) else (0 : Int32))), .unset] [(.int (0 : Int32))])
            (try simp only [if_pos hr1] at hJ247 ⊢)
            exact hJ247
          · have hr1 : ¬ ((if l1 = l2 then (if l1 < (1 : Int32) then (if l1 < (2 : Int32) then (1 : Int32) else (if c1 = d1 then (1 : Int32) else (0 : Int32))) else (if c0 = d0 then (if l1 < (2 : Int32) then (1 : Int32) else (if c1 = d1 then (1 : Int32) else (0 : Int32))) else (0 : Int32))) else (0 : Int32)) = (0 : Int32)) := hr1
            show Goes _ _ _ _ T57 (mkF m 252 #[.val (.int i0), .val (.int i1), .val (.int i2), .val (.int bb), .val (.int l1), .val (.int c0), .val (.int c1), .val (.int l2), .val (.int d0), .val (.int d1), .val (.int k1), .val (.int k2), .val (.int kind), .val (.ref a48), .val (.ref a49), .val (.ref a51), .val (.ref a55), .val (.int (if l1 = l2 then (if l1 < (1 : Int32) then (if l1 < (2 : Int32) then (1 : Int32) else (if c1 = d1 then (1 : Int32) else (0 : Int32))) else (if c0 = d0 then (if l1 < (2 : Int32) then (1 : Int32) else (if c1 = d1 then (1 : Int32) else (0 : Int32))) else (0 : Int32))) else (0 : Int32))), .unset] [])
            refine Goes.go (fun _ k => XS.iload X57.here X57.ex rfl (hb hby at_252) rfl (XS.iload X57.here X57.ex rfl (hb hby at_254) rfl k)) ?_
            show Goes _ _ _ _ T57 (mkF m 256 #[.val (.int i0), .val (.int i1), .val (.int i2), .val (.int bb), .val (.int l1), .val (.int c0), .val (.int c1), .val (.int l2), .val (.int d0), .val (.int d1), .val (.int k1), .val (.int k2), .val (.int kind), .val (.ref a48), .val (.ref a49), .val (.ref a51), .val (.ref a55), .val (.int (if l1 = l2 then (if l1 < (1 : Int32) then (if l1 < (2 : Int32) then (1 : Int32) else (if c1 = d1 then (1 : Int32) else (0 : Int32))) else (if c0 = d0 then (if l1 < (2 : Int32) then (1 : Int32) else (if c1 = d1 then (1 : Int32) else (0 : Int32))) else (0 : Int32))) else (0 : Int32))), .unset] [(.int k2), (.int k1)])
            refine Goes.icmp (pc' := 263) X57.here X57.ex (hb hby at_256) (by decide) (by decide) (fun hr2 => ?_) (fun hr2 => ?_)
            · have hr2 : ¬ (k1 = k2) := hr2
              show Goes _ _ _ _ T57 (mkF m 263 #[.val (.int i0), .val (.int i1), .val (.int i2), .val (.int bb), .val (.int l1), .val (.int c0), .val (.int c1), .val (.int l2), .val (.int d0), .val (.int d1), .val (.int k1), .val (.int k2), .val (.int kind), .val (.ref a48), .val (.ref a49), .val (.ref a51), .val (.ref a55), .val (.int (if l1 = l2 then (if l1 < (1 : Int32) then (if l1 < (2 : Int32) then (1 : Int32) else (if c1 = d1 then (1 : Int32) else (0 : Int32))) else (if c0 = d0 then (if l1 < (2 : Int32) then (1 : Int32) else (if c1 = d1 then (1 : Int32) else (0 : Int32))) else (0 : Int32))) else (0 : Int32))), .unset] [])
              refine Goes.go (fun _ k => XS.iconst X57.here X57.ex rfl (hb hby at_263) k) ?_
              show Goes _ _ _ _ T57 (mkF m 264 #[.val (.int i0), .val (.int i1), .val (.int i2), .val (.int bb), .val (.int l1), .val (.int c0), .val (.int c1), .val (.int l2), .val (.int d0), .val (.int d1), .val (.int k1), .val (.int k2), .val (.int kind), .val (.ref a48), .val (.ref a49), .val (.ref a51), .val (.ref a55), .val (.int (if l1 = l2 then (if l1 < (1 : Int32) then (if l1 < (2 : Int32) then (1 : Int32) else (if c1 = d1 then (1 : Int32) else (0 : Int32))) else (if c0 = d0 then (if l1 < (2 : Int32) then (1 : Int32) else (if c1 = d1 then (1 : Int32) else (0 : Int32))) else (0 : Int32))) else (0 : Int32))), .unset] [(.int (0 : Int32))])
              (try simp only [if_neg hr1, if_neg hr2] at hJ247 ⊢)
              exact hJ247
            · have hr2 : k1 = k2 := Classical.not_not.mp hr2
              show Goes _ _ _ _ T57 (mkF m 259 #[.val (.int i0), .val (.int i1), .val (.int i2), .val (.int bb), .val (.int l1), .val (.int c0), .val (.int c1), .val (.int l2), .val (.int d0), .val (.int d1), .val (.int k1), .val (.int k2), .val (.int kind), .val (.ref a48), .val (.ref a49), .val (.ref a51), .val (.ref a55), .val (.int (if l1 = l2 then (if l1 < (1 : Int32) then (if l1 < (2 : Int32) then (1 : Int32) else (if c1 = d1 then (1 : Int32) else (0 : Int32))) else (if c0 = d0 then (if l1 < (2 : Int32) then (1 : Int32) else (if c1 = d1 then (1 : Int32) else (0 : Int32))) else (0 : Int32))) else (0 : Int32))), .unset] [])
              refine Goes.go (fun _ k => XS.iconst X57.here X57.ex rfl (hb hby at_259) (XS.goto X57.here X57.ex rfl (pc0 := 260) (pc' := 264) rfl (hb hby at_260) (by decide) (by decide) k)) ?_
              show Goes _ _ _ _ T57 (mkF m 264 #[.val (.int i0), .val (.int i1), .val (.int i2), .val (.int bb), .val (.int l1), .val (.int c0), .val (.int c1), .val (.int l2), .val (.int d0), .val (.int d1), .val (.int k1), .val (.int k2), .val (.int kind), .val (.ref a48), .val (.ref a49), .val (.ref a51), .val (.ref a55), .val (.int (if l1 = l2 then (if l1 < (1 : Int32) then (if l1 < (2 : Int32) then (1 : Int32) else (if c1 = d1 then (1 : Int32) else (0 : Int32))) else (if c0 = d0 then (if l1 < (2 : Int32) then (1 : Int32) else (if c1 = d1 then (1 : Int32) else (0 : Int32))) else (0 : Int32))) else (0 : Int32))), .unset] [(.int (1 : Int32))])
              (try simp only [if_neg hr1, if_pos hr2] at hJ247 ⊢)
              exact hJ247
        refine Goes.go (fun _ k => XS.istore X57.here X57.ex rfl (hb hby at_264) rfl (l' := #[.val (.int i0), .val (.int i1), .val (.int i2), .val (.int bb), .val (.int l1), .val (.int c0), .val (.int c1), .val (.int l2), .val (.int d0), .val (.int d1), .val (.int k1), .val (.int k2), .val (.int kind), .val (.ref a48), .val (.ref a49), .val (.ref a51), .val (.ref a55), .val (.int (if l1 = l2 then (if l1 < (1 : Int32) then (if l1 < (2 : Int32) then (1 : Int32) else (if c1 = d1 then (1 : Int32) else (0 : Int32))) else (if c0 = d0 then (if l1 < (2 : Int32) then (1 : Int32) else (if c1 = d1 then (1 : Int32) else (0 : Int32))) else (0 : Int32))) else (0 : Int32))), .val (.int (if (if l1 = l2 then (if l1 < (1 : Int32) then (if l1 < (2 : Int32) then (1 : Int32) else (if c1 = d1 then (1 : Int32) else (0 : Int32))) else (if c0 = d0 then (if l1 < (2 : Int32) then (1 : Int32) else (if c1 = d1 then (1 : Int32) else (0 : Int32))) else (0 : Int32))) else (0 : Int32)) = (0 : Int32) then (0 : Int32) else (if k1 = k2 then (1 : Int32) else (0 : Int32))))]) rfl (XS.aload X57.here X57.ex rfl (hb hby at_266) rfl rfl (XS.aload X57.here X57.ex rfl (hb hby at_268) rfl rfl k))) ?_
        show Goes _ _ _ _ T57 (mkF m 270 #[.val (.int i0), .val (.int i1), .val (.int i2), .val (.int bb), .val (.int l1), .val (.int c0), .val (.int c1), .val (.int l2), .val (.int d0), .val (.int d1), .val (.int k1), .val (.int k2), .val (.int kind), .val (.ref a48), .val (.ref a49), .val (.ref a51), .val (.ref a55), .val (.int (if l1 = l2 then (if l1 < (1 : Int32) then (if l1 < (2 : Int32) then (1 : Int32) else (if c1 = d1 then (1 : Int32) else (0 : Int32))) else (if c0 = d0 then (if l1 < (2 : Int32) then (1 : Int32) else (if c1 = d1 then (1 : Int32) else (0 : Int32))) else (0 : Int32))) else (0 : Int32))), .val (.int (if (if l1 = l2 then (if l1 < (1 : Int32) then (if l1 < (2 : Int32) then (1 : Int32) else (if c1 = d1 then (1 : Int32) else (0 : Int32))) else (if c0 = d0 then (if l1 < (2 : Int32) then (1 : Int32) else (if c1 = d1 then (1 : Int32) else (0 : Int32))) else (0 : Int32))) else (0 : Int32)) = (0 : Int32) then (0 : Int32) else (if k1 = k2 then (1 : Int32) else (0 : Int32))))] [(.ref a55), (.ref a51)])
        have hpl := own_plain l1 l2 c0 c1 d0 d1 k1 k2 p_PATH p_QUERY p_HEADER p_COOKIE r_l1 r_l2 r_k1 r_k2 n01 n02 n03 n12 n13 n23
        refine Wk.virtual (hm' := fun _ => h57) (C := "com/example/matchmaker/matchmaker/registry/Parameter") (y := (⟨"com/example/matchmaker/matchmaker/registry/Parameter", "equals", "(Ljava/lang/Object;)Z"⟩ : MethodName)) (z := (⟨"com/example/matchmaker/matchmaker/registry/Parameter", "equals", "(Ljava/lang/Object;)Z"⟩ : MethodName)) (W := 0) (kc := 0) (ks := 0) (argsL := [(.ref a55)]) (rest := []) (as' := #[(.ref a51), (.ref a55)]) (ws := []) X57 (w_54 hw) (w_55 hw) (w_57 hw) (w_56 hw) (by decide) Ex53 (nf_sel (w_57 hw)) (CtrN.pays (own_eq l Z a0 hw h57 X57.old a51 a55 a48 a49 _ _ _ _ G1 O2 P5 Ex57 Fi53 Fi57 Fo53 Fo57 S48 S49) (w_58 hw) (w_28 hw) (by decide) (by decide)) (fun v h' L q => ⟨q.2, q.1.1⟩) all0 (fun _ => Mark.stay all0) rfl (by rw [hml]; rfl) (lenOf pd_3 rfl) rfl rfl (by show 2 * 0 + _ ≤ _; exact Nat.le_of_eq rfl) (hb hby at_270) (by decide) (by decide) ?_
        intro T58 h58 v58 L58 X58 q58 K58
        obtain ⟨⟨-, hE58⟩, -⟩ := q58
        replace S48 := S48.ext K58.oExt
        replace S49 := S49.ext K58.oExt
        replace Ex53 := Ex53.ext K58.oExt
        replace Fi53 := Fi53.ext K58.oExt
        replace Fo53 := Fo53.ext K58.oExt
        replace Ex57 := Ex57.ext K58.oExt
        replace Fi57 := Fi57.ext K58.oExt
        replace Fo57 := Fo57.ext K58.oExt
        rcases hE58 with ⟨rfl, hq⟩ | ⟨rfl, hq⟩
        · show Goes _ _ _ _ T58 (mkF m 273 #[.val (.int i0), .val (.int i1), .val (.int i2), .val (.int bb), .val (.int l1), .val (.int c0), .val (.int c1), .val (.int l2), .val (.int d0), .val (.int d1), .val (.int k1), .val (.int k2), .val (.int kind), .val (.ref a48), .val (.ref a49), .val (.ref a51), .val (.ref a55), .val (.int (if l1 = l2 then (if l1 < (1 : Int32) then (if l1 < (2 : Int32) then (1 : Int32) else (if c1 = d1 then (1 : Int32) else (0 : Int32))) else (if c0 = d0 then (if l1 < (2 : Int32) then (1 : Int32) else (if c1 = d1 then (1 : Int32) else (0 : Int32))) else (0 : Int32))) else (0 : Int32))), .val (.int (if (if l1 = l2 then (if l1 < (1 : Int32) then (if l1 < (2 : Int32) then (1 : Int32) else (if c1 = d1 then (1 : Int32) else (0 : Int32))) else (if c0 = d0 then (if l1 < (2 : Int32) then (1 : Int32) else (if c1 = d1 then (1 : Int32) else (0 : Int32))) else (0 : Int32))) else (0 : Int32)) = (0 : Int32) then (0 : Int32) else (if k1 = k2 then (1 : Int32) else (0 : Int32))))] [(.int (1 : Int32))])
          have hp1 := hpl; rw [if_pos hq] at hp1
          refine Goes.go (fun _ k => XS.iload X58.here X58.ex rfl (hb hby at_273) rfl k) ?_
          show Goes _ _ _ _ T58 (mkF m 275 #[.val (.int i0), .val (.int i1), .val (.int i2), .val (.int bb), .val (.int l1), .val (.int c0), .val (.int c1), .val (.int l2), .val (.int d0), .val (.int d1), .val (.int k1), .val (.int k2), .val (.int kind), .val (.ref a48), .val (.ref a49), .val (.ref a51), .val (.ref a55), .val (.int (if l1 = l2 then (if l1 < (1 : Int32) then (if l1 < (2 : Int32) then (1 : Int32) else (if c1 = d1 then (1 : Int32) else (0 : Int32))) else (if c0 = d0 then (if l1 < (2 : Int32) then (1 : Int32) else (if c1 = d1 then (1 : Int32) else (0 : Int32))) else (0 : Int32))) else (0 : Int32))), .val (.int (if (if l1 = l2 then (if l1 < (1 : Int32) then (if l1 < (2 : Int32) then (1 : Int32) else (if c1 = d1 then (1 : Int32) else (0 : Int32))) else (if c0 = d0 then (if l1 < (2 : Int32) then (1 : Int32) else (if c1 = d1 then (1 : Int32) else (0 : Int32))) else (0 : Int32))) else (0 : Int32)) = (0 : Int32) then (0 : Int32) else (if k1 = k2 then (1 : Int32) else (0 : Int32))))] [(.int (if (if l1 = l2 then (if l1 < (1 : Int32) then (if l1 < (2 : Int32) then (1 : Int32) else (if c1 = d1 then (1 : Int32) else (0 : Int32))) else (if c0 = d0 then (if l1 < (2 : Int32) then (1 : Int32) else (if c1 = d1 then (1 : Int32) else (0 : Int32))) else (0 : Int32))) else (0 : Int32)) = (0 : Int32) then (0 : Int32) else (if k1 = k2 then (1 : Int32) else (0 : Int32)))), (.int (1 : Int32))])
          refine Goes.go (fun _ k => XS.icmpNo X58.here X58.ex rfl (hb hby at_275) rfl (cd_f (cd := .ne) (x := (1 : Int32)) (y := (if (if l1 = l2 then (if l1 < (1 : Int32) then (if l1 < (2 : Int32) then (1 : Int32) else (if c1 = d1 then (1 : Int32) else (0 : Int32))) else (if c0 = d0 then (if l1 < (2 : Int32) then (1 : Int32) else (if c1 = d1 then (1 : Int32) else (0 : Int32))) else (0 : Int32))) else (0 : Int32)) = (0 : Int32) then (0 : Int32) else (if k1 = k2 then (1 : Int32) else (0 : Int32)))) ((fun q => absurd (hp1.symm) q))) k) ?_
          show Goes _ _ _ _ T58 (mkF m 278 #[.val (.int i0), .val (.int i1), .val (.int i2), .val (.int bb), .val (.int l1), .val (.int c0), .val (.int c1), .val (.int l2), .val (.int d0), .val (.int d1), .val (.int k1), .val (.int k2), .val (.int kind), .val (.ref a48), .val (.ref a49), .val (.ref a51), .val (.ref a55), .val (.int (if l1 = l2 then (if l1 < (1 : Int32) then (if l1 < (2 : Int32) then (1 : Int32) else (if c1 = d1 then (1 : Int32) else (0 : Int32))) else (if c0 = d0 then (if l1 < (2 : Int32) then (1 : Int32) else (if c1 = d1 then (1 : Int32) else (0 : Int32))) else (0 : Int32))) else (0 : Int32))), .val (.int (if (if l1 = l2 then (if l1 < (1 : Int32) then (if l1 < (2 : Int32) then (1 : Int32) else (if c1 = d1 then (1 : Int32) else (0 : Int32))) else (if c0 = d0 then (if l1 < (2 : Int32) then (1 : Int32) else (if c1 = d1 then (1 : Int32) else (0 : Int32))) else (0 : Int32))) else (0 : Int32)) = (0 : Int32) then (0 : Int32) else (if k1 = k2 then (1 : Int32) else (0 : Int32))))] [])
          refine Goes.go (fun _ k => XS.aload X58.here X58.ex rfl (hb hby at_278) rfl rfl (XS.aload X58.here X58.ex rfl (hb hby at_280) rfl rfl k)) ?_
          show Goes _ _ _ _ T58 (mkF m 282 #[.val (.int i0), .val (.int i1), .val (.int i2), .val (.int bb), .val (.int l1), .val (.int c0), .val (.int c1), .val (.int l2), .val (.int d0), .val (.int d1), .val (.int k1), .val (.int k2), .val (.int kind), .val (.ref a48), .val (.ref a49), .val (.ref a51), .val (.ref a55), .val (.int (if l1 = l2 then (if l1 < (1 : Int32) then (if l1 < (2 : Int32) then (1 : Int32) else (if c1 = d1 then (1 : Int32) else (0 : Int32))) else (if c0 = d0 then (if l1 < (2 : Int32) then (1 : Int32) else (if c1 = d1 then (1 : Int32) else (0 : Int32))) else (0 : Int32))) else (0 : Int32))), .val (.int (if (if l1 = l2 then (if l1 < (1 : Int32) then (if l1 < (2 : Int32) then (1 : Int32) else (if c1 = d1 then (1 : Int32) else (0 : Int32))) else (if c0 = d0 then (if l1 < (2 : Int32) then (1 : Int32) else (if c1 = d1 then (1 : Int32) else (0 : Int32))) else (0 : Int32))) else (0 : Int32)) = (0 : Int32) then (0 : Int32) else (if k1 = k2 then (1 : Int32) else (0 : Int32))))] [(.ref a51), (.ref a55)])
          refine Wk.virtual (hm' := fun _ => h57) (C := "com/example/matchmaker/matchmaker/registry/Parameter") (y := (⟨"com/example/matchmaker/matchmaker/registry/Parameter", "equals", "(Ljava/lang/Object;)Z"⟩ : MethodName)) (z := (⟨"com/example/matchmaker/matchmaker/registry/Parameter", "equals", "(Ljava/lang/Object;)Z"⟩ : MethodName)) (W := 0) (kc := 0) (ks := 0) (argsL := [(.ref a51)]) (rest := []) (as' := #[(.ref a55), (.ref a51)]) (ws := []) X58 (w_54 hw) (w_55 hw) (w_57 hw) (w_56 hw) (by decide) Ex57 (nf_sel (w_57 hw)) (CtrN.pays (own_eq l Z a0 hw h58 X58.old a55 a51 a49 a48 _ _ _ _ G1 O2 P5 Ex53 Fi57 Fi53 Fo57 Fo53 S49 S48) (w_58 hw) (w_28 hw) (by decide) (by decide)) (fun v h' L q => ⟨q.2, q.1.1⟩) all0 (fun _ => Mark.stay all0) rfl (by rw [hml]; rfl) (lenOf pd_3 rfl) rfl rfl (by show 2 * 0 + _ ≤ _; exact Nat.le_of_eq rfl) (hb hby at_282) (by decide) (by decide) ?_
          intro T59 h59 v59 L59 X59 q59 K59
          obtain ⟨⟨-, hE59⟩, -⟩ := q59
          replace S48 := S48.ext K59.oExt
          replace S49 := S49.ext K59.oExt
          replace Ex53 := Ex53.ext K59.oExt
          replace Fi53 := Fi53.ext K59.oExt
          replace Fo53 := Fo53.ext K59.oExt
          replace Ex57 := Ex57.ext K59.oExt
          replace Fi57 := Fi57.ext K59.oExt
          replace Fo57 := Fo57.ext K59.oExt
          rcases hE59 with ⟨rfl, hq2⟩ | ⟨rfl, hq2⟩
          · show Goes _ _ _ _ T59 (mkF m 285 #[.val (.int i0), .val (.int i1), .val (.int i2), .val (.int bb), .val (.int l1), .val (.int c0), .val (.int c1), .val (.int l2), .val (.int d0), .val (.int d1), .val (.int k1), .val (.int k2), .val (.int kind), .val (.ref a48), .val (.ref a49), .val (.ref a51), .val (.ref a55), .val (.int (if l1 = l2 then (if l1 < (1 : Int32) then (if l1 < (2 : Int32) then (1 : Int32) else (if c1 = d1 then (1 : Int32) else (0 : Int32))) else (if c0 = d0 then (if l1 < (2 : Int32) then (1 : Int32) else (if c1 = d1 then (1 : Int32) else (0 : Int32))) else (0 : Int32))) else (0 : Int32))), .val (.int (if (if l1 = l2 then (if l1 < (1 : Int32) then (if l1 < (2 : Int32) then (1 : Int32) else (if c1 = d1 then (1 : Int32) else (0 : Int32))) else (if c0 = d0 then (if l1 < (2 : Int32) then (1 : Int32) else (if c1 = d1 then (1 : Int32) else (0 : Int32))) else (0 : Int32))) else (0 : Int32)) = (0 : Int32) then (0 : Int32) else (if k1 = k2 then (1 : Int32) else (0 : Int32))))] [(.int (1 : Int32))])
            refine Goes.go (fun _ k => XS.iload X59.here X59.ex rfl (hb hby at_285) rfl k) ?_
            show Goes _ _ _ _ T59 (mkF m 287 #[.val (.int i0), .val (.int i1), .val (.int i2), .val (.int bb), .val (.int l1), .val (.int c0), .val (.int c1), .val (.int l2), .val (.int d0), .val (.int d1), .val (.int k1), .val (.int k2), .val (.int kind), .val (.ref a48), .val (.ref a49), .val (.ref a51), .val (.ref a55), .val (.int (if l1 = l2 then (if l1 < (1 : Int32) then (if l1 < (2 : Int32) then (1 : Int32) else (if c1 = d1 then (1 : Int32) else (0 : Int32))) else (if c0 = d0 then (if l1 < (2 : Int32) then (1 : Int32) else (if c1 = d1 then (1 : Int32) else (0 : Int32))) else (0 : Int32))) else (0 : Int32))), .val (.int (if (if l1 = l2 then (if l1 < (1 : Int32) then (if l1 < (2 : Int32) then (1 : Int32) else (if c1 = d1 then (1 : Int32) else (0 : Int32))) else (if c0 = d0 then (if l1 < (2 : Int32) then (1 : Int32) else (if c1 = d1 then (1 : Int32) else (0 : Int32))) else (0 : Int32))) else (0 : Int32)) = (0 : Int32) then (0 : Int32) else (if k1 = k2 then (1 : Int32) else (0 : Int32))))] [(.int (if (if l1 = l2 then (if l1 < (1 : Int32) then (if l1 < (2 : Int32) then (1 : Int32) else (if c1 = d1 then (1 : Int32) else (0 : Int32))) else (if c0 = d0 then (if l1 < (2 : Int32) then (1 : Int32) else (if c1 = d1 then (1 : Int32) else (0 : Int32))) else (0 : Int32))) else (0 : Int32)) = (0 : Int32) then (0 : Int32) else (if k1 = k2 then (1 : Int32) else (0 : Int32)))), (.int (1 : Int32))])
            refine Goes.go (fun _ k => XS.icmpNo X59.here X59.ex rfl (hb hby at_287) rfl (cd_f (cd := .ne) (x := (1 : Int32)) (y := (if (if l1 = l2 then (if l1 < (1 : Int32) then (if l1 < (2 : Int32) then (1 : Int32) else (if c1 = d1 then (1 : Int32) else (0 : Int32))) else (if c0 = d0 then (if l1 < (2 : Int32) then (1 : Int32) else (if c1 = d1 then (1 : Int32) else (0 : Int32))) else (0 : Int32))) else (0 : Int32)) = (0 : Int32) then (0 : Int32) else (if k1 = k2 then (1 : Int32) else (0 : Int32)))) ((fun q => absurd (hp1.symm) q))) k) ?_
            show Goes _ _ _ _ T59 (mkF m 290 #[.val (.int i0), .val (.int i1), .val (.int i2), .val (.int bb), .val (.int l1), .val (.int c0), .val (.int c1), .val (.int l2), .val (.int d0), .val (.int d1), .val (.int k1), .val (.int k2), .val (.int kind), .val (.ref a48), .val (.ref a49), .val (.ref a51), .val (.ref a55), .val (.int (if l1 = l2 then (if l1 < (1 : Int32) then (if l1 < (2 : Int32) then (1 : Int32) else (if c1 = d1 then (1 : Int32) else (0 : Int32))) else (if c0 = d0 then (if l1 < (2 : Int32) then (1 : Int32) else (if c1 = d1 then (1 : Int32) else (0 : Int32))) else (0 : Int32))) else (0 : Int32))), .val (.int (if (if l1 = l2 then (if l1 < (1 : Int32) then (if l1 < (2 : Int32) then (1 : Int32) else (if c1 = d1 then (1 : Int32) else (0 : Int32))) else (if c0 = d0 then (if l1 < (2 : Int32) then (1 : Int32) else (if c1 = d1 then (1 : Int32) else (0 : Int32))) else (0 : Int32))) else (0 : Int32)) = (0 : Int32) then (0 : Int32) else (if k1 = k2 then (1 : Int32) else (0 : Int32))))] [])
            refine Goes.go (fun _ k => XS.iconst X59.here X59.ex rfl (hb hby at_290) (XS.goto X59.here X59.ex rfl (pc0 := 291) (pc' := 295) rfl (hb hby at_291) (by decide) (by decide) k)) ?_
            show Goes _ _ _ _ T59 (mkF m 295 #[.val (.int i0), .val (.int i1), .val (.int i2), .val (.int bb), .val (.int l1), .val (.int c0), .val (.int c1), .val (.int l2), .val (.int d0), .val (.int d1), .val (.int k1), .val (.int k2), .val (.int kind), .val (.ref a48), .val (.ref a49), .val (.ref a51), .val (.ref a55), .val (.int (if l1 = l2 then (if l1 < (1 : Int32) then (if l1 < (2 : Int32) then (1 : Int32) else (if c1 = d1 then (1 : Int32) else (0 : Int32))) else (if c0 = d0 then (if l1 < (2 : Int32) then (1 : Int32) else (if c1 = d1 then (1 : Int32) else (0 : Int32))) else (0 : Int32))) else (0 : Int32))), .val (.int (if (if l1 = l2 then (if l1 < (1 : Int32) then (if l1 < (2 : Int32) then (1 : Int32) else (if c1 = d1 then (1 : Int32) else (0 : Int32))) else (if c0 = d0 then (if l1 < (2 : Int32) then (1 : Int32) else (if c1 = d1 then (1 : Int32) else (0 : Int32))) else (0 : Int32))) else (0 : Int32)) = (0 : Int32) then (0 : Int32) else (if k1 = k2 then (1 : Int32) else (0 : Int32))))] [(.int (1 : Int32))])
            refine Goes.outS X59 hEL (fun q => by rw [hret] at q; cases q) hlk (X59.rB hret (by simp) (hb hby at_295)) ?_ (by decide) (by decide)
            exact rfl
          · show Goes _ _ _ _ T59 (mkF m 285 #[.val (.int i0), .val (.int i1), .val (.int i2), .val (.int bb), .val (.int l1), .val (.int c0), .val (.int c1), .val (.int l2), .val (.int d0), .val (.int d1), .val (.int k1), .val (.int k2), .val (.int kind), .val (.ref a48), .val (.ref a49), .val (.ref a51), .val (.ref a55), .val (.int (if l1 = l2 then (if l1 < (1 : Int32) then (if l1 < (2 : Int32) then (1 : Int32) else (if c1 = d1 then (1 : Int32) else (0 : Int32))) else (if c0 = d0 then (if l1 < (2 : Int32) then (1 : Int32) else (if c1 = d1 then (1 : Int32) else (0 : Int32))) else (0 : Int32))) else (0 : Int32))), .val (.int (if (if l1 = l2 then (if l1 < (1 : Int32) then (if l1 < (2 : Int32) then (1 : Int32) else (if c1 = d1 then (1 : Int32) else (0 : Int32))) else (if c0 = d0 then (if l1 < (2 : Int32) then (1 : Int32) else (if c1 = d1 then (1 : Int32) else (0 : Int32))) else (0 : Int32))) else (0 : Int32)) = (0 : Int32) then (0 : Int32) else (if k1 = k2 then (1 : Int32) else (0 : Int32))))] [(.int (0 : Int32))])
            exact absurd ⟨hq.1.symm, hq.2.symm⟩ hq2
        · show Goes _ _ _ _ T58 (mkF m 273 #[.val (.int i0), .val (.int i1), .val (.int i2), .val (.int bb), .val (.int l1), .val (.int c0), .val (.int c1), .val (.int l2), .val (.int d0), .val (.int d1), .val (.int k1), .val (.int k2), .val (.int kind), .val (.ref a48), .val (.ref a49), .val (.ref a51), .val (.ref a55), .val (.int (if l1 = l2 then (if l1 < (1 : Int32) then (if l1 < (2 : Int32) then (1 : Int32) else (if c1 = d1 then (1 : Int32) else (0 : Int32))) else (if c0 = d0 then (if l1 < (2 : Int32) then (1 : Int32) else (if c1 = d1 then (1 : Int32) else (0 : Int32))) else (0 : Int32))) else (0 : Int32))), .val (.int (if (if l1 = l2 then (if l1 < (1 : Int32) then (if l1 < (2 : Int32) then (1 : Int32) else (if c1 = d1 then (1 : Int32) else (0 : Int32))) else (if c0 = d0 then (if l1 < (2 : Int32) then (1 : Int32) else (if c1 = d1 then (1 : Int32) else (0 : Int32))) else (0 : Int32))) else (0 : Int32)) = (0 : Int32) then (0 : Int32) else (if k1 = k2 then (1 : Int32) else (0 : Int32))))] [(.int (0 : Int32))])
          have hp1 := hpl; rw [if_neg hq] at hp1
          refine Goes.go (fun _ k => XS.iload X58.here X58.ex rfl (hb hby at_273) rfl k) ?_
          show Goes _ _ _ _ T58 (mkF m 275 #[.val (.int i0), .val (.int i1), .val (.int i2), .val (.int bb), .val (.int l1), .val (.int c0), .val (.int c1), .val (.int l2), .val (.int d0), .val (.int d1), .val (.int k1), .val (.int k2), .val (.int kind), .val (.ref a48), .val (.ref a49), .val (.ref a51), .val (.ref a55), .val (.int (if l1 = l2 then (if l1 < (1 : Int32) then (if l1 < (2 : Int32) then (1 : Int32) else (if c1 = d1 then (1 : Int32) else (0 : Int32))) else (if c0 = d0 then (if l1 < (2 : Int32) then (1 : Int32) else (if c1 = d1 then (1 : Int32) else (0 : Int32))) else (0 : Int32))) else (0 : Int32))), .val (.int (if (if l1 = l2 then (if l1 < (1 : Int32) then (if l1 < (2 : Int32) then (1 : Int32) else (if c1 = d1 then (1 : Int32) else (0 : Int32))) else (if c0 = d0 then (if l1 < (2 : Int32) then (1 : Int32) else (if c1 = d1 then (1 : Int32) else (0 : Int32))) else (0 : Int32))) else (0 : Int32)) = (0 : Int32) then (0 : Int32) else (if k1 = k2 then (1 : Int32) else (0 : Int32))))] [(.int (if (if l1 = l2 then (if l1 < (1 : Int32) then (if l1 < (2 : Int32) then (1 : Int32) else (if c1 = d1 then (1 : Int32) else (0 : Int32))) else (if c0 = d0 then (if l1 < (2 : Int32) then (1 : Int32) else (if c1 = d1 then (1 : Int32) else (0 : Int32))) else (0 : Int32))) else (0 : Int32)) = (0 : Int32) then (0 : Int32) else (if k1 = k2 then (1 : Int32) else (0 : Int32)))), (.int (0 : Int32))])
          refine Goes.go (fun _ k => XS.icmpNo X58.here X58.ex rfl (hb hby at_275) rfl (cd_f (cd := .ne) (x := (0 : Int32)) (y := (if (if l1 = l2 then (if l1 < (1 : Int32) then (if l1 < (2 : Int32) then (1 : Int32) else (if c1 = d1 then (1 : Int32) else (0 : Int32))) else (if c0 = d0 then (if l1 < (2 : Int32) then (1 : Int32) else (if c1 = d1 then (1 : Int32) else (0 : Int32))) else (0 : Int32))) else (0 : Int32)) = (0 : Int32) then (0 : Int32) else (if k1 = k2 then (1 : Int32) else (0 : Int32)))) ((fun q => absurd (hp1.symm) q))) k) ?_
          show Goes _ _ _ _ T58 (mkF m 278 #[.val (.int i0), .val (.int i1), .val (.int i2), .val (.int bb), .val (.int l1), .val (.int c0), .val (.int c1), .val (.int l2), .val (.int d0), .val (.int d1), .val (.int k1), .val (.int k2), .val (.int kind), .val (.ref a48), .val (.ref a49), .val (.ref a51), .val (.ref a55), .val (.int (if l1 = l2 then (if l1 < (1 : Int32) then (if l1 < (2 : Int32) then (1 : Int32) else (if c1 = d1 then (1 : Int32) else (0 : Int32))) else (if c0 = d0 then (if l1 < (2 : Int32) then (1 : Int32) else (if c1 = d1 then (1 : Int32) else (0 : Int32))) else (0 : Int32))) else (0 : Int32))), .val (.int (if (if l1 = l2 then (if l1 < (1 : Int32) then (if l1 < (2 : Int32) then (1 : Int32) else (if c1 = d1 then (1 : Int32) else (0 : Int32))) else (if c0 = d0 then (if l1 < (2 : Int32) then (1 : Int32) else (if c1 = d1 then (1 : Int32) else (0 : Int32))) else (0 : Int32))) else (0 : Int32)) = (0 : Int32) then (0 : Int32) else (if k1 = k2 then (1 : Int32) else (0 : Int32))))] [])
          refine Goes.go (fun _ k => XS.aload X58.here X58.ex rfl (hb hby at_278) rfl rfl (XS.aload X58.here X58.ex rfl (hb hby at_280) rfl rfl k)) ?_
          show Goes _ _ _ _ T58 (mkF m 282 #[.val (.int i0), .val (.int i1), .val (.int i2), .val (.int bb), .val (.int l1), .val (.int c0), .val (.int c1), .val (.int l2), .val (.int d0), .val (.int d1), .val (.int k1), .val (.int k2), .val (.int kind), .val (.ref a48), .val (.ref a49), .val (.ref a51), .val (.ref a55), .val (.int (if l1 = l2 then (if l1 < (1 : Int32) then (if l1 < (2 : Int32) then (1 : Int32) else (if c1 = d1 then (1 : Int32) else (0 : Int32))) else (if c0 = d0 then (if l1 < (2 : Int32) then (1 : Int32) else (if c1 = d1 then (1 : Int32) else (0 : Int32))) else (0 : Int32))) else (0 : Int32))), .val (.int (if (if l1 = l2 then (if l1 < (1 : Int32) then (if l1 < (2 : Int32) then (1 : Int32) else (if c1 = d1 then (1 : Int32) else (0 : Int32))) else (if c0 = d0 then (if l1 < (2 : Int32) then (1 : Int32) else (if c1 = d1 then (1 : Int32) else (0 : Int32))) else (0 : Int32))) else (0 : Int32)) = (0 : Int32) then (0 : Int32) else (if k1 = k2 then (1 : Int32) else (0 : Int32))))] [(.ref a51), (.ref a55)])
          refine Wk.virtual (hm' := fun _ => h57) (C := "com/example/matchmaker/matchmaker/registry/Parameter") (y := (⟨"com/example/matchmaker/matchmaker/registry/Parameter", "equals", "(Ljava/lang/Object;)Z"⟩ : MethodName)) (z := (⟨"com/example/matchmaker/matchmaker/registry/Parameter", "equals", "(Ljava/lang/Object;)Z"⟩ : MethodName)) (W := 0) (kc := 0) (ks := 0) (argsL := [(.ref a51)]) (rest := []) (as' := #[(.ref a55), (.ref a51)]) (ws := []) X58 (w_54 hw) (w_55 hw) (w_57 hw) (w_56 hw) (by decide) Ex57 (nf_sel (w_57 hw)) (CtrN.pays (own_eq l Z a0 hw h58 X58.old a55 a51 a49 a48 _ _ _ _ G1 O2 P5 Ex53 Fi57 Fi53 Fo57 Fo53 S49 S48) (w_58 hw) (w_28 hw) (by decide) (by decide)) (fun v h' L q => ⟨q.2, q.1.1⟩) all0 (fun _ => Mark.stay all0) rfl (by rw [hml]; rfl) (lenOf pd_3 rfl) rfl rfl (by show 2 * 0 + _ ≤ _; exact Nat.le_of_eq rfl) (hb hby at_282) (by decide) (by decide) ?_
          intro T60 h60 v60 L60 X60 q60 K60
          obtain ⟨⟨-, hE60⟩, -⟩ := q60
          replace S48 := S48.ext K60.oExt
          replace S49 := S49.ext K60.oExt
          replace Ex53 := Ex53.ext K60.oExt
          replace Fi53 := Fi53.ext K60.oExt
          replace Fo53 := Fo53.ext K60.oExt
          replace Ex57 := Ex57.ext K60.oExt
          replace Fi57 := Fi57.ext K60.oExt
          replace Fo57 := Fo57.ext K60.oExt
          rcases hE60 with ⟨rfl, hq2⟩ | ⟨rfl, hq2⟩
          · show Goes _ _ _ _ T60 (mkF m 285 #[.val (.int i0), .val (.int i1), .val (.int i2), .val (.int bb), .val (.int l1), .val (.int c0), .val (.int c1), .val (.int l2), .val (.int d0), .val (.int d1), .val (.int k1), .val (.int k2), .val (.int kind), .val (.ref a48), .val (.ref a49), .val (.ref a51), .val (.ref a55), .val (.int (if l1 = l2 then (if l1 < (1 : Int32) then (if l1 < (2 : Int32) then (1 : Int32) else (if c1 = d1 then (1 : Int32) else (0 : Int32))) else (if c0 = d0 then (if l1 < (2 : Int32) then (1 : Int32) else (if c1 = d1 then (1 : Int32) else (0 : Int32))) else (0 : Int32))) else (0 : Int32))), .val (.int (if (if l1 = l2 then (if l1 < (1 : Int32) then (if l1 < (2 : Int32) then (1 : Int32) else (if c1 = d1 then (1 : Int32) else (0 : Int32))) else (if c0 = d0 then (if l1 < (2 : Int32) then (1 : Int32) else (if c1 = d1 then (1 : Int32) else (0 : Int32))) else (0 : Int32))) else (0 : Int32)) = (0 : Int32) then (0 : Int32) else (if k1 = k2 then (1 : Int32) else (0 : Int32))))] [(.int (1 : Int32))])
            exact absurd ⟨hq2.1.symm, hq2.2.symm⟩ hq
          · show Goes _ _ _ _ T60 (mkF m 285 #[.val (.int i0), .val (.int i1), .val (.int i2), .val (.int bb), .val (.int l1), .val (.int c0), .val (.int c1), .val (.int l2), .val (.int d0), .val (.int d1), .val (.int k1), .val (.int k2), .val (.int kind), .val (.ref a48), .val (.ref a49), .val (.ref a51), .val (.ref a55), .val (.int (if l1 = l2 then (if l1 < (1 : Int32) then (if l1 < (2 : Int32) then (1 : Int32) else (if c1 = d1 then (1 : Int32) else (0 : Int32))) else (if c0 = d0 then (if l1 < (2 : Int32) then (1 : Int32) else (if c1 = d1 then (1 : Int32) else (0 : Int32))) else (0 : Int32))) else (0 : Int32))), .val (.int (if (if l1 = l2 then (if l1 < (1 : Int32) then (if l1 < (2 : Int32) then (1 : Int32) else (if c1 = d1 then (1 : Int32) else (0 : Int32))) else (if c0 = d0 then (if l1 < (2 : Int32) then (1 : Int32) else (if c1 = d1 then (1 : Int32) else (0 : Int32))) else (0 : Int32))) else (0 : Int32)) = (0 : Int32) then (0 : Int32) else (if k1 = k2 then (1 : Int32) else (0 : Int32))))] [(.int (0 : Int32))])
            refine Goes.go (fun _ k => XS.iload X60.here X60.ex rfl (hb hby at_285) rfl k) ?_
            show Goes _ _ _ _ T60 (mkF m 287 #[.val (.int i0), .val (.int i1), .val (.int i2), .val (.int bb), .val (.int l1), .val (.int c0), .val (.int c1), .val (.int l2), .val (.int d0), .val (.int d1), .val (.int k1), .val (.int k2), .val (.int kind), .val (.ref a48), .val (.ref a49), .val (.ref a51), .val (.ref a55), .val (.int (if l1 = l2 then (if l1 < (1 : Int32) then (if l1 < (2 : Int32) then (1 : Int32) else (if c1 = d1 then (1 : Int32) else (0 : Int32))) else (if c0 = d0 then (if l1 < (2 : Int32) then (1 : Int32) else (if c1 = d1 then (1 : Int32) else (0 : Int32))) else (0 : Int32))) else (0 : Int32))), .val (.int (if (if l1 = l2 then (if l1 < (1 : Int32) then (if l1 < (2 : Int32) then (1 : Int32) else (if c1 = d1 then (1 : Int32) else (0 : Int32))) else (if c0 = d0 then (if l1 < (2 : Int32) then (1 : Int32) else (if c1 = d1 then (1 : Int32) else (0 : Int32))) else (0 : Int32))) else (0 : Int32)) = (0 : Int32) then (0 : Int32) else (if k1 = k2 then (1 : Int32) else (0 : Int32))))] [(.int (if (if l1 = l2 then (if l1 < (1 : Int32) then (if l1 < (2 : Int32) then (1 : Int32) else (if c1 = d1 then (1 : Int32) else (0 : Int32))) else (if c0 = d0 then (if l1 < (2 : Int32) then (1 : Int32) else (if c1 = d1 then (1 : Int32) else (0 : Int32))) else (0 : Int32))) else (0 : Int32)) = (0 : Int32) then (0 : Int32) else (if k1 = k2 then (1 : Int32) else (0 : Int32)))), (.int (0 : Int32))])
            refine Goes.go (fun _ k => XS.icmpNo X60.here X60.ex rfl (hb hby at_287) rfl (cd_f (cd := .ne) (x := (0 : Int32)) (y := (if (if l1 = l2 then (if l1 < (1 : Int32) then (if l1 < (2 : Int32) then (1 : Int32) else (if c1 = d1 then (1 : Int32) else (0 : Int32))) else (if c0 = d0 then (if l1 < (2 : Int32) then (1 : Int32) else (if c1 = d1 then (1 : Int32) else (0 : Int32))) else (0 : Int32))) else (0 : Int32)) = (0 : Int32) then (0 : Int32) else (if k1 = k2 then (1 : Int32) else (0 : Int32)))) ((fun q => absurd (hp1.symm) q))) k) ?_
            show Goes _ _ _ _ T60 (mkF m 290 #[.val (.int i0), .val (.int i1), .val (.int i2), .val (.int bb), .val (.int l1), .val (.int c0), .val (.int c1), .val (.int l2), .val (.int d0), .val (.int d1), .val (.int k1), .val (.int k2), .val (.int kind), .val (.ref a48), .val (.ref a49), .val (.ref a51), .val (.ref a55), .val (.int (if l1 = l2 then (if l1 < (1 : Int32) then (if l1 < (2 : Int32) then (1 : Int32) else (if c1 = d1 then (1 : Int32) else (0 : Int32))) else (if c0 = d0 then (if l1 < (2 : Int32) then (1 : Int32) else (if c1 = d1 then (1 : Int32) else (0 : Int32))) else (0 : Int32))) else (0 : Int32))), .val (.int (if (if l1 = l2 then (if l1 < (1 : Int32) then (if l1 < (2 : Int32) then (1 : Int32) else (if c1 = d1 then (1 : Int32) else (0 : Int32))) else (if c0 = d0 then (if l1 < (2 : Int32) then (1 : Int32) else (if c1 = d1 then (1 : Int32) else (0 : Int32))) else (0 : Int32))) else (0 : Int32)) = (0 : Int32) then (0 : Int32) else (if k1 = k2 then (1 : Int32) else (0 : Int32))))] [])
            refine Goes.go (fun _ k => XS.iconst X60.here X60.ex rfl (hb hby at_290) (XS.goto X60.here X60.ex rfl (pc0 := 291) (pc' := 295) rfl (hb hby at_291) (by decide) (by decide) k)) ?_
            show Goes _ _ _ _ T60 (mkF m 295 #[.val (.int i0), .val (.int i1), .val (.int i2), .val (.int bb), .val (.int l1), .val (.int c0), .val (.int c1), .val (.int l2), .val (.int d0), .val (.int d1), .val (.int k1), .val (.int k2), .val (.int kind), .val (.ref a48), .val (.ref a49), .val (.ref a51), .val (.ref a55), .val (.int (if l1 = l2 then (if l1 < (1 : Int32) then (if l1 < (2 : Int32) then (1 : Int32) else (if c1 = d1 then (1 : Int32) else (0 : Int32))) else (if c0 = d0 then (if l1 < (2 : Int32) then (1 : Int32) else (if c1 = d1 then (1 : Int32) else (0 : Int32))) else (0 : Int32))) else (0 : Int32))), .val (.int (if (if l1 = l2 then (if l1 < (1 : Int32) then (if l1 < (2 : Int32) then (1 : Int32) else (if c1 = d1 then (1 : Int32) else (0 : Int32))) else (if c0 = d0 then (if l1 < (2 : Int32) then (1 : Int32) else (if c1 = d1 then (1 : Int32) else (0 : Int32))) else (0 : Int32))) else (0 : Int32)) = (0 : Int32) then (0 : Int32) else (if k1 = k2 then (1 : Int32) else (0 : Int32))))] [(.int (1 : Int32))])
            refine Goes.outS X60 hEL (fun q => by rw [hret] at q; cases q) hlk (X60.rB hret (by simp) (hb hby at_295)) ?_ (by decide) (by decide)
            exact rfl
      · have hc196 : kind = (3 : Int32) := Classical.not_not.mp hc196
        show Goes _ _ _ _ T57 (mkF m 199 #[.val (.int i0), .val (.int i1), .val (.int i2), .val (.int bb), .val (.int l1), .val (.int c0), .val (.int c1), .val (.int l2), .val (.int d0), .val (.int d1), .val (.int k1), .val (.int k2), .val (.int kind), .val (.ref a48), .val (.ref a49), .val (.ref a51), .val (.ref a55), .unset, .unset] [])
        refine Goes.go (fun _ k => XS.aload X57.here X57.ex rfl (hb hby at_199) rfl rfl (XS.aload X57.here X57.ex rfl (hb hby at_201) rfl rfl k)) ?_
        show Goes _ _ _ _ T57 (mkF m 203 #[.val (.int i0), .val (.int i1), .val (.int i2), .val (.int bb), .val (.int l1), .val (.int c0), .val (.int c1), .val (.int l2), .val (.int d0), .val (.int d1), .val (.int k1), .val (.int k2), .val (.int kind), .val (.ref a48), .val (.ref a49), .val (.ref a51), .val (.ref a55), .unset, .unset] [(.ref a51), (.ref a51)])
        refine Wk.virtual (hm' := fun _ => h57) (C := "com/example/matchmaker/matchmaker/registry/Parameter") (y := (⟨"com/example/matchmaker/matchmaker/registry/Parameter", "equals", "(Ljava/lang/Object;)Z"⟩ : MethodName)) (z := (⟨"com/example/matchmaker/matchmaker/registry/Parameter", "equals", "(Ljava/lang/Object;)Z"⟩ : MethodName)) (W := 0) (kc := 0) (ks := 0) (argsL := [(.ref a51)]) (rest := []) (as' := #[(.ref a51), (.ref a51)]) (ws := []) X57 (w_54 hw) (w_55 hw) (w_57 hw) (w_56 hw) (by decide) Ex53 (nf_sel (w_57 hw)) (CtrN.pays (own_eq l Z a0 hw h57 X57.old a51 a51 a48 a48 _ _ _ _ G1 O2 P5 Ex53 Fi53 Fi53 Fo53 Fo53 S48 S48) (w_58 hw) (w_28 hw) (by decide) (by decide)) (fun v h' L q => ⟨q.2, q.1.1⟩) all0 (fun _ => Mark.stay all0) rfl (by rw [hml]; rfl) (lenOf pd_3 rfl) rfl rfl (by show 2 * 0 + _ ≤ _; exact Nat.le_of_eq rfl) (hb hby at_203) (by decide) (by decide) ?_
        intro T61 h61 v61 L61 X61 q61 K61
        obtain ⟨⟨-, hE61⟩, -⟩ := q61
        replace S48 := S48.ext K61.oExt
        replace S49 := S49.ext K61.oExt
        replace Ex53 := Ex53.ext K61.oExt
        replace Fi53 := Fi53.ext K61.oExt
        replace Fo53 := Fo53.ext K61.oExt
        replace Ex57 := Ex57.ext K61.oExt
        replace Fi57 := Fi57.ext K61.oExt
        replace Fo57 := Fo57.ext K61.oExt
        rcases hE61 with ⟨rfl, hq⟩ | ⟨rfl, hq⟩
        · show Goes _ _ _ _ T61 (mkF m 206 #[.val (.int i0), .val (.int i1), .val (.int i2), .val (.int bb), .val (.int l1), .val (.int c0), .val (.int c1), .val (.int l2), .val (.int d0), .val (.int d1), .val (.int k1), .val (.int k2), .val (.int kind), .val (.ref a48), .val (.ref a49), .val (.ref a51), .val (.ref a55), .unset, .unset] [(.int (1 : Int32))])
          refine Goes.outS X61 hEL (fun q => by rw [hret] at q; cases q) hlk (X61.rB hret (by simp) (hb hby at_206)) ?_ (by decide) (by decide)
          exact rfl
        · show Goes _ _ _ _ T61 (mkF m 206 #[.val (.int i0), .val (.int i1), .val (.int i2), .val (.int bb), .val (.int l1), .val (.int c0), .val (.int c1), .val (.int l2), .val (.int d0), .val (.int d1), .val (.int k1), .val (.int k2), .val (.int kind), .val (.ref a48), .val (.ref a49), .val (.ref a51), .val (.ref a55), .unset, .unset] [(.int (0 : Int32))])
          exact absurd ⟨rfl, rfl⟩ hq
    · have hc174 : kind = (2 : Int32) := Classical.not_not.mp hc174
      show Goes _ _ _ _ T57 (mkF m 177 #[.val (.int i0), .val (.int i1), .val (.int i2), .val (.int bb), .val (.int l1), .val (.int c0), .val (.int c1), .val (.int l2), .val (.int d0), .val (.int d1), .val (.int k1), .val (.int k2), .val (.int kind), .val (.ref a48), .val (.ref a49), .val (.ref a51), .val (.ref a55), .unset, .unset] [])
      refine Goes.go (fun _ k => XS.aload X57.here X57.ex rfl (hb hby at_177) rfl rfl (XS.aload X57.here X57.ex rfl (hb hby at_179) rfl rfl k)) ?_
      show Goes _ _ _ _ T57 (mkF m 181 #[.val (.int i0), .val (.int i1), .val (.int i2), .val (.int bb), .val (.int l1), .val (.int c0), .val (.int c1), .val (.int l2), .val (.int d0), .val (.int d1), .val (.int k1), .val (.int k2), .val (.int kind), .val (.ref a48), .val (.ref a49), .val (.ref a51), .val (.ref a55), .unset, .unset] [(.ref a48), (.ref a51)])
      refine Wk.virtual (hm' := fun _ => h57) (C := "com/example/matchmaker/matchmaker/registry/Parameter") (y := (⟨"com/example/matchmaker/matchmaker/registry/Parameter", "equals", "(Ljava/lang/Object;)Z"⟩ : MethodName)) (z := (⟨"com/example/matchmaker/matchmaker/registry/Parameter", "equals", "(Ljava/lang/Object;)Z"⟩ : MethodName)) (W := 0) (kc := 0) (ks := 0) (argsL := [(.ref a48)]) (rest := []) (as' := #[(.ref a51), (.ref a48)]) (ws := []) X57 (w_54 hw) (w_55 hw) (w_57 hw) (w_56 hw) (by decide) Ex53 (nf_sel (w_57 hw)) (CtrN.pays (own_eqS l Z a0 hw h57 X57.old a51 a48 S48.1) (w_58 hw) (w_28 hw) (by decide) (by decide)) (fun v h' L q => ⟨q.2, q.1.1⟩) all0 (fun _ => Mark.stay all0) rfl (by rw [hml]; rfl) (lenOf pd_3 rfl) rfl rfl (by show 2 * 0 + _ ≤ _; exact Nat.le_of_eq rfl) (hb hby at_181) (by decide) (by decide) ?_
      intro T62 h62 v62 L62 X62 q62 K62
      obtain ⟨⟨-, rfl⟩, -⟩ := q62
      show Goes _ _ _ _ T62 (mkF m 184 #[.val (.int i0), .val (.int i1), .val (.int i2), .val (.int bb), .val (.int l1), .val (.int c0), .val (.int c1), .val (.int l2), .val (.int d0), .val (.int d1), .val (.int k1), .val (.int k2), .val (.int kind), .val (.ref a48), .val (.ref a49), .val (.ref a51), .val (.ref a55), .unset, .unset] [(.int (0 : Int32))])
      refine Goes.go (fun _ k => XS.ifNo X62.here X62.ex rfl (hb hby at_184) rfl ((if0 _ _).trans (cd_f (cd := .ne) (x := (0 : Int32)) (y := (0 : Int32)) (by decide))) (XS.iconst X62.here X62.ex rfl (hb hby at_187) (XS.goto X62.here X62.ex rfl (pc0 := 188) (pc' := 192) rfl (hb hby at_188) (by decide) (by decide) k))) ?_
      show Goes _ _ _ _ T62 (mkF m 192 #[.val (.int i0), .val (.int i1), .val (.int i2), .val (.int bb), .val (.int l1), .val (.int c0), .val (.int c1), .val (.int l2), .val (.int d0), .val (.int d1), .val (.int k1), .val (.int k2), .val (.int kind), .val (.ref a48), .val (.ref a49), .val (.ref a51), .val (.ref a55), .unset, .unset] [(.int (1 : Int32))])
      refine Goes.outS X62 hEL (fun q => by rw [hret] at q; cases q) hlk (X62.rB hret (by simp) (hb hby at_192)) ?_ (by decide) (by decide)
      exact rfl
  · have hc153 : kind = (1 : Int32) := Classical.not_not.mp hc153
    show Goes _ _ _ _ T57 (mkF m 156 #[.val (.int i0), .val (.int i1), .val (.int i2), .val (.int bb), .val (.int l1), .val (.int c0), .val (.int c1), .val (.int l2), .val (.int d0), .val (.int d1), .val (.int k1), .val (.int k2), .val (.int kind), .val (.ref a48), .val (.ref a49), .val (.ref a51), .val (.ref a55), .unset, .unset] [])
    refine Goes.go (fun _ k => XS.aload X57.here X57.ex rfl (hb hby at_156) rfl rfl (XS.aconstNull X57.here X57.ex rfl (hb hby at_158) k)) ?_
    show Goes _ _ _ _ T57 (mkF m 159 #[.val (.int i0), .val (.int i1), .val (.int i2), .val (.int bb), .val (.int l1), .val (.int c0), .val (.int c1), .val (.int l2), .val (.int d0), .val (.int d1), .val (.int k1), .val (.int k2), .val (.int kind), .val (.ref a48), .val (.ref a49), .val (.ref a51), .val (.ref a55), .unset, .unset] [.null, (.ref a51)])
    refine Wk.virtual (hm' := fun _ => h57) (C := "com/example/matchmaker/matchmaker/registry/Parameter") (y := (⟨"com/example/matchmaker/matchmaker/registry/Parameter", "equals", "(Ljava/lang/Object;)Z"⟩ : MethodName)) (z := (⟨"com/example/matchmaker/matchmaker/registry/Parameter", "equals", "(Ljava/lang/Object;)Z"⟩ : MethodName)) (W := 0) (kc := 0) (ks := 0) (argsL := [.null]) (rest := []) (as' := #[(.ref a51), .null]) (ws := []) X57 (w_54 hw) (w_55 hw) (w_57 hw) (w_56 hw) (by decide) Ex53 (nf_sel (w_57 hw)) (CtrN.pays (own_eqN l Z a0 hw h57 X57.old a51) (w_58 hw) (w_28 hw) (by decide) (by decide)) (fun v h' L q => ⟨q.2, q.1.1⟩) all0 (fun _ => Mark.stay all0) rfl (by rw [hml]; rfl) (lenOf pd_3 rfl) rfl rfl (by show 2 * 0 + _ ≤ _; exact Nat.le_of_eq rfl) (hb hby at_159) (by decide) (by decide) ?_
    intro T63 h63 v63 L63 X63 q63 K63
    obtain ⟨⟨-, rfl⟩, -⟩ := q63
    show Goes _ _ _ _ T63 (mkF m 162 #[.val (.int i0), .val (.int i1), .val (.int i2), .val (.int bb), .val (.int l1), .val (.int c0), .val (.int c1), .val (.int l2), .val (.int d0), .val (.int d1), .val (.int k1), .val (.int k2), .val (.int kind), .val (.ref a48), .val (.ref a49), .val (.ref a51), .val (.ref a55), .unset, .unset] [(.int (0 : Int32))])
    refine Goes.go (fun _ k => XS.ifNo X63.here X63.ex rfl (hb hby at_162) rfl ((if0 _ _).trans (cd_f (cd := .ne) (x := (0 : Int32)) (y := (0 : Int32)) (by decide))) (XS.iconst X63.here X63.ex rfl (hb hby at_165) (XS.goto X63.here X63.ex rfl (pc0 := 166) (pc' := 170) rfl (hb hby at_166) (by decide) (by decide) k))) ?_
    show Goes _ _ _ _ T63 (mkF m 170 #[.val (.int i0), .val (.int i1), .val (.int i2), .val (.int bb), .val (.int l1), .val (.int c0), .val (.int c1), .val (.int l2), .val (.int d0), .val (.int d1), .val (.int k1), .val (.int k2), .val (.int kind), .val (.ref a48), .val (.ref a49), .val (.ref a51), .val (.ref a55), .unset, .unset] [(.int (1 : Int32))])
    refine Goes.outS X63 hEL (fun q => by rw [hret] at q; cases q) hlk (X63.rB hret (by simp) (hb hby at_170)) ?_ (by decide) (by decide)
    exact rfl
set_option maxRecDepth 65536 in
set_option maxHeartbeats 40000000 in
theorem comes_1 {Post : Tables → Env → Array Value → State → Outcome → State → Prop} (hpost : ∀ tb e args s v u, (limb_1_1.after args s (.returned v) u = true ∧ limb_1_2.after args s (.returned v) u = true ∧ True) → FramedW s (.returned v) u (Jvm.fieldLocs frame_1_writes args s ++ Jvm.arrayLocs frame_1_arrays args s ++ Jvm.staticLocs frame_1_statics s) 32 3200 → Post tb e args s (.returned v) u) :
    ArmFor flags0 classFile x code maxLocals ret World_1 tables_1 room_1 Calls_1 rest_1 Pre_1 Post := by
  intro l hfl _ _ p e ha hc hk s m args below hf hA hF happ hP
  obtain ⟨hcalls, hrest, hpre⟩ := hP
  obtain ⟨-, -, -, hnamed, -, -, -, hat⟩ := (Spec.applies_iff hf).mp happ
  obtain ⟨hg, hn⟩ := and_e (Cond.before_iff.mp (show (Jvm.Cond.and given_1 narrow_1).before args s = true from hpre))
  obtain ⟨h1, r0⟩ := and_e hg
  obtain ⟨w0, w1, w2, rfl⟩ : ∃ w0 w1 w2 : Value, args = #[w0, w1, w2] := by
    have hs : args.size = 3 := by simpa [Cond.value, given_1] using h1
    obtain ⟨L⟩ := args
    match L, hs with
    | [w0, w1, w2], _ => exact ⟨w0, w1, w2, rfl⟩
  have hw := fun d (hd : d ∈ tables_1) => atoms_spec (ws := Jvm.Cond.code x code maxLocals ret :: tables_1) hat d (List.mem_cons_of_mem _ hd)
  obtain ⟨hsets, hown0⟩ := atoms_of _ (rest_1_c_eq ▸ (show rest_1_c.before _ s = true from hrest))
  have hfit : Fit s := fun {y c} hc i hi => by
    obtain ⟨ha, rfl⟩ := Array.getElem?_eq_some_iff.mp hc
    have q := List.all_eq_true.mp ((Array.all_eq_true_iff_forall_mem.mp hF) _ (Array.getElem_mem ha)) i (List.mem_range.mpr hi)
    simpa [Array.getElem?_eq_getElem hi] using q
  obtain ⟨q0, r1⟩ := and_e r0
  obtain ⟨i0, e0⟩ := is_v q0
  obtain rfl : w0 = (.int i0) := Option.some.inj e0
  obtain ⟨q1, r2⟩ := and_e r1
  obtain ⟨i1, e1⟩ := is_v q1
  obtain rfl : w1 = (.int i1) := Option.some.inj e1
  obtain ⟨i2, e2⟩ := is_v r2
  obtain rfl : w2 = (.int i2) := Option.some.inj e2
  have n3 := not_v (Cond.before_iff.mp (hsets _ (List.mem_of_getElem? (i := 2) rfl)))
  obtain ⟨G1, eG1⟩ := is_v (Cond.before_iff.mp (hsets _ (List.mem_of_getElem? (i := 1) rfl)))
  have O2 : Sta s s.heap "java/lang/String" "COMPACT_STRINGS" "Z" (.int G1) := Sta.start eG1 (Or.inl (hsets _ (List.mem_of_getElem? (i := 0) rfl)))
  have P5 : ¬ (G1 = (0 : Int32)) := gotF (Cond.eq_ints eG1 (Term.int_eval (0))) n3
  obtain ⟨x_HEADER, z0⟩ := and_e hn
  obtain ⟨x_PATH, z1⟩ := and_e z0
  obtain ⟨o_HEADER, z2⟩ := and_e z1
  obtain ⟨o_PATH, z3⟩ := and_e z2
  obtain ⟨x_COOKIE, z4⟩ := and_e z3
  obtain ⟨o_COOKIE, z5⟩ := and_e z4
  obtain ⟨x_QUERY, z6⟩ := and_e z5
  have o_QUERY := z6
  obtain ⟨p_PATH, ev_PATH⟩ := exa_v x_PATH
  have S_PATH : Sta s s.heap "com/example/matchmaker/matchmaker/registry/Parameter$Location" "PATH" "Lcom/example/matchmaker/matchmaker/registry/Parameter$Location;" (.ref p_PATH) := Sta.start ev_PATH (Or.inr ⟨hw _ (List.mem_of_getElem? (i := 33) rfl), hw _ (List.mem_of_getElem? (i := 53) rfl)⟩)
  have E_PATH : Exa s s.heap p_PATH "com/example/matchmaker/matchmaker/registry/Parameter$Location" := Exa.start ev_PATH x_PATH
  have F_PATH : Fld s s.heap p_PATH "java/lang/Enum" "ordinal" "I" (.int (0 : Int32)) := own_fldstart ev_PATH o_PATH
  obtain ⟨p_QUERY, ev_QUERY⟩ := exa_v x_QUERY
  have S_QUERY : Sta s s.heap "com/example/matchmaker/matchmaker/registry/Parameter$Location" "QUERY" "Lcom/example/matchmaker/matchmaker/registry/Parameter$Location;" (.ref p_QUERY) := Sta.start ev_QUERY (Or.inr ⟨hw _ (List.mem_of_getElem? (i := 33) rfl), hw _ (List.mem_of_getElem? (i := 75) rfl)⟩)
  have E_QUERY : Exa s s.heap p_QUERY "com/example/matchmaker/matchmaker/registry/Parameter$Location" := Exa.start ev_QUERY x_QUERY
  have F_QUERY : Fld s s.heap p_QUERY "java/lang/Enum" "ordinal" "I" (.int (1 : Int32)) := own_fldstart ev_QUERY o_QUERY
  obtain ⟨p_HEADER, ev_HEADER⟩ := exa_v x_HEADER
  have S_HEADER : Sta s s.heap "com/example/matchmaker/matchmaker/registry/Parameter$Location" "HEADER" "Lcom/example/matchmaker/matchmaker/registry/Parameter$Location;" (.ref p_HEADER) := Sta.start ev_HEADER (Or.inr ⟨hw _ (List.mem_of_getElem? (i := 33) rfl), hw _ (List.mem_of_getElem? (i := 34) rfl)⟩)
  have E_HEADER : Exa s s.heap p_HEADER "com/example/matchmaker/matchmaker/registry/Parameter$Location" := Exa.start ev_HEADER x_HEADER
  have F_HEADER : Fld s s.heap p_HEADER "java/lang/Enum" "ordinal" "I" (.int (2 : Int32)) := own_fldstart ev_HEADER o_HEADER
  obtain ⟨p_COOKIE, ev_COOKIE⟩ := exa_v x_COOKIE
  have S_COOKIE : Sta s s.heap "com/example/matchmaker/matchmaker/registry/Parameter$Location" "COOKIE" "Lcom/example/matchmaker/matchmaker/registry/Parameter$Location;" (.ref p_COOKIE) := Sta.start ev_COOKIE (Or.inr ⟨hw _ (List.mem_of_getElem? (i := 33) rfl), hw _ (List.mem_of_getElem? (i := 73) rfl)⟩)
  have E_COOKIE : Exa s s.heap p_COOKIE "com/example/matchmaker/matchmaker/registry/Parameter$Location" := Exa.start ev_COOKIE x_COOKIE
  have F_COOKIE : Fld s s.heap p_COOKIE "java/lang/Enum" "ordinal" "I" (.int (3 : Int32)) := own_fldstart ev_COOKIE o_COOKIE
  have n01 : ¬ p_PATH = p_QUERY := Fld.ne F_PATH F_QUERY (by decide)
  have n02 : ¬ p_PATH = p_HEADER := Fld.ne F_PATH F_HEADER (by decide)
  have n03 : ¬ p_PATH = p_COOKIE := Fld.ne F_PATH F_COOKIE (by decide)
  have n12 : ¬ p_QUERY = p_HEADER := Fld.ne F_QUERY F_HEADER (by decide)
  have n13 : ¬ p_QUERY = p_COOKIE := Fld.ne F_QUERY F_COOKIE (by decide)
  have n23 : ¬ p_HEADER = p_COOKIE := Fld.ne F_HEADER F_COOKIE (by decide)
  have hEL : EW s #[(.int i0), (.int i1), (.int i2)] consts_1 := EW.cons (own := "com/example/matchmaker/matchmaker/registry/Parameter") (index := 7) (w_39 hw) (by decide) (EW.cons (own := "com/example/matchmaker/matchmaker/registry/Parameter") (index := 22) (w_47 hw) (by decide) (EW.cons (w_18 hw) (by decide) EW.nil))
  have hCH : CHv s consts_1 s.vm s.heap := CHv.start hEL hcalls.1 (hsets _ (List.mem_of_getElem? (i := 2) rfl)) (own_wS hw _ (by simp [Bundle.stringAtoms])) (own_wS hw _ (by simp [Bundle.stringAtoms, Bundle.sN]))
  obtain ⟨n, o, h1, h2, h3, _, L, rfl, ⟨rfl, N⟩, -, hq⟩ := own_law l s _ hw hEL s.heap (Ext.oRefl _) i0 i1 i2 G1 p_PATH p_QUERY p_HEADER p_COOKIE O2 P5 S_PATH S_QUERY S_HEADER S_COOKIE E_PATH E_QUERY E_HEADER E_COOKIE n01 n02 n03 n12 n13 n23 tables_1 p e ha hc hk s m _ below hf ((Spec.applies_iff_loose hf).mp happ).1 ⟨rfl, State.Warmed39.refl s, rfl, hCH⟩ trivial
  exact ⟨n, _, h1, h2, h3, hpost _ _ _ _ _ _ ⟨Cond.after_iff.mpr rfl, Cond.after_iff.mpr (eq_i res_at (Term.int_eval (1)) rfl), trivial⟩ ⟨hq.1, hq.2.1, hq.2.2.1, (hq.2.2.2.sift fun y hy => Or.inr (N y hy)).mono (by decide) (by decide)⟩⟩
theorem main_1_1 : Claimed_1_1 := comes_1 fun _ _ _ _ _ _ h hF => ⟨h.1, hF⟩
theorem main_1_2 : Claimed_1_2 := comes_1 fun _ _ _ _ _ _ h hF => ⟨h.2.1, hF⟩
end Jvm.Pilot.@@N@@
namespace Jvm.Pilot.@@N@@
open Jvm Jvm.ClassFile Sem Op Lib Jvm.Free Jvm.Stand Jvm.Pilot.@@N@@.Jvm.D
/-! MADE BY PROGRAM (witnessworld.py) out of the Statement's table words and the real class files: 23 classes; the members and pool entries that the words name. The judged class is class 1, her method 3. -/
namespace start1
open Jvm.ClassFile
def u (s : String) : CpInfo := .utf8 (stringToUtf16 s)
/-- a pool by its gaps: so many unusable entries, then the entry; so many at the end -/
def gap : Nat → List CpInfo → List CpInfo
  | 0, r => r
  | n + 1, r => .unusable :: gap n r
def poolList (es : List (Nat × CpInfo)) (last : Nat) : List CpInfo := es.foldr (fun e r => gap e.1 (e.2 :: r)) (gap last [])
def pool (es : List (Nat × CpInfo)) (last : Nat) : Array CpInfo := ⟨poolList es last⟩
def fileOf (pool : Array CpInfo) (this : Nat) (attrs : Array Attribute := #[]) (ms : Array MethodInfo := #[]) (fl : Nat := 33) (sup : Nat := 0) (ifs : Array Nat := #[]) (fds : Array FieldInfo := #[]) : ClassFile where
  minorVersion := 0
  majorVersion := 65
  constantPool := pool
  accessFlags := fl
  thisClass := this
  superClass := sup
  interfaces := ifs
  fields := fds
  methods := ms
  attributes := attrs
def plain (name : String) (sup : Option ClassId) : Class where
  name := name
  kind := .ordinary
  loader := none
  accessFlags := 33
  super := sup
  interfaces := #[]
  cf := none
  fields := #[]
  methods := #[]
  instanceTypes := #[]
  staticTypes := #[]
  resolved := #[]
  callSites := []
  init := .initialized
  statics := none
  mirror := none

def pool0 : Array CpInfo := pool [(5, u "<init>"), (0, u "()V"), (1, .class_ 10), (1, u "java/lang/Object")] 113

def k0c0 : Code := { maxStack := 0, maxLocals := 1, code := object_method_1_code, exceptionTable := #[], attributes := #[] }
def k0m0 : Method := { name := "<init>", desc := "()V", sig := { parameters := [], returnType := none }, accessFlags := 1, code := some k0c0 }
/-- java/lang/Object -/
def k0 : Class := { plain "java/lang/Object" none with
  accessFlags := 33
  interfaces := #[]
  cf := some (fileOf pool0 8 #[] #[{ accessFlags := 1, nameIndex := 5, descriptorIndex := 6, attributes := #[] }] 33 0 #[] #[])
  fields := #[]
  methods := #[k0m0]
  instanceTypes := #[]
  staticTypes := #[]
  resolved := Array.replicate 124 none
  statics := none }

def pool1 : Array CpInfo := pool [(2, .class_ 4), (1, u "java/lang/Object"), (0, u "<init>"), (0, u "()V"), (0, .fieldref 8 9), (0, .class_ 10), (0, .nameAndType 11 12), (0, u "com/example/matchmaker/matchmaker/registry/Parameter$Location"), (0, u "PATH"), (0, u "Lcom/example/matchmaker/matchmaker/registry/Parameter$Location;"), (0, .fieldref 8 14), (0, .nameAndType 15 12), (0, u "QUERY"), (0, .fieldref 8 17), (0, .nameAndType 18 12), (0, u "HEADER"), (0, .fieldref 8 20), (0, .nameAndType 21 12), (0, u "COOKIE"), (0, .class_ 23), (0, u "java/lang/String"), (0, .methodref 22 25), (0, .nameAndType 5 26), (0, u "([C)V"), (0, .methodref 28 29), (0, .class_ 30), (0, .nameAndType 31 32), (0, u "com/example/matchmaker/matchmaker/registry/ParameterEqualsPinLaw"), (0, u "mk"), (0, u "(ICC)Ljava/lang/String;"), (0, .class_ 34), (0, u "com/example/matchmaker/matchmaker/registry/Parameter"), (0, .methodref 28 36), (0, .nameAndType 37 38), (0, u "loc"), (0, u "(I)Lcom/example/matchmaker/matchmaker/registry/Parameter$Location;"), (0, .methodref 33 40), (0, .nameAndType 5 41), (0, u "(Ljava/lang/String;Lcom/example/matchmaker/matchmaker/registry/Parameter$Location;)V"), (0, .methodref 33 43), (0, .nameAndType 44 45), (0, u "equals"), (0, u "(Ljava/lang/Object;)Z"), (3, u "law"), (0, u "(III)Z")] 4

def k1m0 : Method := { name := "<init>", desc := "()V", sig := { parameters := [], returnType := none }, accessFlags := 1, code := none }
def k1c1 : Code := { maxStack := 2, maxLocals := 1, code := method_2_code, exceptionTable := #[], attributes := #[] }
def k1m1 : Method := { name := "loc", desc := "(I)Lcom/example/matchmaker/matchmaker/registry/Parameter$Location;", sig := { parameters := [.int], returnType := some (.object "com/example/matchmaker/matchmaker/registry/Parameter$Location") }, accessFlags := 10, code := some k1c1 }
def k1c2 : Code := { maxStack := 6, maxLocals := 3, code := method_3_code, exceptionTable := #[], attributes := #[] }
def k1m2 : Method := { name := "mk", desc := "(ICC)Ljava/lang/String;", sig := { parameters := [.int, .char, .char], returnType := some (.object "java/lang/String") }, accessFlags := 10, code := some k1c2 }
def k1c3 : Code := { maxStack := 4, maxLocals := 19, code := code, exceptionTable := #[], attributes := #[] }
def k1m3 : Method := { name := "law", desc := "(III)Z", sig := { parameters := [.int, .int, .int], returnType := some .boolean }, accessFlags := 9, code := some k1c3 }
/-- com/example/matchmaker/matchmaker/registry/ParameterEqualsPinLaw -/
def k1 : Class := { plain "com/example/matchmaker/matchmaker/registry/ParameterEqualsPinLaw" (some 0) with
  accessFlags := 49
  interfaces := #[]
  cf := some (fileOf pool1 28 #[] #[{ accessFlags := 1, nameIndex := 5, descriptorIndex := 6, attributes := #[] }, { accessFlags := 10, nameIndex := 37, descriptorIndex := 38, attributes := #[] }, { accessFlags := 10, nameIndex := 31, descriptorIndex := 32, attributes := #[] }, { accessFlags := 9, nameIndex := 49, descriptorIndex := 50, attributes := #[] }] 49 2 #[] #[])
  fields := #[]
  methods := #[k1m0, k1m1, k1m2, k1m3]
  instanceTypes := #[]
  staticTypes := #[]
  resolved := Array.replicate 55 none
  statics := none }

def pool2 : Array CpInfo := pool [(1, .class_ 2), (0, u "java/io/Serializable"), (0, .class_ 4), (0, u "java/lang/Object")] 2

/-- java/io/Serializable -/
def k2 : Class := { plain "java/io/Serializable" (some 0) with
  accessFlags := 1537
  interfaces := #[]
  cf := some (fileOf pool2 1 #[] #[] 1537 3 #[] #[])
  fields := #[]
  methods := #[]
  instanceTypes := #[]
  staticTypes := #[]
  resolved := Array.replicate 7 none
  statics := none }

def pool3 : Array CpInfo := pool [(1, .class_ 2), (0, u "java/lang/Comparable"), (0, .class_ 4), (0, u "java/lang/Object")] 7

/-- java/lang/Comparable -/
def k3 : Class := { plain "java/lang/Comparable" (some 0) with
  accessFlags := 1537
  interfaces := #[]
  cf := some (fileOf pool3 1 #[] #[] 1537 3 #[] #[])
  fields := #[]
  methods := #[]
  instanceTypes := #[]
  staticTypes := #[]
  resolved := Array.replicate 12 none
  statics := none }

def pool4 : Array CpInfo := pool [(2, .class_ 4), (1, u "java/lang/CharSequence"), (42, .class_ 48), (0, u "java/lang/CharSequence$1CodePointIterator"), (10, .class_ 60), (0, u "java/lang/CharSequence$1CharIterator"), (5, .class_ 67), (0, u "java/lang/Object")] 63

/-- java/lang/CharSequence -/
def k4 : Class := { plain "java/lang/CharSequence" (some 0) with
  accessFlags := 1537
  interfaces := #[]
  cf := some (fileOf pool4 2 #[.nestMembers #[47, 59]] #[] 1537 66 #[] #[])
  fields := #[]
  methods := #[]
  instanceTypes := #[]
  staticTypes := #[]
  resolved := Array.replicate 131 none
  statics := none }

def pool5 : Array CpInfo := pool [(1, .class_ 2), (0, u "java/lang/constant/Constable"), (0, .class_ 4), (0, u "java/lang/Object")] 6

/-- java/lang/constant/Constable -/
def k5 : Class := { plain "java/lang/constant/Constable" (some 0) with
  accessFlags := 1537
  interfaces := #[]
  cf := some (fileOf pool5 1 #[] #[] 1537 3 #[] #[])
  fields := #[]
  methods := #[]
  instanceTypes := #[]
  staticTypes := #[]
  resolved := Array.replicate 11 none
  statics := none }

def pool6 : Array CpInfo := pool [(1, .class_ 2), (0, u "java/lang/constant/ConstantDesc"), (0, .class_ 4), (0, u "java/lang/Object")] 32

/-- java/lang/constant/ConstantDesc -/
def k6 : Class := { plain "java/lang/constant/ConstantDesc" (some 0) with
  accessFlags := 1537
  interfaces := #[]
  cf := some (fileOf pool6 1 #[] #[] 1537 3 #[] #[])
  fields := #[]
  methods := #[]
  instanceTypes := #[]
  staticTypes := #[]
  resolved := Array.replicate 37 none
  statics := none }

def pool7 : Array CpInfo := pool [(1, .methodref 2 3), (0, .class_ 4), (0, .nameAndType 5 6), (0, u "java/lang/Object"), (0, u "<init>"), (0, u "()V"), (0, .string 8), (0, u ""), (0, .fieldref 10 11), (0, .class_ 12), (0, .nameAndType 13 14), (0, u "java/lang/String"), (0, u "value"), (0, u "[B"), (0, .fieldref 10 16), (0, .nameAndType 17 18), (0, u "coder"), (0, u "B"), (2, u "hash"), (0, u "I"), (2, u "hashIsZero"), (0, u "Z"), (0, .methodref 10 28), (0, .nameAndType 5 29), (0, u "([CIILjava/lang/Void;)V"), (8, .fieldref 10 39), (0, .nameAndType 40 26), (0, u "COMPACT_STRINGS"), (1, .class_ 44), (1, u "java/lang/StringUTF16"), (0, u "compress"), (1, .methodref 42 48), (0, .nameAndType 49 50), (0, u "coderFromArrayLen"), (0, u "([BI)B"), (56, .class_ 109), (1, u "java/lang/StringLatin1"), (67, .methodref 42 178), (0, .nameAndType 45 179), (0, u "([CII)[B"), (361, .methodref 107 542), (0, .nameAndType 543 544), (0, u "equals"), (0, u "([B[B)Z"), (28, u "(Ljava/lang/Object;)Z"), (1, .class_ 576), (0, u "java/lang/CharSequence"), (22, u "CASE_INSENSITIVE_ORDER"), (0, u "Ljava/util/Comparator;"), (409, u "([C)V"), (90, u "serialPersistentFields"), (0, u "[Ljava/io/ObjectStreamField;"), (0, .class_ 1104), (0, u "java/lang/String$CaseInsensitiveComparator"), (1, .class_ 1107), (0, u "java/io/Serializable"), (0, .class_ 1109), (0, u "java/lang/Comparable"), (0, .class_ 1111), (0, u "java/lang/constant/Constable"), (0, .class_ 1113), (0, u "java/lang/constant/ConstantDesc"), (2, u "serialVersionUID"), (0, u "J"), (3, u "REPL"), (0, u "C"), (2, u "LATIN1"), (1, u "UTF16")] 323

def k7m0 : Method := { name := "<init>", desc := "()V", sig := { parameters := [], returnType := none }, accessFlags := 1, code := none }
def k7c1 : Code := { maxStack := 5, maxLocals := 2, code := jdk_42_method_3_code, exceptionTable := #[], attributes := #[] }
def k7m1 : Method := { name := "<init>", desc := "([C)V", sig := { parameters := [(.array .char)], returnType := none }, accessFlags := 1, code := some k7c1 }
def k7c2 : Code := { maxStack := 2, maxLocals := 3, code := jdk_42_method_66_code, exceptionTable := #[], attributes := #[] }
def k7m2 : Method := { name := "equals", desc := "(Ljava/lang/Object;)Z", sig := { parameters := [(.object "java/lang/Object")], returnType := some .boolean }, accessFlags := 1, code := some k7c2 }
def k7c3 : Code := { maxStack := 4, maxLocals := 6, code := jdk_42_method_149_code, exceptionTable := #[], attributes := #[] }
def k7m3 : Method := { name := "<init>", desc := "([CIILjava/lang/Void;)V", sig := { parameters := [(.array .char), .int, .int, (.object "java/lang/Void")], returnType := none }, accessFlags := 2, code := some k7c3 }
/-- java/lang/String -/
def k7 : Class := { plain "java/lang/String" (some 0) with
  accessFlags := 49
  interfaces := #[2, 3, 4, 5, 6]
  cf := some (fileOf pool7 10 #[.nestMembers #[1103]] #[{ accessFlags := 1, nameIndex := 5, descriptorIndex := 6, attributes := #[] }, { accessFlags := 1, nameIndex := 5, descriptorIndex := 1010, attributes := #[] }, { accessFlags := 1, nameIndex := 543, descriptorIndex := 573, attributes := #[] }, { accessFlags := 2, nameIndex := 5, descriptorIndex := 29, attributes := #[] }] 49 2 #[1106, 1108, 575, 1110, 1112] #[{ accessFlags := 18, nameIndex := 13, descriptorIndex := 14, attributes := #[] }, { accessFlags := 18, nameIndex := 17, descriptorIndex := 18, attributes := #[] }, { accessFlags := 2, nameIndex := 21, descriptorIndex := 22, attributes := #[] }, { accessFlags := 2, nameIndex := 25, descriptorIndex := 26, attributes := #[] }, { accessFlags := 26, nameIndex := 1116, descriptorIndex := 1117, attributes := #[] }, { accessFlags := 24, nameIndex := 40, descriptorIndex := 26, attributes := #[] }, { accessFlags := 26, nameIndex := 1101, descriptorIndex := 1102, attributes := #[] }, { accessFlags := 26, nameIndex := 1121, descriptorIndex := 1122, attributes := #[] }, { accessFlags := 25, nameIndex := 599, descriptorIndex := 600, attributes := #[] }, { accessFlags := 24, nameIndex := 1125, descriptorIndex := 18, attributes := #[] }, { accessFlags := 24, nameIndex := 1127, descriptorIndex := 18, attributes := #[] }])
  fields := #[{ name := "value", type := (.array .byte), accessFlags := 18, slot := 0, constantValue := 0 }, { name := "coder", type := .byte, accessFlags := 18, slot := 1, constantValue := 0 }, { name := "hash", type := .int, accessFlags := 2, slot := 2, constantValue := 0 }, { name := "hashIsZero", type := .boolean, accessFlags := 2, slot := 3, constantValue := 0 }, { name := "serialVersionUID", type := .long, accessFlags := 26, slot := 0, constantValue := 0 }, { name := "COMPACT_STRINGS", type := .boolean, accessFlags := 24, slot := 1, constantValue := 0 }, { name := "serialPersistentFields", type := (.array (.object "java/io/ObjectStreamField")), accessFlags := 26, slot := 2, constantValue := 0 }, { name := "REPL", type := .char, accessFlags := 26, slot := 3, constantValue := 0 }, { name := "CASE_INSENSITIVE_ORDER", type := (.object "java/util/Comparator"), accessFlags := 25, slot := 4, constantValue := 0 }, { name := "LATIN1", type := .byte, accessFlags := 24, slot := 5, constantValue := 0 }, { name := "UTF16", type := .byte, accessFlags := 24, slot := 6, constantValue := 0 }]
  methods := #[k7m0, k7m1, k7m2, k7m3]
  instanceTypes := #[(.array .byte), .byte, .int, .boolean]
  staticTypes := #[.long, .boolean, (.array (.object "java/io/ObjectStreamField")), .char, (.object "java/util/Comparator"), .byte, .byte]
  resolved := Array.replicate 1451 none
  statics := some 0 }

def pool8 : Array CpInfo := pool [(1, .methodref 2 3), (0, .class_ 4), (0, .nameAndType 5 6), (0, u "java/lang/Object"), (0, u "<init>"), (0, u "()V"), (0, .string 8), (0, u "name"), (0, .methodref 10 11), (0, .class_ 12), (0, .nameAndType 13 14), (0, u "java/util/Objects"), (0, u "requireNonNull"), (0, u "(Ljava/lang/Object;Ljava/lang/String;)Ljava/lang/Object;"), (0, .class_ 16), (0, u "java/lang/String"), (0, .fieldref 18 19), (0, .class_ 20), (0, .nameAndType 8 21), (0, u "com/example/matchmaker/matchmaker/registry/Parameter"), (0, u "Ljava/lang/String;"), (0, .string 23), (0, u "location"), (0, .class_ 25), (0, u "com/example/matchmaker/matchmaker/registry/Parameter$Location"), (0, .fieldref 18 27), (0, .nameAndType 23 28), (0, u "Lcom/example/matchmaker/matchmaker/registry/Parameter$Location;"), (0, .methodref 15 30), (0, .nameAndType 31 32), (0, u "equals"), (0, u "(Ljava/lang/Object;)Z"), (12, u "(Ljava/lang/String;Lcom/example/matchmaker/matchmaker/registry/Parameter$Location;)V")] 29

def k8c0 : Code := { maxStack := 3, maxLocals := 3, code := prog_34_method_1_code, exceptionTable := #[], attributes := #[] }
def k8m0 : Method := { name := "<init>", desc := "(Ljava/lang/String;Lcom/example/matchmaker/matchmaker/registry/Parameter$Location;)V", sig := { parameters := [(.object "java/lang/String"), (.object "com/example/matchmaker/matchmaker/registry/Parameter$Location")], returnType := none }, accessFlags := 1, code := some k8c0 }
def k8c1 : Code := { maxStack := 2, maxLocals := 3, code := prog_34_method_4_code, exceptionTable := #[], attributes := #[] }
def k8m1 : Method := { name := "equals", desc := "(Ljava/lang/Object;)Z", sig := { parameters := [(.object "java/lang/Object")], returnType := some .boolean }, accessFlags := 1, code := some k8c1 }
/-- com/example/matchmaker/matchmaker/registry/Parameter -/
def k8 : Class := { plain "com/example/matchmaker/matchmaker/registry/Parameter" (some 0) with
  accessFlags := 49
  interfaces := #[]
  cf := some (fileOf pool8 18 #[.nestMembers #[24]] #[{ accessFlags := 1, nameIndex := 5, descriptorIndex := 45, attributes := #[] }, { accessFlags := 1, nameIndex := 31, descriptorIndex := 32, attributes := #[] }] 49 2 #[] #[{ accessFlags := 18, nameIndex := 8, descriptorIndex := 21, attributes := #[] }, { accessFlags := 18, nameIndex := 23, descriptorIndex := 28, attributes := #[] }])
  fields := #[{ name := "name", type := (.object "java/lang/String"), accessFlags := 18, slot := 0, constantValue := 0 }, { name := "location", type := (.object "com/example/matchmaker/matchmaker/registry/Parameter$Location"), accessFlags := 18, slot := 1, constantValue := 0 }]
  methods := #[k8m0, k8m1]
  instanceTypes := #[(.object "java/lang/String"), (.object "com/example/matchmaker/matchmaker/registry/Parameter$Location")]
  staticTypes := #[]
  resolved := Array.replicate 75 none
  statics := none }

def pool9 : Array CpInfo := pool [(2, .class_ 4), (1, u "java/lang/Enum"), (0, u "name"), (0, u "Ljava/lang/String;"), (2, u "ordinal"), (0, u "I"), (1, .class_ 14), (1, u "java/lang/Object"), (4, u "hash"), (86, .class_ 108), (1, u "java/lang/Enum$EnumDesc"), (2, .class_ 112), (0, u "java/lang/constant/Constable"), (0, .class_ 114), (0, u "java/lang/Comparable"), (0, .class_ 116), (0, u "java/io/Serializable")] 87

/-- java/lang/Enum -/
def k9 : Class := { plain "java/lang/Enum" (some 0) with
  accessFlags := 1057
  interfaces := #[5, 3, 2]
  cf := some (fileOf pool9 2 #[.nestMembers #[106]] #[] 1057 12 #[111, 113, 115] #[{ accessFlags := 18, nameIndex := 5, descriptorIndex := 6, attributes := #[] }, { accessFlags := 18, nameIndex := 9, descriptorIndex := 10, attributes := #[] }, { accessFlags := 2, nameIndex := 19, descriptorIndex := 10, attributes := #[] }])
  fields := #[{ name := "name", type := (.object "java/lang/String"), accessFlags := 18, slot := 0, constantValue := 0 }, { name := "ordinal", type := .int, accessFlags := 18, slot := 1, constantValue := 0 }, { name := "hash", type := .int, accessFlags := 2, slot := 2, constantValue := 0 }]
  methods := #[]
  instanceTypes := #[(.object "java/lang/String"), .int, .int]
  staticTypes := #[]
  resolved := Array.replicate 204 none
  statics := none }

def pool10 : Array CpInfo := pool [(1, .class_ 2), (0, u "com/example/matchmaker/matchmaker/registry/Parameter$Location"), (2, u "PATH"), (0, u "Lcom/example/matchmaker/matchmaker/registry/Parameter$Location;"), (2, u "QUERY"), (2, u "HEADER"), (2, u "COOKIE"), (2, u "$VALUES"), (0, u "[Lcom/example/matchmaker/matchmaker/registry/Parameter$Location;"), (6, .class_ 28), (1, u "java/lang/Enum"), (27, .class_ 57), (0, u "com/example/matchmaker/matchmaker/registry/Parameter")] 2

/-- com/example/matchmaker/matchmaker/registry/Parameter$Location -/
def k10 : Class := { plain "com/example/matchmaker/matchmaker/registry/Parameter$Location" (some 9) with
  accessFlags := 16433
  interfaces := #[]
  cf := some (fileOf pool10 1 #[.nestHost 56] #[] 16433 26 #[] #[{ accessFlags := 16409, nameIndex := 5, descriptorIndex := 6, attributes := #[] }, { accessFlags := 16409, nameIndex := 9, descriptorIndex := 6, attributes := #[] }, { accessFlags := 16409, nameIndex := 12, descriptorIndex := 6, attributes := #[] }, { accessFlags := 16409, nameIndex := 15, descriptorIndex := 6, attributes := #[] }, { accessFlags := 4122, nameIndex := 18, descriptorIndex := 19, attributes := #[] }])
  fields := #[{ name := "PATH", type := (.object "com/example/matchmaker/matchmaker/registry/Parameter$Location"), accessFlags := 16409, slot := 0, constantValue := 0 }, { name := "QUERY", type := (.object "com/example/matchmaker/matchmaker/registry/Parameter$Location"), accessFlags := 16409, slot := 1, constantValue := 0 }, { name := "HEADER", type := (.object "com/example/matchmaker/matchmaker/registry/Parameter$Location"), accessFlags := 16409, slot := 2, constantValue := 0 }, { name := "COOKIE", type := (.object "com/example/matchmaker/matchmaker/registry/Parameter$Location"), accessFlags := 16409, slot := 3, constantValue := 0 }, { name := "$VALUES", type := (.array (.object "com/example/matchmaker/matchmaker/registry/Parameter$Location")), accessFlags := 4122, slot := 4, constantValue := 0 }]
  methods := #[]
  instanceTypes := #[(.object "java/lang/String"), .int, .int]
  staticTypes := #[(.object "com/example/matchmaker/matchmaker/registry/Parameter$Location"), (.object "com/example/matchmaker/matchmaker/registry/Parameter$Location"), (.object "com/example/matchmaker/matchmaker/registry/Parameter$Location"), (.object "com/example/matchmaker/matchmaker/registry/Parameter$Location"), (.array (.object "com/example/matchmaker/matchmaker/registry/Parameter$Location"))]
  resolved := Array.replicate 60 none
  statics := some 1 }

def pool11 : Array CpInfo := pool [(2, .class_ 4), (1, u "java/lang/Object"), (0, u "<init>"), (0, u "()V"), (35, .class_ 44), (1, u "java/util/Objects"), (0, u "requireNonNull"), (48, u "(Ljava/lang/Object;Ljava/lang/String;)Ljava/lang/Object;")] 89

def k11m0 : Method := { name := "<init>", desc := "()V", sig := { parameters := [], returnType := none }, accessFlags := 2, code := none }
def k11c1 : Code := { maxStack := 3, maxLocals := 2, code := jdk_31_method_11_code, exceptionTable := #[], attributes := #[] }
def k11m1 : Method := { name := "requireNonNull", desc := "(Ljava/lang/Object;Ljava/lang/String;)Ljava/lang/Object;", sig := { parameters := [(.object "java/lang/Object"), (.object "java/lang/String")], returnType := some (.object "java/lang/Object") }, accessFlags := 9, code := some k11c1 }
/-- java/util/Objects -/
def k11 : Class := { plain "java/util/Objects" (some 0) with
  accessFlags := 49
  interfaces := #[]
  cf := some (fileOf pool11 42 #[] #[{ accessFlags := 2, nameIndex := 5, descriptorIndex := 6, attributes := #[] }, { accessFlags := 9, nameIndex := 45, descriptorIndex := 94, attributes := #[] }] 49 2 #[] #[])
  fields := #[]
  methods := #[k11m0, k11m1]
  instanceTypes := #[]
  staticTypes := #[]
  resolved := Array.replicate 184 none
  statics := none }

def pool12 : Array CpInfo := pool [(4, .class_ 6), (1, u "java/lang/Object"), (0, u "<init>"), (0, u "()V"), (5, .class_ 16), (1, u "java/lang/StringLatin1"), (104, u "$assertionsDisabled"), (0, u "Z"), (98, .class_ 223), (1, u "java/lang/StringLatin1$LinesSpliterator"), (57, u "equals"), (0, u "([B[B)Z"), (107, .class_ 391), (0, u "java/lang/StringLatin1$CharsSpliterator")] 3

def k12m0 : Method := { name := "<init>", desc := "()V", sig := { parameters := [], returnType := none }, accessFlags := 0, code := none }
def k12c1 : Code := { maxStack := 3, maxLocals := 3, code := jdk_43_method_13_code, exceptionTable := #[], attributes := #[] }
def k12m1 : Method := { name := "equals", desc := "([B[B)Z", sig := { parameters := [(.array .byte), (.array .byte)], returnType := some .boolean }, accessFlags := 9, code := some k12c1 }
/-- java/lang/StringLatin1 -/
def k12 : Class := { plain "java/lang/StringLatin1" (some 0) with
  accessFlags := 48
  interfaces := #[]
  cf := some (fileOf pool12 14 #[.nestMembers #[390, 221]] #[{ accessFlags := 0, nameIndex := 7, descriptorIndex := 8, attributes := #[] }, { accessFlags := 9, nameIndex := 281, descriptorIndex := 282, attributes := #[] }] 48 4 #[] #[{ accessFlags := 4120, nameIndex := 121, descriptorIndex := 122, attributes := #[] }])
  fields := #[{ name := "$assertionsDisabled", type := .boolean, accessFlags := 4120, slot := 0, constantValue := 0 }]
  methods := #[k12m0, k12m1]
  instanceTypes := #[]
  staticTypes := #[.boolean]
  resolved := Array.replicate 395 none
  statics := none }

def pool13 : Array CpInfo := pool [(6, .class_ 8), (1, u "java/lang/Object"), (0, u "<init>"), (0, u "()V"), (1, .class_ 14), (1, u "java/lang/StringUTF16"), (31, u "$assertionsDisabled"), (0, u "Z"), (13, u "HI_BYTE_SHIFT"), (0, u "I"), (2, u "LO_BYTE_SHIFT"), (49, .methodref 12 116), (0, .nameAndType 117 118), (0, u "compress"), (0, u "([CI[BII)I"), (3, u "([CII)[B"), (138, u "coderFromArrayLen"), (0, u "([BI)B"), (106, .class_ 371), (1, u "java/lang/StringUTF16$LinesSpliterator"), (58, u "MAX_LENGTH"), (196, .class_ 628), (0, u "java/lang/StringUTF16$CodePointsSpliterator"), (0, .class_ 630), (0, u "java/lang/StringUTF16$CharsSpliterator")] 4

def k13m0 : Method := { name := "<init>", desc := "()V", sig := { parameters := [], returnType := none }, accessFlags := 0, code := none }
def k13c1 : Code := { maxStack := 2, maxLocals := 2, code := jdk_52_method_15_code, exceptionTable := #[], attributes := #[] }
def k13m1 : Method := { name := "coderFromArrayLen", desc := "([BI)B", sig := { parameters := [(.array .byte), .int], returnType := some .byte }, accessFlags := 8, code := some k13c1 }
def k13c2 : Code := { maxStack := 5, maxLocals := 6, code := jdk_52_method_16_code, exceptionTable := #[], attributes := #[] }
def k13m2 : Method := { name := "compress", desc := "([CII)[B", sig := { parameters := [(.array .char), .int, .int], returnType := some (.array .byte) }, accessFlags := 9, code := some k13c2 }
def k13c3 : Code := { maxStack := 3, maxLocals := 7, code := jdk_52_method_21_code, exceptionTable := #[], attributes := #[] }
def k13m3 : Method := { name := "compress", desc := "([CI[BII)I", sig := { parameters := [(.array .char), .int, (.array .byte), .int, .int], returnType := some .int }, accessFlags := 9, code := some k13c3 }
/-- java/lang/StringUTF16 -/
def k13 : Class := { plain "java/lang/StringUTF16" (some 0) with
  accessFlags := 48
  interfaces := #[]
  cf := some (fileOf pool13 12 #[.nestMembers #[627, 629, 369]] #[{ accessFlags := 0, nameIndex := 9, descriptorIndex := 10, attributes := #[] }, { accessFlags := 8, nameIndex := 261, descriptorIndex := 262, attributes := #[] }, { accessFlags := 9, nameIndex := 117, descriptorIndex := 122, attributes := #[] }, { accessFlags := 9, nameIndex := 117, descriptorIndex := 118, attributes := #[] }] 48 6 #[] #[{ accessFlags := 26, nameIndex := 61, descriptorIndex := 62, attributes := #[] }, { accessFlags := 26, nameIndex := 65, descriptorIndex := 62, attributes := #[] }, { accessFlags := 24, nameIndex := 430, descriptorIndex := 62, attributes := #[] }, { accessFlags := 4120, nameIndex := 46, descriptorIndex := 47, attributes := #[] }])
  fields := #[{ name := "HI_BYTE_SHIFT", type := .int, accessFlags := 26, slot := 0, constantValue := 0 }, { name := "LO_BYTE_SHIFT", type := .int, accessFlags := 26, slot := 1, constantValue := 0 }, { name := "MAX_LENGTH", type := .int, accessFlags := 24, slot := 2, constantValue := 0 }, { name := "$assertionsDisabled", type := .boolean, accessFlags := 4120, slot := 3, constantValue := 0 }]
  methods := #[k13m0, k13m1, k13m2, k13m3]
  instanceTypes := #[]
  staticTypes := #[.int, .int, .int, .boolean]
  resolved := Array.replicate 635 none
  statics := none }

def pool14 : Array CpInfo := pool [(2, .class_ 4), (1, u "java/lang/Object"), (0, u "<init>"), (0, u "()V"), (17, .class_ 26), (1, u "jdk/internal/util/Preconditions"), (28, .class_ 56), (0, u "jdk/internal/util/Preconditions$4"), (57, .class_ 115), (0, u "jdk/internal/util/Preconditions$1"), (7, u "SIOOBE_FORMATTER"), (0, u "Ljava/util/function/BiFunction;"), (0, .class_ 126), (0, u "jdk/internal/util/Preconditions$2"), (3, u "AIOOBE_FORMATTER"), (0, .class_ 132), (0, u "jdk/internal/util/Preconditions$3"), (3, u "IOOBE_FORMATTER")] 57

def k14m0 : Method := { name := "<init>", desc := "()V", sig := { parameters := [], returnType := none }, accessFlags := 1, code := none }
/-- jdk/internal/util/Preconditions -/
def k14 : Class := { plain "jdk/internal/util/Preconditions" (some 0) with
  accessFlags := 33
  interfaces := #[]
  cf := some (fileOf pool14 24 #[.nestMembers #[55, 131, 125, 114]] #[{ accessFlags := 1, nameIndex := 5, descriptorIndex := 6, attributes := #[] }] 33 2 #[] #[{ accessFlags := 25, nameIndex := 123, descriptorIndex := 124, attributes := #[] }, { accessFlags := 25, nameIndex := 130, descriptorIndex := 124, attributes := #[] }, { accessFlags := 25, nameIndex := 136, descriptorIndex := 124, attributes := #[] }])
  fields := #[{ name := "SIOOBE_FORMATTER", type := (.object "java/util/function/BiFunction"), accessFlags := 25, slot := 0, constantValue := 0 }, { name := "AIOOBE_FORMATTER", type := (.object "java/util/function/BiFunction"), accessFlags := 25, slot := 1, constantValue := 0 }, { name := "IOOBE_FORMATTER", type := (.object "java/util/function/BiFunction"), accessFlags := 25, slot := 2, constantValue := 0 }]
  methods := #[k14m0]
  instanceTypes := #[]
  staticTypes := #[(.object "java/util/function/BiFunction"), (.object "java/util/function/BiFunction"), (.object "java/util/function/BiFunction")]
  resolved := Array.replicate 194 none
  statics := some 2 }

def pool15 : Array CpInfo := pool [(9, u "<init>"), (6, .class_ 18), (1, u "java/lang/Object"), (0, u "()V"), (1, .class_ 23), (1, u "jdk/internal/util/ArraysSupport"), (0, u "LOG2_ARRAY_LONG_INDEX_SCALE"), (0, u "I"), (2, u "U"), (0, u "Ljdk/internal/misc/Unsafe;"), (8, u "BIG_ENDIAN"), (0, u "Z"), (8, u "LOG2_BYTE_BIT_SIZE"), (4, u "LOG2_ARRAY_INT_INDEX_SCALE"), (54, u "JLA"), (0, u "Ljdk/internal/access/JavaLangAccess;"), (11, u "LOG2_ARRAY_BOOLEAN_INDEX_SCALE"), (9, u "LOG2_ARRAY_BYTE_INDEX_SCALE"), (5, u "LOG2_ARRAY_CHAR_INDEX_SCALE"), (5, u "LOG2_ARRAY_SHORT_INDEX_SCALE"), (18, u "LOG2_ARRAY_FLOAT_INDEX_SCALE"), (24, u "LOG2_ARRAY_DOUBLE_INDEX_SCALE"), (89, u "T_BOOLEAN"), (2, u "T_CHAR"), (1, u "T_FLOAT"), (1, u "T_DOUBLE"), (1, u "T_BYTE"), (1, u "T_SHORT"), (1, u "T_INT"), (1, u "T_LONG"), (1, u "SOFT_MAX_ARRAY_LENGTH")] 83

def k15m0 : Method := { name := "<init>", desc := "()V", sig := { parameters := [], returnType := none }, accessFlags := 2, code := none }
/-- jdk/internal/util/ArraysSupport -/
def k15 : Class := { plain "jdk/internal/util/ArraysSupport" (some 0) with
  accessFlags := 33
  interfaces := #[]
  cf := some (fileOf pool15 21 #[] #[{ accessFlags := 2, nameIndex := 9, descriptorIndex := 19, attributes := #[] }] 33 16 #[] #[{ accessFlags := 24, nameIndex := 28, descriptorIndex := 29, attributes := #[] }, { accessFlags := 26, nameIndex := 38, descriptorIndex := 39, attributes := #[] }, { accessFlags := 25, nameIndex := 121, descriptorIndex := 25, attributes := #[] }, { accessFlags := 25, nameIndex := 131, descriptorIndex := 25, attributes := #[] }, { accessFlags := 25, nameIndex := 137, descriptorIndex := 25, attributes := #[] }, { accessFlags := 25, nameIndex := 143, descriptorIndex := 25, attributes := #[] }, { accessFlags := 25, nameIndex := 53, descriptorIndex := 25, attributes := #[] }, { accessFlags := 25, nameIndex := 24, descriptorIndex := 25, attributes := #[] }, { accessFlags := 25, nameIndex := 162, descriptorIndex := 25, attributes := #[] }, { accessFlags := 25, nameIndex := 187, descriptorIndex := 25, attributes := #[] }, { accessFlags := 26, nameIndex := 48, descriptorIndex := 25, attributes := #[] }, { accessFlags := 25, nameIndex := 277, descriptorIndex := 25, attributes := #[] }, { accessFlags := 25, nameIndex := 280, descriptorIndex := 25, attributes := #[] }, { accessFlags := 25, nameIndex := 282, descriptorIndex := 25, attributes := #[] }, { accessFlags := 25, nameIndex := 284, descriptorIndex := 25, attributes := #[] }, { accessFlags := 25, nameIndex := 286, descriptorIndex := 25, attributes := #[] }, { accessFlags := 25, nameIndex := 288, descriptorIndex := 25, attributes := #[] }, { accessFlags := 25, nameIndex := 290, descriptorIndex := 25, attributes := #[] }, { accessFlags := 25, nameIndex := 292, descriptorIndex := 25, attributes := #[] }, { accessFlags := 26, nameIndex := 108, descriptorIndex := 109, attributes := #[] }, { accessFlags := 25, nameIndex := 294, descriptorIndex := 25, attributes := #[] }])
  fields := #[{ name := "U", type := (.object "jdk/internal/misc/Unsafe"), accessFlags := 24, slot := 0, constantValue := 0 }, { name := "BIG_ENDIAN", type := .boolean, accessFlags := 26, slot := 1, constantValue := 0 }, { name := "LOG2_ARRAY_BOOLEAN_INDEX_SCALE", type := .int, accessFlags := 25, slot := 2, constantValue := 0 }, { name := "LOG2_ARRAY_BYTE_INDEX_SCALE", type := .int, accessFlags := 25, slot := 3, constantValue := 0 }, { name := "LOG2_ARRAY_CHAR_INDEX_SCALE", type := .int, accessFlags := 25, slot := 4, constantValue := 0 }, { name := "LOG2_ARRAY_SHORT_INDEX_SCALE", type := .int, accessFlags := 25, slot := 5, constantValue := 0 }, { name := "LOG2_ARRAY_INT_INDEX_SCALE", type := .int, accessFlags := 25, slot := 6, constantValue := 0 }, { name := "LOG2_ARRAY_LONG_INDEX_SCALE", type := .int, accessFlags := 25, slot := 7, constantValue := 0 }, { name := "LOG2_ARRAY_FLOAT_INDEX_SCALE", type := .int, accessFlags := 25, slot := 8, constantValue := 0 }, { name := "LOG2_ARRAY_DOUBLE_INDEX_SCALE", type := .int, accessFlags := 25, slot := 9, constantValue := 0 }, { name := "LOG2_BYTE_BIT_SIZE", type := .int, accessFlags := 26, slot := 10, constantValue := 0 }, { name := "T_BOOLEAN", type := .int, accessFlags := 25, slot := 11, constantValue := 0 }, { name := "T_CHAR", type := .int, accessFlags := 25, slot := 12, constantValue := 0 }, { name := "T_FLOAT", type := .int, accessFlags := 25, slot := 13, constantValue := 0 }, { name := "T_DOUBLE", type := .int, accessFlags := 25, slot := 14, constantValue := 0 }, { name := "T_BYTE", type := .int, accessFlags := 25, slot := 15, constantValue := 0 }, { name := "T_SHORT", type := .int, accessFlags := 25, slot := 16, constantValue := 0 }, { name := "T_INT", type := .int, accessFlags := 25, slot := 17, constantValue := 0 }, { name := "T_LONG", type := .int, accessFlags := 25, slot := 18, constantValue := 0 }, { name := "JLA", type := (.object "jdk/internal/access/JavaLangAccess"), accessFlags := 26, slot := 19, constantValue := 0 }, { name := "SOFT_MAX_ARRAY_LENGTH", type := .int, accessFlags := 25, slot := 20, constantValue := 0 }]
  methods := #[k15m0]
  instanceTypes := #[]
  staticTypes := #[(.object "jdk/internal/misc/Unsafe"), .boolean, .int, .int, .int, .int, .int, .int, .int, .int, .int, .int, .int, .int, .int, .int, .int, .int, .int, (.object "jdk/internal/access/JavaLangAccess"), .int]
  resolved := Array.replicate 378 none
  statics := none }

def pool16 : Array CpInfo := pool [(1, u "java/lang/Cloneable"), (0, .class_ 1), (0, u "java/lang/Object"), (0, .class_ 3)] 3

/-- java/lang/Cloneable -/
def k16 : Class := { plain "java/lang/Cloneable" (some 0) with
  accessFlags := 1537
  interfaces := #[]
  cf := some (fileOf pool16 2 #[] #[] 1537 4 #[] #[])
  fields := #[]
  methods := #[]
  instanceTypes := #[]
  staticTypes := #[]
  resolved := Array.replicate 8 none
  statics := none }

/-- the primitive byte -/
def k17 : Class := { plain "byte" none with kind := .primitive 'B', accessFlags := 0x411 }
/-- [B -/
def k18 : Class := { plain "[B" (some 0) with kind := .array 17 .byte, interfaces := #[16, 2], accessFlags := 1041 }

/-- the primitive char -/
def k19 : Class := { plain "char" none with kind := .primitive 'C', accessFlags := 0x411 }
/-- [C -/
def k20 : Class := { plain "[C" (some 0) with kind := .array 19 .char, interfaces := #[16, 2], accessFlags := 1041 }

/-- the primitive int -/
def k21 : Class := { plain "int" none with kind := .primitive 'I', accessFlags := 0x411 }
/-- [I -/
def k22 : Class := { plain "[I" (some 0) with kind := .array 21 .int, interfaces := #[16, 2], accessFlags := 1041 }

def heap : Heap := #[{ cls := 7, slots := #[.long 0, .int 1, .null, .int 0, .null, .int 0, .int 0], vm := .statics 7 },
  { cls := 10, slots := #[.ref 3, .ref 4, .ref 5, .ref 6, .null], vm := .statics 10 },
  { cls := 14, slots := #[.null, .null, .null], vm := .statics 14 },
  { cls := 10, slots := #[.null, .int 0, .int 0], vm := .none },
  { cls := 10, slots := #[.null, .int 1, .int 0], vm := .none },
  { cls := 10, slots := #[.null, .int 2, .int 0], vm := .none },
  { cls := 10, slots := #[.null, .int 3, .int 0], vm := .none }]
def classes : Array Class := #[k0, k1, k2, k3, k4, k5, k6, k7, k8, k9, k10, k11, k12, k13, k14, k15, k16, k17, k18, k19, k20, k21, k22]
def interned : List (Array UInt16 × Addr) := []
def slotsUsed : Nat := 27
def theMethod : MethodId := ⟨1, 3⟩
def args0 : Array Value := #[.int 5, .int 5, .int 5]
def aboutOver (below : List Frame) : State where
  vm := { classes := classes, interned := interned.toArray }
  heap := heap
  slotsUsed := slotsUsed
  threads := #[{ frames := .invoking theMethod args0 :: below }]
def below0 : List Frame := [.native { method := ⟨0, 0⟩, args := #[] }]
def about1 : State := aboutOver below0
def p0 : Program := .bare "" "" ""
def e0 : Env := launch0.env 0 0 0
theorem w_frames : about1.frames = Frame.invoking theMethod args0 :: below0 := rfl
set_option maxRecDepth 65536 in
theorem w_args : argsFit about1.vm theMethod args0 = true := by decide +kernel
set_option maxRecDepth 65536 in
theorem w_heap : heapFits about1 = true := by decide +kernel
set_option maxRecDepth 65536 in
theorem w_runnable : about1.curStatus? = some .runnable := by decide +kernel
set_option maxRecDepth 65536 in
theorem w_alone : about1.alone = true := by decide +kernel
set_option maxRecDepth 65536 in
theorem w_named : about1.methodNamed? x = some theMethod := by decide +kernel
set_option maxRecDepth 65536 in
theorem w_hears : about1.hears theMethod below0 = true := by decide +kernel
set_option maxRecDepth 65536 in
theorem w_ripe : about1.ripe theMethod args0 below0 = true := by decide +kernel
theorem w_running : about1.status = .running := rfl
set_option maxRecDepth 65536 in
theorem w_room : about1.hasRoom e0.platform room_1 = true :=
  launch0.hasRoom_least _ room_1 (by decide +kernel) (by decide +kernel) (by decide +kernel) (by decide +kernel) (by decide +kernel) (by decide +kernel)
theorem allAtoms_all (ts : List Jvm.Cond) (a : Array Jvm.Value) (st : Jvm.State) : (allAtoms ts).before a st = ts.all (fun c => c.before a st) := by
  induction ts with
  | nil => rfl
  | cons c t ih =>
    show (Jvm.Cond.and c (allAtoms t)).before a st = _
    rw [Jvm.Cond.before_and, ih, List.all_cons]
def words1 : List Jvm.Cond := Jvm.Cond.code x code maxLocals ret :: tables_1
/-- a 'code' word, met by the world's own term for the bytes: nothing is compared byte by byte -/
theorem code_word {y : MethodName} {bytes : ByteArray} {mx : Nat} {rt : Option FieldType} {a : Array Value} {s : State} {m : MethodId} {meth : Method} {c : Code} (h1 : s.methodNamed? y = some m) (h2 : s.vm.method? m = some meth) (h3 : meth.code = some c) (h4 : c.code = bytes)
    (h5 : (c.maxLocals == mx && c.exceptionTable.isEmpty && decide (c.maxStack ≤ mostOperands) && decide (meth.sig.returnType = rt) && !meth.locks && decide (parseMethodDescriptor y.desc = some meth.sig)) = true) : (Jvm.Cond.code y bytes mx rt).before a s = true := by
  simp only [Bool.and_eq_true, beq_iff_eq, Bool.not_eq_true', decide_eq_true_eq] at h5
  obtain ⟨⟨⟨⟨⟨g1, g2⟩, g3⟩, g4⟩, g5⟩, g6⟩ := h5
  simp [Cond.before, Cond.holds, Cond.value, h1, h2, h3, h4, g1, g2, g3, g4, g5, g6]
def isCode : Jvm.Cond → Bool
  | .code _ _ _ _ => true
  | _ => false
theorem all_split {L : List Jvm.Cond} {P : Jvm.Cond → Bool} (h1 : L.all (fun c => isCode c || P c) = true) (h2 : ∀ c ∈ L.filter isCode, P c = true) : L.all P = true := by
  refine List.all_eq_true.mpr fun c hc => ?_
  have h := List.all_eq_true.mp h1 c hc
  rcases Bool.eq_false_or_eq_true (isCode c) with hi | hi
  · exact h2 c (List.mem_filter.mpr ⟨hc, hi⟩)
  · simpa [hi] using h
set_option maxRecDepth 65536 in
theorem w_c0 : (Jvm.Cond.code x code maxLocals ret).before args0 about1 = true := code_word (m := ⟨1, 3⟩) (meth := k1m3) (c := k1c3) (by decide +kernel) rfl rfl rfl (by decide +kernel)
set_option maxRecDepth 65536 in
theorem w_c1 : (Jvm.Cond.code ({ cls := "com/example/matchmaker/matchmaker/registry/ParameterEqualsPinLaw", name := "mk", desc := "(ICC)Ljava/lang/String;" } : Jvm.MethodName) method_3_code (3 : Nat) (Option.some (Jvm.ClassFile.FieldType.object "java/lang/String"))).before args0 about1 = true := code_word (m := ⟨1, 2⟩) (meth := k1m2) (c := k1c2) (by decide +kernel) rfl rfl rfl (by decide +kernel)
set_option maxRecDepth 65536 in
theorem w_c2 : (Jvm.Cond.code ({ cls := "java/lang/String", name := "<init>", desc := "([C)V" } : Jvm.MethodName) jdk_42_method_3_code (2 : Nat) (Option.none : Option Jvm.ClassFile.FieldType)).before args0 about1 = true := code_word (m := ⟨7, 1⟩) (meth := k7m1) (c := k7c1) (by decide +kernel) rfl rfl rfl (by decide +kernel)
set_option maxRecDepth 65536 in
theorem w_c3 : (Jvm.Cond.code ({ cls := "java/lang/String", name := "<init>", desc := "([CIILjava/lang/Void;)V" } : Jvm.MethodName) jdk_42_method_149_code (6 : Nat) (Option.none : Option Jvm.ClassFile.FieldType)).before args0 about1 = true := code_word (m := ⟨7, 3⟩) (meth := k7m3) (c := k7c3) (by decide +kernel) rfl rfl rfl (by decide +kernel)
set_option maxRecDepth 65536 in
theorem w_c4 : (Jvm.Cond.code ({ cls := "java/lang/Object", name := "<init>", desc := "()V" } : Jvm.MethodName) object_method_1_code (1 : Nat) (Option.none : Option Jvm.ClassFile.FieldType)).before args0 about1 = true := code_word (m := ⟨0, 0⟩) (meth := k0m0) (c := k0c0) (by decide +kernel) rfl rfl rfl (by decide +kernel)
set_option maxRecDepth 65536 in
theorem w_c5 : (Jvm.Cond.code ({ cls := "com/example/matchmaker/matchmaker/registry/ParameterEqualsPinLaw", name := "loc", desc := "(I)Lcom/example/matchmaker/matchmaker/registry/Parameter$Location;" } : Jvm.MethodName) method_2_code (1 : Nat) (Option.some (Jvm.ClassFile.FieldType.object "com/example/matchmaker/matchmaker/registry/Parameter$Location"))).before args0 about1 = true := code_word (m := ⟨1, 1⟩) (meth := k1m1) (c := k1c1) (by decide +kernel) rfl rfl rfl (by decide +kernel)
set_option maxRecDepth 65536 in
theorem w_c6 : (Jvm.Cond.code ({ cls := "com/example/matchmaker/matchmaker/registry/Parameter", name := "<init>", desc := "(Ljava/lang/String;Lcom/example/matchmaker/matchmaker/registry/Parameter$Location;)V" } : Jvm.MethodName) prog_34_method_1_code (3 : Nat) (Option.none : Option Jvm.ClassFile.FieldType)).before args0 about1 = true := code_word (m := ⟨8, 0⟩) (meth := k8m0) (c := k8c0) (by decide +kernel) rfl rfl rfl (by decide +kernel)
set_option maxRecDepth 65536 in
theorem w_c7 : (Jvm.Cond.code ({ cls := "java/util/Objects", name := "requireNonNull", desc := "(Ljava/lang/Object;Ljava/lang/String;)Ljava/lang/Object;" } : Jvm.MethodName) jdk_31_method_11_code (2 : Nat) (Option.some (Jvm.ClassFile.FieldType.object "java/lang/Object"))).before args0 about1 = true := code_word (m := ⟨11, 1⟩) (meth := k11m1) (c := k11c1) (by decide +kernel) rfl rfl rfl (by decide +kernel)
set_option maxRecDepth 65536 in
theorem w_c8 : (Jvm.Cond.code ({ cls := "com/example/matchmaker/matchmaker/registry/Parameter", name := "equals", desc := "(Ljava/lang/Object;)Z" } : Jvm.MethodName) prog_34_method_4_code (3 : Nat) (Option.some Jvm.ClassFile.FieldType.boolean)).before args0 about1 = true := code_word (m := ⟨8, 1⟩) (meth := k8m1) (c := k8c1) (by decide +kernel) rfl rfl rfl (by decide +kernel)
set_option maxRecDepth 65536 in
theorem w_c9 : (Jvm.Cond.code ({ cls := "java/lang/String", name := "equals", desc := "(Ljava/lang/Object;)Z" } : Jvm.MethodName) jdk_42_method_66_code (3 : Nat) (Option.some Jvm.ClassFile.FieldType.boolean)).before args0 about1 = true := code_word (m := ⟨7, 2⟩) (meth := k7m2) (c := k7c2) (by decide +kernel) rfl rfl rfl (by decide +kernel)
set_option maxRecDepth 65536 in
theorem w_c10 : (Jvm.Cond.code ({ cls := "java/lang/StringLatin1", name := "equals", desc := "([B[B)Z" } : Jvm.MethodName) jdk_43_method_13_code (3 : Nat) (Option.some Jvm.ClassFile.FieldType.boolean)).before args0 about1 = true := code_word (m := ⟨12, 1⟩) (meth := k12m1) (c := k12c1) (by decide +kernel) rfl rfl rfl (by decide +kernel)
set_option maxRecDepth 65536 in
theorem w_c11 : (Jvm.Cond.code ({ cls := "java/lang/StringUTF16", name := "compress", desc := "([CII)[B" } : Jvm.MethodName) jdk_52_method_16_code (6 : Nat) (Option.some (Jvm.ClassFile.FieldType.array Jvm.ClassFile.FieldType.byte))).before args0 about1 = true := code_word (m := ⟨13, 2⟩) (meth := k13m2) (c := k13c2) (by decide +kernel) rfl rfl rfl (by decide +kernel)
set_option maxRecDepth 65536 in
theorem w_c12 : (Jvm.Cond.code ({ cls := "java/lang/StringUTF16", name := "compress", desc := "([CI[BII)I" } : Jvm.MethodName) jdk_52_method_21_code (7 : Nat) (Option.some Jvm.ClassFile.FieldType.int)).before args0 about1 = true := code_word (m := ⟨13, 3⟩) (meth := k13m3) (c := k13c3) (by decide +kernel) rfl rfl rfl (by decide +kernel)
set_option maxRecDepth 65536 in
theorem w_c13 : (Jvm.Cond.code ({ cls := "java/lang/StringUTF16", name := "coderFromArrayLen", desc := "([BI)B" } : Jvm.MethodName) jdk_52_method_15_code (2 : Nat) (Option.some Jvm.ClassFile.FieldType.byte)).before args0 about1 = true := code_word (m := ⟨13, 1⟩) (meth := k13m1) (c := k13c1) (by decide +kernel) rfl rfl rfl (by decide +kernel)
def codes1 : List Jvm.Cond := [Jvm.Cond.code x code maxLocals ret, Jvm.Cond.code ({ cls := "com/example/matchmaker/matchmaker/registry/ParameterEqualsPinLaw", name := "mk", desc := "(ICC)Ljava/lang/String;" } : Jvm.MethodName) method_3_code (3 : Nat) (Option.some (Jvm.ClassFile.FieldType.object "java/lang/String")), Jvm.Cond.code ({ cls := "java/lang/String", name := "<init>", desc := "([C)V" } : Jvm.MethodName) jdk_42_method_3_code (2 : Nat) (Option.none : Option Jvm.ClassFile.FieldType), Jvm.Cond.code ({ cls := "java/lang/String", name := "<init>", desc := "([CIILjava/lang/Void;)V" } : Jvm.MethodName) jdk_42_method_149_code (6 : Nat) (Option.none : Option Jvm.ClassFile.FieldType), Jvm.Cond.code ({ cls := "java/lang/Object", name := "<init>", desc := "()V" } : Jvm.MethodName) object_method_1_code (1 : Nat) (Option.none : Option Jvm.ClassFile.FieldType), Jvm.Cond.code ({ cls := "com/example/matchmaker/matchmaker/registry/ParameterEqualsPinLaw", name := "loc", desc := "(I)Lcom/example/matchmaker/matchmaker/registry/Parameter$Location;" } : Jvm.MethodName) method_2_code (1 : Nat) (Option.some (Jvm.ClassFile.FieldType.object "com/example/matchmaker/matchmaker/registry/Parameter$Location")), Jvm.Cond.code ({ cls := "com/example/matchmaker/matchmaker/registry/Parameter", name := "<init>", desc := "(Ljava/lang/String;Lcom/example/matchmaker/matchmaker/registry/Parameter$Location;)V" } : Jvm.MethodName) prog_34_method_1_code (3 : Nat) (Option.none : Option Jvm.ClassFile.FieldType), Jvm.Cond.code ({ cls := "java/util/Objects", name := "requireNonNull", desc := "(Ljava/lang/Object;Ljava/lang/String;)Ljava/lang/Object;" } : Jvm.MethodName) jdk_31_method_11_code (2 : Nat) (Option.some (Jvm.ClassFile.FieldType.object "java/lang/Object")), Jvm.Cond.code ({ cls := "com/example/matchmaker/matchmaker/registry/Parameter", name := "equals", desc := "(Ljava/lang/Object;)Z" } : Jvm.MethodName) prog_34_method_4_code (3 : Nat) (Option.some Jvm.ClassFile.FieldType.boolean), Jvm.Cond.code ({ cls := "java/lang/String", name := "equals", desc := "(Ljava/lang/Object;)Z" } : Jvm.MethodName) jdk_42_method_66_code (3 : Nat) (Option.some Jvm.ClassFile.FieldType.boolean), Jvm.Cond.code ({ cls := "java/lang/StringLatin1", name := "equals", desc := "([B[B)Z" } : Jvm.MethodName) jdk_43_method_13_code (3 : Nat) (Option.some Jvm.ClassFile.FieldType.boolean), Jvm.Cond.code ({ cls := "java/lang/StringUTF16", name := "compress", desc := "([CII)[B" } : Jvm.MethodName) jdk_52_method_16_code (6 : Nat) (Option.some (Jvm.ClassFile.FieldType.array Jvm.ClassFile.FieldType.byte)), Jvm.Cond.code ({ cls := "java/lang/StringUTF16", name := "compress", desc := "([CI[BII)I" } : Jvm.MethodName) jdk_52_method_21_code (7 : Nat) (Option.some Jvm.ClassFile.FieldType.int), Jvm.Cond.code ({ cls := "java/lang/StringUTF16", name := "coderFromArrayLen", desc := "([BI)B" } : Jvm.MethodName) jdk_52_method_15_code (2 : Nat) (Option.some Jvm.ClassFile.FieldType.byte)]
set_option maxRecDepth 65536 in
theorem codes_eq : words1.filter isCode = codes1 := rfl
theorem w_codes : ∀ c ∈ words1.filter isCode, c.before args0 about1 = true := by
  rw [codes_eq]
  intro c hc
  simp only [codes1, List.mem_cons, List.not_mem_nil, or_false] at hc
  rcases hc with rfl | rfl | rfl | rfl | rfl | rfl | rfl | rfl | rfl | rfl | rfl | rfl | rfl | rfl
  · exact w_c0
  · exact w_c1
  · exact w_c2
  · exact w_c3
  · exact w_c4
  · exact w_c5
  · exact w_c6
  · exact w_c7
  · exact w_c8
  · exact w_c9
  · exact w_c10
  · exact w_c11
  · exact w_c12
  · exact w_c13
set_option maxRecDepth 65536 in
theorem w_t1 : (words1.take 24).all (fun c => isCode c || c.before args0 about1) = true := by decide +kernel
set_option maxRecDepth 65536 in
theorem w_t2 : ((words1.drop 24).take 24).all (fun c => isCode c || c.before args0 about1) = true := by decide +kernel
set_option maxRecDepth 65536 in
theorem w_t3 : (((words1.drop 24).drop 24).take 24).all (fun c => isCode c || c.before args0 about1) = true := by decide +kernel
set_option maxRecDepth 65536 in
theorem w_t4 : (((words1.drop 24).drop 24).drop 24).all (fun c => isCode c || c.before args0 about1) = true := by decide +kernel
theorem w_tables : (allAtoms (Jvm.Cond.code x code maxLocals ret :: tables_1)).before args0 about1 = true := by
  rw [allAtoms_all]
  show words1.all (fun c => c.before args0 about1) = true
  refine all_split ?_ w_codes
  rw [← List.take_append_drop 24 words1, List.all_append, w_t1, ← List.take_append_drop 24 (words1.drop 24), List.all_append, w_t2, ← List.take_append_drop 24 ((words1.drop 24).drop 24), List.all_append, w_t3, w_t4]
  rfl
set_option maxRecDepth 65536 in
theorem w_rest : rest_1_c.before args0 about1 = true := by decide +kernel
set_option maxRecDepth 65536 in
theorem w_case : (Jvm.Cond.and given_1 narrow_1).before args0 about1 = true := by decide +kernel
set_option maxRecDepth 65536 in
theorem w_consts : constsHeld consts_1 about1 := Jvm.Lit.constsHeldB_iff.mp (by decide +kernel)
theorem w_applies : (headSpec (Jvm.Cond.code x code maxLocals ret :: tables_1) room_1).applies x e0.platform about1 = true :=
  (Spec.applies_iff w_frames).mpr ⟨w_running, w_runnable, w_alone, w_named, w_hears, w_ripe, w_room, w_tables⟩
theorem atStart : AtStart classFile x code maxLocals ret World_1 tables_1 room_1 Calls_1 rest_1 Pre_1 launch0 p0 e0 about1 theMethod args0 below0 :=
  ⟨lists_1, trivial, launch0.admits_env _ _ _, launch0.least_env, fairChoices_fair.cas, fairChoices_fair.clock, w_frames, w_args, w_heap, w_applies, ⟨w_consts, trivial⟩, w_rest, w_case⟩
end start1
theorem witness_1 : WitnessClaimed_1 := ⟨start1.p0, start1.e0, start1.about1, start1.theMethod, start1.args0, start1.below0, start1.atStart⟩
end Jvm.Pilot.@@N@@
